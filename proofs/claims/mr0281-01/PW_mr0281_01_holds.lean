import PyProof.Rows.All
import Wide.All
import OpenK.AllK
import Wide.FinOn
import PySem.Challenge.RW_mr0281_01
set_option Elab.async false
set_option maxRecDepth 100000

section
open PySem PySem.W PyProof.Rows
namespace Mine
noncomputable abbrev PR := PySem.Challenge.pw_mr0281_01
/-- the statement at place i of the text; at place j of the class at place i -/
noncomputable def stAt (i : Nat) : Stmt := (PR.main.body.drop i).headD (.Pass ⟨0, 0, 0, 0⟩)
noncomputable def inCls (i j : Nat) : Stmt := match stAt i with
  | .ClassDef _ _ _ b .. => (b.drop j).headD (.Pass ⟨0, 0, 0, 0⟩)
  | s => s
noncomputable def fnA : Stmt → Arguments
  | .FunctionDef _ a .. => a
  | _ => ⟨[], [], none, [], [], none, []⟩
noncomputable def fnB : Stmt → List Stmt
  | .FunctionDef _ _ b .. => b
  | _ => []
noncomputable def fnS : Stmt → Scope
  | .FunctionDef _ _ _ _ _ _ s .. => s
  | _ => PR.main.scope
end Mine
end

section
open PySem PySem.W PyProof.Rows
set_option linter.unusedVariables false
namespace Mine
noncomputable abbrev ent (P : Params) (x : String) (t : Tok) (v : Value) : DictEntry := { hash := PyData.keyHash P (Str.ofString x), key := Value.str (Str.ofString x) t, val := v }
noncomputable def o43 (P : Params) : Obj := { cls := Value.type "tuple", data := Data.seq #[] }
noncomputable def o44 (P : Params) : Obj := { cls := Value.none, data := Data.fields #[] }
noncomputable def o45 (P : Params) : Obj := { cls := Value.type "code", data := Data.fields #[Value.str (Str.ofString "<module>") 182, Value.str (Str.ofString "<module>") 183, Value.str (Str.ofString "/claim/cut.py") 184, Value.int 1 0, Value.int 0 0, Value.int 0 0, Value.int 0 0, Value.int 0 0, Value.ref 11, Value.bool false, Value.int 181 0, Value.ref 12, Value.none, Value.none, Value.none, Value.none, Value.int 185 0, Value.int 1 0, Value.str (Str.ofString "/claim/cut.py") 186] }
noncomputable def o46 (P : Params) : Obj := { cls := Value.type "frame", slots := #[some (Value.ref 13), some (Value.ref 3), some (Value.ref 3), none, some (Value.str (Str.ofString "__main__") 164), none, some (Value.ref 0)] }
noncomputable def o49 (P : Params) : Obj := { cls := Value.type "dict", data := Data.dict #[ent P "__name__" 165 (Value.str (Str.ofString "cpy313.graphlib") 204), ent P "__doc__" 166 Value.none, ent P "__package__" 167 Value.none, ent P "__loader__" 168 (Value.builtin "__main__.__loader__#opaque"), ent P "__spec__" 169 Value.none, ent P "__annotations__" 170 (Value.ref 6), ent P "__builtins__" 171 (Value.ref 4), ent P "__file__" 173 (Value.str (Str.ofString "/claim/cut.py") 172), ent P "__cached__" 174 Value.none, ent P "_strcoll" 196 (Value.ref 21), ent P "_strxfrm" 203 (Value.ref 28), ent P "_NODE_OUT" 208 (Value.int (-1) 207), ent P "_NODE_DONE" 211 (Value.int (-2) 210), ent P "_NodeInfo" 248 (Value.ref 47)] 14 }
noncomputable def o50 (P : Params) : Obj := { cls := Value.none, data := Data.fields #[Value.int 2 0, Value.int 0 0, Value.ref 20, Value.int 4 0, Value.int 0 0, Value.ref 27, Value.int 9 0, Value.int 0 0, Value.ref 34] }
noncomputable def o51 (P : Params) : Obj := { cls := Value.type "tuple", data := Data.seq #[] }
noncomputable def o52 (P : Params) : Obj := { cls := Value.none, data := Data.fields #[] }
noncomputable def o53 (P : Params) : Obj := { cls := Value.type "tuple", data := Data.seq #[Value.str (Str.ofString "a") 192, Value.str (Str.ofString "b") 193] }
noncomputable def o54 (P : Params) : Obj := { cls := Value.type "tuple", data := Data.seq #[] }
noncomputable def o55 (P : Params) : Obj := { cls := Value.none, data := Data.func { name := Str.ofString "_strcoll", qualname := Str.ofString "_strcoll", params := fnA (stAt 1), body := FuncBody.stmts (fnB (stAt 1)), scope := fnS (stAt 1), globals := 0, closure := [], defaults := Value.none, kwdefaults := Value.none } }
noncomputable def o56 (P : Params) : Obj := { cls := Value.type "code", data := Data.fields #[Value.str (Str.ofString "_strcoll") 189, Value.str (Str.ofString "_strcoll") 190, Value.str (Str.ofString "/claim/cut.py") 191, Value.int 2 0, Value.int 2 0, Value.int 0 0, Value.int 0 0, Value.int 3 0, Value.ref 15, Value.bool true, Value.int 181 0, Value.ref 16, Value.none, Value.ref 17, Value.ref 18, Value.ref 19, Value.int 194 0, Value.int 2 0, Value.str (Str.ofString "/claim/cut.py") 195] }
noncomputable def o57 (P : Params) : Obj := { cls := Value.type "function", data := Data.func { name := Str.ofString "_strcoll", qualname := Str.ofString "_strcoll", params := fnA (stAt 1), body := FuncBody.stmts (fnB (stAt 1)), scope := fnS (stAt 1), globals := 3, closure := [], defaults := Value.none, kwdefaults := Value.none, pyModule := Value.str (Str.ofString "cpy313.locale") 187, code := Value.ref 20 } }
noncomputable def o58 (P : Params) : Obj := { cls := Value.type "tuple", data := Data.seq #[] }
noncomputable def o59 (P : Params) : Obj := { cls := Value.none, data := Data.fields #[] }
noncomputable def o60 (P : Params) : Obj := { cls := Value.type "tuple", data := Data.seq #[Value.str (Str.ofString "s") 200] }
noncomputable def o61 (P : Params) : Obj := { cls := Value.type "tuple", data := Data.seq #[] }
noncomputable def o62 (P : Params) : Obj := { cls := Value.none, data := Data.func { name := Str.ofString "_strxfrm", qualname := Str.ofString "_strxfrm", params := fnA (stAt 2), body := FuncBody.stmts (fnB (stAt 2)), scope := fnS (stAt 2), globals := 0, closure := [], defaults := Value.none, kwdefaults := Value.none } }
noncomputable def o63 (P : Params) : Obj := { cls := Value.type "code", data := Data.fields #[Value.str (Str.ofString "_strxfrm") 197, Value.str (Str.ofString "_strxfrm") 198, Value.str (Str.ofString "/claim/cut.py") 199, Value.int 4 0, Value.int 1 0, Value.int 0 0, Value.int 0 0, Value.int 3 0, Value.ref 22, Value.bool true, Value.int 181 0, Value.ref 23, Value.none, Value.ref 24, Value.ref 25, Value.ref 26, Value.int 201 0, Value.int 4 0, Value.str (Str.ofString "/claim/cut.py") 202] }
noncomputable def o64 (P : Params) : Obj := { cls := Value.type "function", data := Data.func { name := Str.ofString "_strxfrm", qualname := Str.ofString "_strxfrm", params := fnA (stAt 2), body := FuncBody.stmts (fnB (stAt 2)), scope := fnS (stAt 2), globals := 3, closure := [], defaults := Value.none, kwdefaults := Value.none, pyModule := Value.str (Str.ofString "cpy313.locale") 187, code := Value.ref 27 } }
noncomputable def o65 (P : Params) : Obj := { cls := Value.type "tuple", data := Data.seq #[] }
noncomputable def o66 (P : Params) : Obj := { cls := Value.type "builtin_function_or_method", data := Data.fields #[Value.builtin "type.__prepare__", Value.type "type"] }
noncomputable def o67 (P : Params) : Obj := { cls := Value.type "dict", data := Data.dict #[ent P "__module__" 219 (Value.str (Str.ofString "cpy313.graphlib") 204), ent P "__qualname__" 221 (Value.str (Str.ofString "_NodeInfo") 220), ent P "__firstlineno__" 223 (Value.int 9 222), ent P "__slots__" 227 (Value.ref 36), ent P "__init__" 235 (Value.ref 43), ent P "__static_attributes__" 239 (Value.ref 44)] 6 }
noncomputable def o68 (P : Params) : Obj := { cls := Value.type "tuple", data := Data.seq #[] }
noncomputable def o69 (P : Params) : Obj := { cls := Value.none, data := Data.fields #[Value.int 12 0, Value.int 4 0, Value.ref 42] }
noncomputable def o70 (P : Params) : Obj := { cls := Value.type "code", data := Data.fields #[Value.str (Str.ofString "_NodeInfo") 214, Value.str (Str.ofString "_NodeInfo") 215, Value.str (Str.ofString "/claim/cut.py") 216, Value.int 9 0, Value.int 0 0, Value.int 0 0, Value.int 0 0, Value.int 0 0, Value.ref 32, Value.bool false, Value.int 181 0, Value.ref 33, Value.none, Value.none, Value.none, Value.none, Value.int 217 0, Value.int 9 0, Value.str (Str.ofString "/claim/cut.py") 218] }
noncomputable def o71 (P : Params) : Obj := { cls := Value.type "frame", slots := #[some (Value.ref 34), some (Value.ref 3), some (Value.ref 31), none, some (Value.str (Str.ofString "cpy313.graphlib") 204), none, some (Value.ref 0)] }
noncomputable def o72 (P : Params) : Obj := { cls := Value.type "tuple", data := Data.seq #[Value.str (Str.ofString "node") 224, Value.str (Str.ofString "npredecessors") 225, Value.str (Str.ofString "successors") 226] }
noncomputable def o73 (P : Params) : Obj := { cls := Value.type "tuple", data := Data.seq #[] }
noncomputable def o74 (P : Params) : Obj := { cls := Value.none, data := Data.fields #[] }
noncomputable def o75 (P : Params) : Obj := { cls := Value.type "tuple", data := Data.seq #[Value.str (Str.ofString "self") 231, Value.str (Str.ofString "node") 232] }
noncomputable def o76 (P : Params) : Obj := { cls := Value.type "tuple", data := Data.seq #[] }
noncomputable def o77 (P : Params) : Obj := { cls := Value.none, data := Data.func { name := Str.ofString "__init__", qualname := Str.ofString "_NodeInfo.__init__", params := fnA (inCls 6 1), body := FuncBody.stmts (fnB (inCls 6 1)), scope := fnS (inCls 6 1), globals := 0, closure := [], defaults := Value.none, kwdefaults := Value.none } }
noncomputable def o78 (P : Params) : Obj := { cls := Value.type "code", data := Data.fields #[Value.str (Str.ofString "__init__") 228, Value.str (Str.ofString "_NodeInfo.__init__") 229, Value.str (Str.ofString "/claim/cut.py") 230, Value.int 12 0, Value.int 2 0, Value.int 0 0, Value.int 0 0, Value.int 3 0, Value.ref 37, Value.bool true, Value.int 181 0, Value.ref 38, Value.none, Value.ref 39, Value.ref 40, Value.ref 41, Value.int 233 0, Value.int 12 0, Value.str (Str.ofString "/claim/cut.py") 234] }
noncomputable def o79 (P : Params) : Obj := { cls := Value.type "function", data := Data.func { name := Str.ofString "__init__", qualname := Str.ofString "_NodeInfo.__init__", params := fnA (inCls 6 1), body := FuncBody.stmts (fnB (inCls 6 1)), scope := fnS (inCls 6 1), globals := 3, closure := [], defaults := Value.none, kwdefaults := Value.none, pyModule := Value.str (Str.ofString "cpy313.graphlib") 204, code := Value.ref 42 } }
noncomputable def o80 (P : Params) : Obj := { cls := Value.type "tuple", data := Data.seq #[Value.str (Str.ofString "node") 236, Value.str (Str.ofString "npredecessors") 237, Value.str (Str.ofString "successors") 238] }
noncomputable def o81 (P : Params) : Obj := { cls := Value.type "list", data := Data.seq #[Value.str (Str.ofString "node") 224, Value.str (Str.ofString "npredecessors") 225, Value.str (Str.ofString "successors") 226] 1 }
noncomputable def o82 (P : Params) : Obj := { cls := Value.type "dict", data := Data.dict #[ent P "__module__" 219 (Value.str (Str.ofString "cpy313.graphlib") 204), ent P "__firstlineno__" 223 (Value.int 9 222), ent P "__slots__" 227 (Value.ref 36), ent P "__init__" 235 (Value.ref 43), ent P "__static_attributes__" 239 (Value.ref 44), ent P "node" 241 (Value.ref 48), ent P "npredecessors" 243 (Value.ref 49), ent P "successors" 245 (Value.ref 50), ent P "__doc__" 246 Value.none] 5 }
noncomputable def o83 (P : Params) : Obj := { cls := Value.type "type", data := Data.cls { name := Str.ofString "_NodeInfo", bases := [Value.type "object"], mro := [Value.ref 47, Value.type "object"], ns := 46, qualname := Str.ofString "_NodeInfo", hasDict := false, slotNames := [Str.ofString "node", Str.ofString "npredecessors", Str.ofString "successors"] }, slots := #[none, none, some (Value.str (Str.ofString "_NodeInfo") 212), some (Value.str (Str.ofString "_NodeInfo") 220), some (Value.builtin "object.__new__"), some (Value.bool false)] }
noncomputable def o84 (P : Params) : Obj := { cls := Value.type "member_descriptor", data := Data.fields #[Value.str (Str.ofString "node") 240, Value.ref 47, Value.builtin "proto.slot", Value.builtin "proto.slot#set", Value.int 2 0] }
noncomputable def o85 (P : Params) : Obj := { cls := Value.type "member_descriptor", data := Data.fields #[Value.str (Str.ofString "npredecessors") 242, Value.ref 47, Value.builtin "proto.slot", Value.builtin "proto.slot#set", Value.int 1 0] }
noncomputable def o86 (P : Params) : Obj := { cls := Value.type "member_descriptor", data := Data.fields #[Value.str (Str.ofString "successors") 244, Value.ref 47, Value.builtin "proto.slot", Value.builtin "proto.slot#set", Value.int 0 0] }
noncomputable def o87 (P : Params) : Obj := { cls := Value.type "super", data := Data.fields #[Value.ref 47, Value.ref 47, Value.ref 47] }
noncomputable def o88 (P : Params) : Obj := { cls := Value.type "builtin_function_or_method", data := Data.fields #[Value.builtin "object.__init_subclass__", Value.ref 47] }
noncomputable def o89 (P : Params) : Obj := { cls := Value.type "dict", data := Data.dict #[ent P "__name__" 165 (Value.str (Str.ofString "cpy313.graphlib") 204), ent P "__doc__" 166 Value.none, ent P "__package__" 167 Value.none, ent P "__loader__" 168 (Value.builtin "__main__.__loader__#opaque"), ent P "__spec__" 169 Value.none, ent P "__annotations__" 170 (Value.ref 6), ent P "__builtins__" 171 (Value.ref 4), ent P "__file__" 173 (Value.str (Str.ofString "/claim/cut.py") 172), ent P "__cached__" 174 Value.none, ent P "_strcoll" 196 (Value.ref 21), ent P "_strxfrm" 203 (Value.ref 28), ent P "_NODE_OUT" 208 (Value.int (-1) 207), ent P "_NODE_DONE" 211 (Value.int (-2) 210), ent P "_NodeInfo" 248 (Value.ref 47), ent P "CycleError" 266 (Value.ref 62)] 15 }
noncomputable def o90 (P : Params) : Obj := { cls := Value.none, data := Data.fields #[Value.int 2 0, Value.int 0 0, Value.ref 20, Value.int 4 0, Value.int 0 0, Value.ref 27, Value.int 9 0, Value.int 0 0, Value.ref 34, Value.int 16 0, Value.int 0 0, Value.ref 58] }
noncomputable def o91 (P : Params) : Obj := { cls := Value.type "tuple", data := Data.seq #[Value.type "ValueError"] }
noncomputable def o92 (P : Params) : Obj := { cls := Value.type "builtin_function_or_method", data := Data.fields #[Value.builtin "type.__prepare__", Value.type "type"] }
noncomputable def o93 (P : Params) : Obj := { cls := Value.type "dict", data := Data.dict #[ent P "__module__" 256 (Value.str (Str.ofString "cpy313.graphlib") 204), ent P "__qualname__" 258 (Value.str (Str.ofString "CycleError") 257), ent P "__firstlineno__" 260 (Value.int 16 259), ent P "__static_attributes__" 261 (Value.ref 60)] 4 }
noncomputable def o94 (P : Params) : Obj := { cls := Value.type "tuple", data := Data.seq #[] }
noncomputable def o95 (P : Params) : Obj := { cls := Value.none, data := Data.fields #[] }
noncomputable def o96 (P : Params) : Obj := { cls := Value.type "code", data := Data.fields #[Value.str (Str.ofString "CycleError") 251, Value.str (Str.ofString "CycleError") 252, Value.str (Str.ofString "/claim/cut.py") 253, Value.int 16 0, Value.int 0 0, Value.int 0 0, Value.int 0 0, Value.int 0 0, Value.ref 56, Value.bool false, Value.int 181 0, Value.ref 57, Value.none, Value.none, Value.none, Value.none, Value.int 254 0, Value.int 16 0, Value.str (Str.ofString "/claim/cut.py") 255] }
noncomputable def o97 (P : Params) : Obj := { cls := Value.type "frame", slots := #[some (Value.ref 58), some (Value.ref 3), some (Value.ref 55), none, some (Value.str (Str.ofString "cpy313.graphlib") 204), none, some (Value.ref 0)] }
noncomputable def o98 (P : Params) : Obj := { cls := Value.type "tuple", data := Data.seq #[] }
noncomputable def o99 (P : Params) : Obj := { cls := Value.type "dict", data := Data.dict #[ent P "__module__" 256 (Value.str (Str.ofString "cpy313.graphlib") 204), ent P "__firstlineno__" 260 (Value.int 16 259), ent P "__static_attributes__" 261 (Value.ref 60), ent P "__weakref__" 263 (Value.ref 63), ent P "__doc__" 264 Value.none] 3 }
noncomputable def o100 (P : Params) : Obj := { cls := Value.type "type", data := Data.cls { name := Str.ofString "CycleError", bases := [Value.type "ValueError"], mro := [Value.ref 62, Value.type "ValueError", Value.type "Exception", Value.type "BaseException", Value.type "object"], ns := 61, qualname := Str.ofString "CycleError" }, slots := #[some (Value.ref 53), none, some (Value.str (Str.ofString "CycleError") 249), some (Value.str (Str.ofString "CycleError") 257), some (Value.builtin "ValueError.__new__"), some (Value.bool true)] }
noncomputable def o101 (P : Params) : Obj := { cls := Value.type "getset_descriptor", data := Data.fields #[Value.str (Str.ofString "__weakref__") 262, Value.ref 62, Value.builtin "ExceptionGroup.__weakref__", Value.none] }
noncomputable def o102 (P : Params) : Obj := { cls := Value.type "super", data := Data.fields #[Value.ref 62, Value.ref 62, Value.ref 62] }
noncomputable def o103 (P : Params) : Obj := { cls := Value.type "builtin_function_or_method", data := Data.fields #[Value.builtin "object.__init_subclass__", Value.ref 62] }
noncomputable def o104 (P : Params) : Obj := { cls := Value.type "dict", data := Data.dict #[ent P "__name__" 165 (Value.str (Str.ofString "cpy313.graphlib") 204), ent P "__doc__" 166 Value.none, ent P "__package__" 167 Value.none, ent P "__loader__" 168 (Value.builtin "__main__.__loader__#opaque"), ent P "__spec__" 169 Value.none, ent P "__annotations__" 170 (Value.ref 6), ent P "__builtins__" 171 (Value.ref 4), ent P "__file__" 173 (Value.str (Str.ofString "/claim/cut.py") 172), ent P "__cached__" 174 Value.none, ent P "_strcoll" 196 (Value.ref 21), ent P "_strxfrm" 203 (Value.ref 28), ent P "_NODE_OUT" 208 (Value.int (-1) 207), ent P "_NODE_DONE" 211 (Value.int (-2) 210), ent P "_NodeInfo" 248 (Value.ref 47), ent P "CycleError" 266 (Value.ref 62), ent P "TopologicalSorter" 386 (Value.ref 144)] 16 }
noncomputable def o105 (P : Params) : Obj := { cls := Value.none, data := Data.fields #[Value.int 2 0, Value.int 0 0, Value.ref 20, Value.int 4 0, Value.int 0 0, Value.ref 27, Value.int 9 0, Value.int 0 0, Value.ref 34, Value.int 16 0, Value.int 0 0, Value.ref 58, Value.int 18 0, Value.int 0 0, Value.ref 71] }
noncomputable def o106 (P : Params) : Obj := { cls := Value.type "tuple", data := Data.seq #[] }
noncomputable def o107 (P : Params) : Obj := { cls := Value.type "builtin_function_or_method", data := Data.fields #[Value.builtin "type.__prepare__", Value.type "type"] }
noncomputable def o108 (P : Params) : Obj := { cls := Value.type "dict", data := Data.dict #[ent P "__module__" 274 (Value.str (Str.ofString "cpy313.graphlib") 204), ent P "__qualname__" 276 (Value.str (Str.ofString "TopologicalSorter") 275), ent P "__firstlineno__" 278 (Value.int 18 277), ent P "__init__" 288 (Value.ref 80), ent P "_get_nodeinfo" 297 (Value.ref 87), ent P "add" 309 (Value.ref 94), ent P "prepare" 315 (Value.ref 99), ent P "get_ready" 325 (Value.ref 106), ent P "is_active" 332 (Value.ref 113), ent P "__bool__" 339 (Value.ref 120), ent P "done" 353 (Value.ref 127), ent P "_find_cycle" 366 (Value.ref 134), ent P "static_order" 374 (Value.ref 141), ent P "__static_attributes__" 379 (Value.ref 142)] 14 }
noncomputable def o109 (P : Params) : Obj := { cls := Value.type "tuple", data := Data.seq #[] }
noncomputable def o110 (P : Params) : Obj := { cls := Value.none, data := Data.fields #[Value.int 20 0, Value.int 4 0, Value.ref 79, Value.int 29 0, Value.int 4 0, Value.ref 86, Value.int 34 0, Value.int 4 0, Value.ref 93, Value.int 43 0, Value.int 4 0, Value.ref 98, Value.int 51 0, Value.int 4 0, Value.ref 105, Value.int 62 0, Value.int 4 0, Value.ref 112, Value.int 67 0, Value.int 4 0, Value.ref 119, Value.int 70 0, Value.int 4 0, Value.ref 126, Value.int 93 0, Value.int 4 0, Value.ref 133, Value.int 122 0, Value.int 4 0, Value.ref 140] }
noncomputable def o111 (P : Params) : Obj := { cls := Value.type "code", data := Data.fields #[Value.str (Str.ofString "TopologicalSorter") 269, Value.str (Str.ofString "TopologicalSorter") 270, Value.str (Str.ofString "/claim/cut.py") 271, Value.int 18 0, Value.int 0 0, Value.int 0 0, Value.int 0 0, Value.int 0 0, Value.ref 69, Value.bool false, Value.int 181 0, Value.ref 70, Value.none, Value.none, Value.none, Value.none, Value.int 272 0, Value.int 18 0, Value.str (Str.ofString "/claim/cut.py") 273] }
noncomputable def o112 (P : Params) : Obj := { cls := Value.type "frame", slots := #[some (Value.ref 71), some (Value.ref 3), some (Value.ref 68), none, some (Value.str (Str.ofString "cpy313.graphlib") 204), none, some (Value.ref 0)] }
noncomputable def o113 (P : Params) : Obj := { cls := Value.type "tuple", data := Data.seq #[Value.none] }
noncomputable def o114 (P : Params) : Obj := { cls := Value.type "tuple", data := Data.seq #[] }
noncomputable def o115 (P : Params) : Obj := { cls := Value.none, data := Data.fields #[] }
noncomputable def o116 (P : Params) : Obj := { cls := Value.type "tuple", data := Data.seq #[Value.str (Str.ofString "self") 282, Value.str (Str.ofString "graph") 283, Value.str (Str.ofString "node") 284, Value.str (Str.ofString "predecessors") 285] }
noncomputable def o117 (P : Params) : Obj := { cls := Value.type "tuple", data := Data.seq #[] }
noncomputable def o118 (P : Params) : Obj := { cls := Value.none, data := Data.func { name := Str.ofString "__init__", qualname := Str.ofString "TopologicalSorter.__init__", params := fnA (inCls 8 0), body := FuncBody.stmts (fnB (inCls 8 0)), scope := fnS (inCls 8 0), globals := 0, closure := [], defaults := Value.none, kwdefaults := Value.none } }
noncomputable def o119 (P : Params) : Obj := { cls := Value.type "code", data := Data.fields #[Value.str (Str.ofString "__init__") 279, Value.str (Str.ofString "TopologicalSorter.__init__") 280, Value.str (Str.ofString "/claim/cut.py") 281, Value.int 20 0, Value.int 2 0, Value.int 0 0, Value.int 0 0, Value.int 3 0, Value.ref 74, Value.bool true, Value.int 181 0, Value.ref 75, Value.none, Value.ref 76, Value.ref 77, Value.ref 78, Value.int 286 0, Value.int 20 0, Value.str (Str.ofString "/claim/cut.py") 287] }
noncomputable def o120 (P : Params) : Obj := { cls := Value.type "function", data := Data.func { name := Str.ofString "__init__", qualname := Str.ofString "TopologicalSorter.__init__", params := fnA (inCls 8 0), body := FuncBody.stmts (fnB (inCls 8 0)), scope := fnS (inCls 8 0), globals := 3, closure := [], defaults := Value.ref 73, kwdefaults := Value.none, pyModule := Value.str (Str.ofString "cpy313.graphlib") 204, code := Value.ref 79 } }
noncomputable def o121 (P : Params) : Obj := { cls := Value.type "tuple", data := Data.seq #[] }
noncomputable def o122 (P : Params) : Obj := { cls := Value.none, data := Data.fields #[] }
noncomputable def o123 (P : Params) : Obj := { cls := Value.type "tuple", data := Data.seq #[Value.str (Str.ofString "self") 292, Value.str (Str.ofString "node") 293, Value.str (Str.ofString "result") 294] }
noncomputable def o124 (P : Params) : Obj := { cls := Value.type "tuple", data := Data.seq #[] }
noncomputable def o125 (P : Params) : Obj := { cls := Value.none, data := Data.func { name := Str.ofString "_get_nodeinfo", qualname := Str.ofString "TopologicalSorter._get_nodeinfo", params := fnA (inCls 8 1), body := FuncBody.stmts (fnB (inCls 8 1)), scope := fnS (inCls 8 1), globals := 0, closure := [], defaults := Value.none, kwdefaults := Value.none } }
noncomputable def o126 (P : Params) : Obj := { cls := Value.type "code", data := Data.fields #[Value.str (Str.ofString "_get_nodeinfo") 289, Value.str (Str.ofString "TopologicalSorter._get_nodeinfo") 290, Value.str (Str.ofString "/claim/cut.py") 291, Value.int 29 0, Value.int 2 0, Value.int 0 0, Value.int 0 0, Value.int 3 0, Value.ref 81, Value.bool true, Value.int 181 0, Value.ref 82, Value.none, Value.ref 83, Value.ref 84, Value.ref 85, Value.int 295 0, Value.int 29 0, Value.str (Str.ofString "/claim/cut.py") 296] }
noncomputable def o127 (P : Params) : Obj := { cls := Value.type "function", data := Data.func { name := Str.ofString "_get_nodeinfo", qualname := Str.ofString "TopologicalSorter._get_nodeinfo", params := fnA (inCls 8 1), body := FuncBody.stmts (fnB (inCls 8 1)), scope := fnS (inCls 8 1), globals := 3, closure := [], defaults := Value.none, kwdefaults := Value.none, pyModule := Value.str (Str.ofString "cpy313.graphlib") 204, code := Value.ref 86 } }
noncomputable def o128 (P : Params) : Obj := { cls := Value.type "tuple", data := Data.seq #[] }
noncomputable def o129 (P : Params) : Obj := { cls := Value.none, data := Data.fields #[] }
noncomputable def o130 (P : Params) : Obj := { cls := Value.type "tuple", data := Data.seq #[Value.str (Str.ofString "self") 301, Value.str (Str.ofString "node") 302, Value.str (Str.ofString "predecessors") 303, Value.str (Str.ofString "nodeinfo") 304, Value.str (Str.ofString "pred") 305, Value.str (Str.ofString "pred_info") 306] }
noncomputable def o131 (P : Params) : Obj := { cls := Value.type "tuple", data := Data.seq #[] }
noncomputable def o132 (P : Params) : Obj := { cls := Value.none, data := Data.func { name := Str.ofString "add", qualname := Str.ofString "TopologicalSorter.add", params := fnA (inCls 8 2), body := FuncBody.stmts (fnB (inCls 8 2)), scope := fnS (inCls 8 2), globals := 0, closure := [], defaults := Value.none, kwdefaults := Value.none } }
noncomputable def o133 (P : Params) : Obj := { cls := Value.type "code", data := Data.fields #[Value.str (Str.ofString "add") 298, Value.str (Str.ofString "TopologicalSorter.add") 299, Value.str (Str.ofString "/claim/cut.py") 300, Value.int 34 0, Value.int 2 0, Value.int 0 0, Value.int 0 0, Value.int 7 0, Value.ref 88, Value.bool true, Value.int 181 0, Value.ref 89, Value.none, Value.ref 90, Value.ref 91, Value.ref 92, Value.int 307 0, Value.int 34 0, Value.str (Str.ofString "/claim/cut.py") 308] }
noncomputable def o134 (P : Params) : Obj := { cls := Value.type "function", data := Data.func { name := Str.ofString "add", qualname := Str.ofString "TopologicalSorter.add", params := fnA (inCls 8 2), body := FuncBody.stmts (fnB (inCls 8 2)), scope := fnS (inCls 8 2), globals := 3, closure := [], defaults := Value.none, kwdefaults := Value.none, pyModule := Value.str (Str.ofString "cpy313.graphlib") 204, code := Value.ref 93 } }
noncomputable def o135 (P : Params) : Obj := { cls := Value.type "tuple", data := Data.seq #[] }
noncomputable def o136 (P : Params) : Obj := { cls := Value.none, data := Data.fields #[] }
noncomputable def o137 (P : Params) : Obj := { cls := Value.none, data := Data.func { name := Str.ofString "prepare", qualname := Str.ofString "TopologicalSorter.prepare", params := fnA (inCls 8 3), body := FuncBody.stmts (fnB (inCls 8 3)), scope := fnS (inCls 8 3), globals := 0, closure := [], defaults := Value.none, kwdefaults := Value.none } }
noncomputable def o138 (P : Params) : Obj := { cls := Value.type "code", data := Data.fields #[Value.str (Str.ofString "prepare") 310, Value.str (Str.ofString "TopologicalSorter.prepare") 311, Value.str (Str.ofString "/claim/cut.py") 312, Value.int 43 0, Value.int 1 0, Value.int 0 0, Value.int 0 0, Value.int 3 0, Value.ref 95, Value.bool true, Value.int 181 0, Value.ref 96, Value.none, Value.none, Value.none, Value.ref 97, Value.int 313 0, Value.int 43 0, Value.str (Str.ofString "/claim/cut.py") 314] }
noncomputable def o139 (P : Params) : Obj := { cls := Value.type "function", data := Data.func { name := Str.ofString "prepare", qualname := Str.ofString "TopologicalSorter.prepare", params := fnA (inCls 8 3), body := FuncBody.stmts (fnB (inCls 8 3)), scope := fnS (inCls 8 3), globals := 3, closure := [], defaults := Value.none, kwdefaults := Value.none, pyModule := Value.str (Str.ofString "cpy313.graphlib") 204, code := Value.ref 98 } }
noncomputable def o140 (P : Params) : Obj := { cls := Value.type "tuple", data := Data.seq #[] }
noncomputable def o141 (P : Params) : Obj := { cls := Value.none, data := Data.fields #[] }
noncomputable def o142 (P : Params) : Obj := { cls := Value.type "tuple", data := Data.seq #[Value.str (Str.ofString "self") 319, Value.str (Str.ofString "result") 320, Value.str (Str.ofString "n2i") 321, Value.str (Str.ofString "node") 322] }
noncomputable def o143 (P : Params) : Obj := { cls := Value.type "tuple", data := Data.seq #[] }
noncomputable def o144 (P : Params) : Obj := { cls := Value.none, data := Data.func { name := Str.ofString "get_ready", qualname := Str.ofString "TopologicalSorter.get_ready", params := fnA (inCls 8 4), body := FuncBody.stmts (fnB (inCls 8 4)), scope := fnS (inCls 8 4), globals := 0, closure := [], defaults := Value.none, kwdefaults := Value.none } }
noncomputable def o145 (P : Params) : Obj := { cls := Value.type "code", data := Data.fields #[Value.str (Str.ofString "get_ready") 316, Value.str (Str.ofString "TopologicalSorter.get_ready") 317, Value.str (Str.ofString "/claim/cut.py") 318, Value.int 51 0, Value.int 1 0, Value.int 0 0, Value.int 0 0, Value.int 3 0, Value.ref 100, Value.bool true, Value.int 181 0, Value.ref 101, Value.none, Value.ref 102, Value.ref 103, Value.ref 104, Value.int 323 0, Value.int 51 0, Value.str (Str.ofString "/claim/cut.py") 324] }
noncomputable def o146 (P : Params) : Obj := { cls := Value.type "function", data := Data.func { name := Str.ofString "get_ready", qualname := Str.ofString "TopologicalSorter.get_ready", params := fnA (inCls 8 4), body := FuncBody.stmts (fnB (inCls 8 4)), scope := fnS (inCls 8 4), globals := 3, closure := [], defaults := Value.none, kwdefaults := Value.none, pyModule := Value.str (Str.ofString "cpy313.graphlib") 204, code := Value.ref 105 } }
noncomputable def o147 (P : Params) : Obj := { cls := Value.type "tuple", data := Data.seq #[] }
noncomputable def o148 (P : Params) : Obj := { cls := Value.none, data := Data.fields #[] }
noncomputable def o149 (P : Params) : Obj := { cls := Value.type "tuple", data := Data.seq #[Value.str (Str.ofString "self") 329] }
noncomputable def o150 (P : Params) : Obj := { cls := Value.type "tuple", data := Data.seq #[] }
noncomputable def o151 (P : Params) : Obj := { cls := Value.none, data := Data.func { name := Str.ofString "is_active", qualname := Str.ofString "TopologicalSorter.is_active", params := fnA (inCls 8 5), body := FuncBody.stmts (fnB (inCls 8 5)), scope := fnS (inCls 8 5), globals := 0, closure := [], defaults := Value.none, kwdefaults := Value.none } }
noncomputable def o152 (P : Params) : Obj := { cls := Value.type "code", data := Data.fields #[Value.str (Str.ofString "is_active") 326, Value.str (Str.ofString "TopologicalSorter.is_active") 327, Value.str (Str.ofString "/claim/cut.py") 328, Value.int 62 0, Value.int 1 0, Value.int 0 0, Value.int 0 0, Value.int 3 0, Value.ref 107, Value.bool true, Value.int 181 0, Value.ref 108, Value.none, Value.ref 109, Value.ref 110, Value.ref 111, Value.int 330 0, Value.int 62 0, Value.str (Str.ofString "/claim/cut.py") 331] }
noncomputable def o153 (P : Params) : Obj := { cls := Value.type "function", data := Data.func { name := Str.ofString "is_active", qualname := Str.ofString "TopologicalSorter.is_active", params := fnA (inCls 8 5), body := FuncBody.stmts (fnB (inCls 8 5)), scope := fnS (inCls 8 5), globals := 3, closure := [], defaults := Value.none, kwdefaults := Value.none, pyModule := Value.str (Str.ofString "cpy313.graphlib") 204, code := Value.ref 112 } }
noncomputable def o154 (P : Params) : Obj := { cls := Value.type "tuple", data := Data.seq #[] }
noncomputable def o155 (P : Params) : Obj := { cls := Value.none, data := Data.fields #[] }
noncomputable def o156 (P : Params) : Obj := { cls := Value.type "tuple", data := Data.seq #[Value.str (Str.ofString "self") 336] }
noncomputable def o157 (P : Params) : Obj := { cls := Value.type "tuple", data := Data.seq #[] }
noncomputable def o158 (P : Params) : Obj := { cls := Value.none, data := Data.func { name := Str.ofString "__bool__", qualname := Str.ofString "TopologicalSorter.__bool__", params := fnA (inCls 8 6), body := FuncBody.stmts (fnB (inCls 8 6)), scope := fnS (inCls 8 6), globals := 0, closure := [], defaults := Value.none, kwdefaults := Value.none } }
noncomputable def o159 (P : Params) : Obj := { cls := Value.type "code", data := Data.fields #[Value.str (Str.ofString "__bool__") 333, Value.str (Str.ofString "TopologicalSorter.__bool__") 334, Value.str (Str.ofString "/claim/cut.py") 335, Value.int 67 0, Value.int 1 0, Value.int 0 0, Value.int 0 0, Value.int 3 0, Value.ref 114, Value.bool true, Value.int 181 0, Value.ref 115, Value.none, Value.ref 116, Value.ref 117, Value.ref 118, Value.int 337 0, Value.int 67 0, Value.str (Str.ofString "/claim/cut.py") 338] }
noncomputable def o160 (P : Params) : Obj := { cls := Value.type "function", data := Data.func { name := Str.ofString "__bool__", qualname := Str.ofString "TopologicalSorter.__bool__", params := fnA (inCls 8 6), body := FuncBody.stmts (fnB (inCls 8 6)), scope := fnS (inCls 8 6), globals := 3, closure := [], defaults := Value.none, kwdefaults := Value.none, pyModule := Value.str (Str.ofString "cpy313.graphlib") 204, code := Value.ref 119 } }
noncomputable def o161 (P : Params) : Obj := { cls := Value.type "tuple", data := Data.seq #[] }
noncomputable def o162 (P : Params) : Obj := { cls := Value.none, data := Data.fields #[] }
noncomputable def o163 (P : Params) : Obj := { cls := Value.type "tuple", data := Data.seq #[Value.str (Str.ofString "self") 343, Value.str (Str.ofString "nodes") 344, Value.str (Str.ofString "n2i") 345, Value.str (Str.ofString "node") 346, Value.str (Str.ofString "nodeinfo") 347, Value.str (Str.ofString "stat") 348, Value.str (Str.ofString "successor") 349, Value.str (Str.ofString "successor_info") 350] }
noncomputable def o164 (P : Params) : Obj := { cls := Value.type "tuple", data := Data.seq #[] }
noncomputable def o165 (P : Params) : Obj := { cls := Value.none, data := Data.func { name := Str.ofString "done", qualname := Str.ofString "TopologicalSorter.done", params := fnA (inCls 8 7), body := FuncBody.stmts (fnB (inCls 8 7)), scope := fnS (inCls 8 7), globals := 0, closure := [], defaults := Value.none, kwdefaults := Value.none } }
noncomputable def o166 (P : Params) : Obj := { cls := Value.type "code", data := Data.fields #[Value.str (Str.ofString "done") 340, Value.str (Str.ofString "TopologicalSorter.done") 341, Value.str (Str.ofString "/claim/cut.py") 342, Value.int 70 0, Value.int 1 0, Value.int 0 0, Value.int 0 0, Value.int 7 0, Value.ref 121, Value.bool true, Value.int 181 0, Value.ref 122, Value.none, Value.ref 123, Value.ref 124, Value.ref 125, Value.int 351 0, Value.int 70 0, Value.str (Str.ofString "/claim/cut.py") 352] }
noncomputable def o167 (P : Params) : Obj := { cls := Value.type "function", data := Data.func { name := Str.ofString "done", qualname := Str.ofString "TopologicalSorter.done", params := fnA (inCls 8 7), body := FuncBody.stmts (fnB (inCls 8 7)), scope := fnS (inCls 8 7), globals := 3, closure := [], defaults := Value.none, kwdefaults := Value.none, pyModule := Value.str (Str.ofString "cpy313.graphlib") 204, code := Value.ref 126 } }
noncomputable def o168 (P : Params) : Obj := { cls := Value.type "tuple", data := Data.seq #[] }
noncomputable def o169 (P : Params) : Obj := { cls := Value.none, data := Data.fields #[] }
noncomputable def o170 (P : Params) : Obj := { cls := Value.type "tuple", data := Data.seq #[Value.str (Str.ofString "self") 357, Value.str (Str.ofString "n2i") 358, Value.str (Str.ofString "stack") 359, Value.str (Str.ofString "itstack") 360, Value.str (Str.ofString "seen") 361, Value.str (Str.ofString "node2stacki") 362, Value.str (Str.ofString "node") 363] }
noncomputable def o171 (P : Params) : Obj := { cls := Value.type "tuple", data := Data.seq #[] }
noncomputable def o172 (P : Params) : Obj := { cls := Value.none, data := Data.func { name := Str.ofString "_find_cycle", qualname := Str.ofString "TopologicalSorter._find_cycle", params := fnA (inCls 8 8), body := FuncBody.stmts (fnB (inCls 8 8)), scope := fnS (inCls 8 8), globals := 0, closure := [], defaults := Value.none, kwdefaults := Value.none } }
noncomputable def o173 (P : Params) : Obj := { cls := Value.type "code", data := Data.fields #[Value.str (Str.ofString "_find_cycle") 354, Value.str (Str.ofString "TopologicalSorter._find_cycle") 355, Value.str (Str.ofString "/claim/cut.py") 356, Value.int 93 0, Value.int 1 0, Value.int 0 0, Value.int 0 0, Value.int 3 0, Value.ref 128, Value.bool true, Value.int 181 0, Value.ref 129, Value.none, Value.ref 130, Value.ref 131, Value.ref 132, Value.int 364 0, Value.int 93 0, Value.str (Str.ofString "/claim/cut.py") 365] }
noncomputable def o174 (P : Params) : Obj := { cls := Value.type "function", data := Data.func { name := Str.ofString "_find_cycle", qualname := Str.ofString "TopologicalSorter._find_cycle", params := fnA (inCls 8 8), body := FuncBody.stmts (fnB (inCls 8 8)), scope := fnS (inCls 8 8), globals := 3, closure := [], defaults := Value.none, kwdefaults := Value.none, pyModule := Value.str (Str.ofString "cpy313.graphlib") 204, code := Value.ref 133 } }
noncomputable def o175 (P : Params) : Obj := { cls := Value.type "tuple", data := Data.seq #[] }
noncomputable def o176 (P : Params) : Obj := { cls := Value.none, data := Data.fields #[] }
noncomputable def o177 (P : Params) : Obj := { cls := Value.type "tuple", data := Data.seq #[Value.str (Str.ofString "self") 370, Value.str (Str.ofString "node_group") 371] }
noncomputable def o178 (P : Params) : Obj := { cls := Value.type "tuple", data := Data.seq #[] }
noncomputable def o179 (P : Params) : Obj := { cls := Value.none, data := Data.func { name := Str.ofString "static_order", qualname := Str.ofString "TopologicalSorter.static_order", params := fnA (inCls 8 9), body := FuncBody.stmts (fnB (inCls 8 9)), scope := fnS (inCls 8 9), globals := 0, closure := [], defaults := Value.none, kwdefaults := Value.none } }
noncomputable def o180 (P : Params) : Obj := { cls := Value.type "code", data := Data.fields #[Value.str (Str.ofString "static_order") 367, Value.str (Str.ofString "TopologicalSorter.static_order") 368, Value.str (Str.ofString "/claim/cut.py") 369, Value.int 122 0, Value.int 1 0, Value.int 0 0, Value.int 0 0, Value.int 35 0, Value.ref 135, Value.bool true, Value.int 181 0, Value.ref 136, Value.none, Value.ref 137, Value.ref 138, Value.ref 139, Value.int 372 0, Value.int 122 0, Value.str (Str.ofString "/claim/cut.py") 373] }
noncomputable def o181 (P : Params) : Obj := { cls := Value.type "function", data := Data.func { name := Str.ofString "static_order", qualname := Str.ofString "TopologicalSorter.static_order", params := fnA (inCls 8 9), body := FuncBody.stmts (fnB (inCls 8 9)), scope := fnS (inCls 8 9), globals := 3, closure := [], defaults := Value.none, kwdefaults := Value.none, pyModule := Value.str (Str.ofString "cpy313.graphlib") 204, code := Value.ref 140 } }
noncomputable def o182 (P : Params) : Obj := { cls := Value.type "tuple", data := Data.seq #[Value.str (Str.ofString "_nfinished") 375, Value.str (Str.ofString "_node2info") 376, Value.str (Str.ofString "_npassedout") 377, Value.str (Str.ofString "_ready_nodes") 378] }
noncomputable def o183 (P : Params) : Obj := { cls := Value.type "dict", data := Data.dict #[ent P "__module__" 274 (Value.str (Str.ofString "cpy313.graphlib") 204), ent P "__firstlineno__" 278 (Value.int 18 277), ent P "__init__" 288 (Value.ref 80), ent P "_get_nodeinfo" 297 (Value.ref 87), ent P "add" 309 (Value.ref 94), ent P "prepare" 315 (Value.ref 99), ent P "get_ready" 325 (Value.ref 106), ent P "is_active" 332 (Value.ref 113), ent P "__bool__" 339 (Value.ref 120), ent P "done" 353 (Value.ref 127), ent P "_find_cycle" 366 (Value.ref 134), ent P "static_order" 374 (Value.ref 141), ent P "__static_attributes__" 379 (Value.ref 142), ent P "__dict__" 381 (Value.ref 145), ent P "__weakref__" 383 (Value.ref 146), ent P "__doc__" 384 Value.none] 4 }
noncomputable def o184 (P : Params) : Obj := { cls := Value.type "type", data := Data.cls { name := Str.ofString "TopologicalSorter", bases := [Value.type "object"], mro := [Value.ref 144, Value.type "object"], ns := 143, qualname := Str.ofString "TopologicalSorter" }, slots := #[none, none, some (Value.str (Str.ofString "TopologicalSorter") 267), some (Value.str (Str.ofString "TopologicalSorter") 275), some (Value.builtin "object.__new__"), some (Value.bool true)] }
noncomputable def o185 (P : Params) : Obj := { cls := Value.type "getset_descriptor", data := Data.fields #[Value.str (Str.ofString "__dict__") 380, Value.ref 144, Value.builtin "function.__dict__", Value.builtin "function.__dict__#set"] }
noncomputable def o186 (P : Params) : Obj := { cls := Value.type "getset_descriptor", data := Data.fields #[Value.str (Str.ofString "__weakref__") 382, Value.ref 144, Value.builtin "ExceptionGroup.__weakref__", Value.none] }
noncomputable def o187 (P : Params) : Obj := { cls := Value.type "super", data := Data.fields #[Value.ref 144, Value.ref 144, Value.ref 144] }
noncomputable def o188 (P : Params) : Obj := { cls := Value.type "builtin_function_or_method", data := Data.fields #[Value.builtin "object.__init_subclass__", Value.ref 144] }
noncomputable def o189 (P : Params) : Obj := { cls := Value.type "dict", data := Data.dict #[ent P "__name__" 165 (Value.str (Str.ofString "law_mr0281_01") 387), ent P "__doc__" 166 Value.none, ent P "__package__" 167 Value.none, ent P "__loader__" 168 (Value.builtin "__main__.__loader__#opaque"), ent P "__spec__" 169 Value.none, ent P "__annotations__" 170 (Value.ref 6), ent P "__builtins__" 171 (Value.ref 4), ent P "__file__" 173 (Value.str (Str.ofString "/claim/cut.py") 172), ent P "__cached__" 174 Value.none, ent P "_strcoll" 196 (Value.ref 21), ent P "_strxfrm" 203 (Value.ref 28), ent P "_NODE_OUT" 208 (Value.int (-1) 207), ent P "_NODE_DONE" 211 (Value.int (-2) 210), ent P "_NodeInfo" 248 (Value.ref 47), ent P "CycleError" 266 (Value.ref 62), ent P "TopologicalSorter" 386 (Value.ref 144), ent P "_law_text" 394 (Value.ref 153), ent P "_law_sign" 403 (Value.ref 160), ent P "_law_is_told" 413 (Value.ref 167), ent P "_law_tell" 423 (Value.ref 174), ent P "_law_rounds" 429 (Value.ref 179), ent P "law" 435 (Value.ref 184)] 22 }
noncomputable def o190 (P : Params) : Obj := { cls := Value.none, data := Data.fields #[Value.int 2 0, Value.int 0 0, Value.ref 20, Value.int 4 0, Value.int 0 0, Value.ref 27, Value.int 9 0, Value.int 0 0, Value.ref 34, Value.int 16 0, Value.int 0 0, Value.ref 58, Value.int 18 0, Value.int 0 0, Value.ref 71, Value.int 129 0, Value.int 0 0, Value.ref 152, Value.int 132 0, Value.int 0 0, Value.ref 159, Value.int 139 0, Value.int 0 0, Value.ref 166, Value.int 145 0, Value.int 0 0, Value.ref 173, Value.int 151 0, Value.int 0 0, Value.ref 178, Value.int 159 0, Value.int 0 0, Value.ref 183] }
noncomputable def o191 (P : Params) : Obj := { cls := Value.type "tuple", data := Data.seq #[] }
noncomputable def o192 (P : Params) : Obj := { cls := Value.none, data := Data.fields #[] }
noncomputable def o193 (P : Params) : Obj := { cls := Value.none, data := Data.func { name := Str.ofString "_law_text", qualname := Str.ofString "_law_text", params := fnA (stAt 10), body := FuncBody.stmts (fnB (stAt 10)), scope := fnS (stAt 10), globals := 0, closure := [], defaults := Value.none, kwdefaults := Value.none } }
noncomputable def o194 (P : Params) : Obj := { cls := Value.type "code", data := Data.fields #[Value.str (Str.ofString "_law_text") 389, Value.str (Str.ofString "_law_text") 390, Value.str (Str.ofString "/claim/cut.py") 391, Value.int 129 0, Value.int 1 0, Value.int 0 0, Value.int 0 0, Value.int 3 0, Value.ref 149, Value.bool true, Value.int 181 0, Value.ref 150, Value.none, Value.none, Value.none, Value.ref 151, Value.int 392 0, Value.int 129 0, Value.str (Str.ofString "/claim/cut.py") 393] }
noncomputable def o195 (P : Params) : Obj := { cls := Value.type "function", data := Data.func { name := Str.ofString "_law_text", qualname := Str.ofString "_law_text", params := fnA (stAt 10), body := FuncBody.stmts (fnB (stAt 10)), scope := fnS (stAt 10), globals := 3, closure := [], defaults := Value.none, kwdefaults := Value.none, pyModule := Value.str (Str.ofString "law_mr0281_01") 387, code := Value.ref 152 } }
noncomputable def o196 (P : Params) : Obj := { cls := Value.type "tuple", data := Data.seq #[] }
noncomputable def o197 (P : Params) : Obj := { cls := Value.none, data := Data.fields #[] }
noncomputable def o198 (P : Params) : Obj := { cls := Value.type "tuple", data := Data.seq #[Value.str (Str.ofString "one") 398, Value.str (Str.ofString "two") 399, Value.str (Str.ofString "place") 400] }
noncomputable def o199 (P : Params) : Obj := { cls := Value.type "tuple", data := Data.seq #[] }
noncomputable def o200 (P : Params) : Obj := { cls := Value.none, data := Data.func { name := Str.ofString "_law_sign", qualname := Str.ofString "_law_sign", params := fnA (stAt 11), body := FuncBody.stmts (fnB (stAt 11)), scope := fnS (stAt 11), globals := 0, closure := [], defaults := Value.none, kwdefaults := Value.none } }
noncomputable def o201 (P : Params) : Obj := { cls := Value.type "code", data := Data.fields #[Value.str (Str.ofString "_law_sign") 395, Value.str (Str.ofString "_law_sign") 396, Value.str (Str.ofString "/claim/cut.py") 397, Value.int 132 0, Value.int 2 0, Value.int 0 0, Value.int 0 0, Value.int 3 0, Value.ref 154, Value.bool true, Value.int 181 0, Value.ref 155, Value.none, Value.ref 156, Value.ref 157, Value.ref 158, Value.int 401 0, Value.int 132 0, Value.str (Str.ofString "/claim/cut.py") 402] }
noncomputable def o202 (P : Params) : Obj := { cls := Value.type "function", data := Data.func { name := Str.ofString "_law_sign", qualname := Str.ofString "_law_sign", params := fnA (stAt 11), body := FuncBody.stmts (fnB (stAt 11)), scope := fnS (stAt 11), globals := 3, closure := [], defaults := Value.none, kwdefaults := Value.none, pyModule := Value.str (Str.ofString "law_mr0281_01") 387, code := Value.ref 159 } }
noncomputable def o203 (P : Params) : Obj := { cls := Value.type "tuple", data := Data.seq #[] }
noncomputable def o204 (P : Params) : Obj := { cls := Value.none, data := Data.fields #[] }
noncomputable def o205 (P : Params) : Obj := { cls := Value.type "tuple", data := Data.seq #[Value.str (Str.ofString "one") 407, Value.str (Str.ofString "two") 408, Value.str (Str.ofString "there") 409, Value.str (Str.ofString "back") 410] }
noncomputable def o206 (P : Params) : Obj := { cls := Value.type "tuple", data := Data.seq #[] }
noncomputable def o207 (P : Params) : Obj := { cls := Value.none, data := Data.func { name := Str.ofString "_law_is_told", qualname := Str.ofString "_law_is_told", params := fnA (stAt 12), body := FuncBody.stmts (fnB (stAt 12)), scope := fnS (stAt 12), globals := 0, closure := [], defaults := Value.none, kwdefaults := Value.none } }
noncomputable def o208 (P : Params) : Obj := { cls := Value.type "code", data := Data.fields #[Value.str (Str.ofString "_law_is_told") 404, Value.str (Str.ofString "_law_is_told") 405, Value.str (Str.ofString "/claim/cut.py") 406, Value.int 139 0, Value.int 2 0, Value.int 0 0, Value.int 0 0, Value.int 3 0, Value.ref 161, Value.bool true, Value.int 181 0, Value.ref 162, Value.none, Value.ref 163, Value.ref 164, Value.ref 165, Value.int 411 0, Value.int 139 0, Value.str (Str.ofString "/claim/cut.py") 412] }
noncomputable def o209 (P : Params) : Obj := { cls := Value.type "function", data := Data.func { name := Str.ofString "_law_is_told", qualname := Str.ofString "_law_is_told", params := fnA (stAt 12), body := FuncBody.stmts (fnB (stAt 12)), scope := fnS (stAt 12), globals := 3, closure := [], defaults := Value.none, kwdefaults := Value.none, pyModule := Value.str (Str.ofString "law_mr0281_01") 387, code := Value.ref 166 } }
noncomputable def o210 (P : Params) : Obj := { cls := Value.type "tuple", data := Data.seq #[] }
noncomputable def o211 (P : Params) : Obj := { cls := Value.none, data := Data.fields #[] }
noncomputable def o212 (P : Params) : Obj := { cls := Value.type "tuple", data := Data.seq #[Value.str (Str.ofString "sorter") 417, Value.str (Str.ofString "one") 418, Value.str (Str.ofString "two") 419, Value.str (Str.ofString "told") 420] }
noncomputable def o213 (P : Params) : Obj := { cls := Value.type "tuple", data := Data.seq #[] }
noncomputable def o214 (P : Params) : Obj := { cls := Value.none, data := Data.func { name := Str.ofString "_law_tell", qualname := Str.ofString "_law_tell", params := fnA (stAt 13), body := FuncBody.stmts (fnB (stAt 13)), scope := fnS (stAt 13), globals := 0, closure := [], defaults := Value.none, kwdefaults := Value.none } }
noncomputable def o215 (P : Params) : Obj := { cls := Value.type "code", data := Data.fields #[Value.str (Str.ofString "_law_tell") 414, Value.str (Str.ofString "_law_tell") 415, Value.str (Str.ofString "/claim/cut.py") 416, Value.int 145 0, Value.int 3 0, Value.int 0 0, Value.int 0 0, Value.int 3 0, Value.ref 168, Value.bool true, Value.int 181 0, Value.ref 169, Value.none, Value.ref 170, Value.ref 171, Value.ref 172, Value.int 421 0, Value.int 145 0, Value.str (Str.ofString "/claim/cut.py") 422] }
noncomputable def o216 (P : Params) : Obj := { cls := Value.type "function", data := Data.func { name := Str.ofString "_law_tell", qualname := Str.ofString "_law_tell", params := fnA (stAt 13), body := FuncBody.stmts (fnB (stAt 13)), scope := fnS (stAt 13), globals := 3, closure := [], defaults := Value.none, kwdefaults := Value.none, pyModule := Value.str (Str.ofString "law_mr0281_01") 387, code := Value.ref 173 } }
noncomputable def o217 (P : Params) : Obj := { cls := Value.type "tuple", data := Data.seq #[] }
noncomputable def o218 (P : Params) : Obj := { cls := Value.none, data := Data.fields #[] }
noncomputable def o219 (P : Params) : Obj := { cls := Value.none, data := Data.func { name := Str.ofString "_law_rounds", qualname := Str.ofString "_law_rounds", params := fnA (stAt 14), body := FuncBody.stmts (fnB (stAt 14)), scope := fnS (stAt 14), globals := 0, closure := [], defaults := Value.none, kwdefaults := Value.none } }
noncomputable def o220 (P : Params) : Obj := { cls := Value.type "code", data := Data.fields #[Value.str (Str.ofString "_law_rounds") 424, Value.str (Str.ofString "_law_rounds") 425, Value.str (Str.ofString "/claim/cut.py") 426, Value.int 151 0, Value.int 2 0, Value.int 0 0, Value.int 0 0, Value.int 3 0, Value.ref 175, Value.bool true, Value.int 181 0, Value.ref 176, Value.none, Value.none, Value.none, Value.ref 177, Value.int 427 0, Value.int 151 0, Value.str (Str.ofString "/claim/cut.py") 428] }
noncomputable def o221 (P : Params) : Obj := { cls := Value.type "function", data := Data.func { name := Str.ofString "_law_rounds", qualname := Str.ofString "_law_rounds", params := fnA (stAt 14), body := FuncBody.stmts (fnB (stAt 14)), scope := fnS (stAt 14), globals := 3, closure := [], defaults := Value.none, kwdefaults := Value.none, pyModule := Value.str (Str.ofString "law_mr0281_01") 387, code := Value.ref 178 } }
noncomputable def o222 (P : Params) : Obj := { cls := Value.type "tuple", data := Data.seq #[] }
noncomputable def o223 (P : Params) : Obj := { cls := Value.none, data := Data.fields #[] }
noncomputable def o224 (P : Params) : Obj := { cls := Value.none, data := Data.func { name := Str.ofString "law", qualname := Str.ofString "law", params := fnA (stAt 15), body := FuncBody.stmts (fnB (stAt 15)), scope := fnS (stAt 15), globals := 0, closure := [], defaults := Value.none, kwdefaults := Value.none } }
noncomputable def o225 (P : Params) : Obj := { cls := Value.type "code", data := Data.fields #[Value.str (Str.ofString "law") 430, Value.str (Str.ofString "law") 431, Value.str (Str.ofString "/claim/cut.py") 432, Value.int 159 0, Value.int 1 0, Value.int 0 0, Value.int 0 0, Value.int 3 0, Value.ref 180, Value.bool true, Value.int 181 0, Value.ref 181, Value.none, Value.none, Value.none, Value.ref 182, Value.int 433 0, Value.int 159 0, Value.str (Str.ofString "/claim/cut.py") 434] }
noncomputable def o226 (P : Params) : Obj := { cls := Value.type "function", data := Data.func { name := Str.ofString "law", qualname := Str.ofString "law", params := fnA (stAt 15), body := FuncBody.stmts (fnB (stAt 15)), scope := fnS (stAt 15), globals := 3, closure := [], defaults := Value.none, kwdefaults := Value.none, pyModule := Value.str (Str.ofString "law_mr0281_01") 387, code := Value.ref 183 } }
noncomputable def tree1 : Params → BT := fun P => BT.node (boot_o_0 P) (BT.node (boot_o_1 P) (BT.node (boot_o_3 P) (BT.node (boot_o_7 P) BT.nil BT.nil) (BT.node (o43 P) BT.nil BT.nil)) (BT.node (boot_o_5 P) (BT.node (boot_o_9 P) BT.nil BT.nil) (BT.node (o45 P) BT.nil BT.nil))) (BT.node (boot_o_2 P) (BT.node (boot_o_4 P) (BT.node (boot_o_8 P) BT.nil BT.nil) (BT.node (o44 P) BT.nil BT.nil)) (BT.node (boot_o_6 P) (BT.node (boot_o_10 P) BT.nil BT.nil) (BT.node (o46 P) BT.nil BT.nil)))
noncomputable def tree2 : Params → BT := fun P => BT.node (boot_o_0 P) (BT.node (boot_o_1 P) (BT.node (o49 P) (BT.node (boot_o_7 P) (BT.node (o51 P) (BT.node (o67 P) BT.nil BT.nil) (BT.node (o83 P) BT.nil BT.nil)) (BT.node (o59 P) (BT.node (o75 P) BT.nil BT.nil) BT.nil)) (BT.node (o43 P) (BT.node (o55 P) (BT.node (o71 P) BT.nil BT.nil) (BT.node (o87 P) BT.nil BT.nil)) (BT.node (o63 P) (BT.node (o79 P) BT.nil BT.nil) BT.nil))) (BT.node (boot_o_5 P) (BT.node (boot_o_9 P) (BT.node (o53 P) (BT.node (o69 P) BT.nil BT.nil) (BT.node (o85 P) BT.nil BT.nil)) (BT.node (o61 P) (BT.node (o77 P) BT.nil BT.nil) BT.nil)) (BT.node (o45 P) (BT.node (o57 P) (BT.node (o73 P) BT.nil BT.nil) BT.nil) (BT.node (o65 P) (BT.node (o81 P) BT.nil BT.nil) BT.nil)))) (BT.node (boot_o_2 P) (BT.node (boot_o_4 P) (BT.node (boot_o_8 P) (BT.node (o52 P) (BT.node (o68 P) BT.nil BT.nil) (BT.node (o84 P) BT.nil BT.nil)) (BT.node (o60 P) (BT.node (o76 P) BT.nil BT.nil) BT.nil)) (BT.node (o50 P) (BT.node (o56 P) (BT.node (o72 P) BT.nil BT.nil) (BT.node (o88 P) BT.nil BT.nil)) (BT.node (o64 P) (BT.node (o80 P) BT.nil BT.nil) BT.nil))) (BT.node (boot_o_6 P) (BT.node (boot_o_10 P) (BT.node (o54 P) (BT.node (o70 P) BT.nil BT.nil) (BT.node (o86 P) BT.nil BT.nil)) (BT.node (o62 P) (BT.node (o78 P) BT.nil BT.nil) BT.nil)) (BT.node (o46 P) (BT.node (o58 P) (BT.node (o74 P) BT.nil BT.nil) BT.nil) (BT.node (o66 P) (BT.node (o82 P) BT.nil BT.nil) BT.nil))))
noncomputable def tree3 : Params → BT := fun P => BT.node (boot_o_0 P) (BT.node (boot_o_1 P) (BT.node (o89 P) (BT.node (boot_o_7 P) (BT.node (o51 P) (BT.node (o67 P) (BT.node (o101 P) BT.nil BT.nil) BT.nil) (BT.node (o83 P) BT.nil BT.nil)) (BT.node (o59 P) (BT.node (o75 P) BT.nil BT.nil) (BT.node (o93 P) BT.nil BT.nil))) (BT.node (o43 P) (BT.node (o55 P) (BT.node (o71 P) BT.nil BT.nil) (BT.node (o87 P) BT.nil BT.nil)) (BT.node (o63 P) (BT.node (o79 P) BT.nil BT.nil) (BT.node (o97 P) BT.nil BT.nil)))) (BT.node (boot_o_5 P) (BT.node (boot_o_9 P) (BT.node (o53 P) (BT.node (o69 P) (BT.node (o103 P) BT.nil BT.nil) BT.nil) (BT.node (o85 P) BT.nil BT.nil)) (BT.node (o61 P) (BT.node (o77 P) BT.nil BT.nil) (BT.node (o95 P) BT.nil BT.nil))) (BT.node (o45 P) (BT.node (o57 P) (BT.node (o73 P) BT.nil BT.nil) (BT.node (o91 P) BT.nil BT.nil)) (BT.node (o65 P) (BT.node (o81 P) BT.nil BT.nil) (BT.node (o99 P) BT.nil BT.nil))))) (BT.node (boot_o_2 P) (BT.node (boot_o_4 P) (BT.node (boot_o_8 P) (BT.node (o52 P) (BT.node (o68 P) (BT.node (o102 P) BT.nil BT.nil) BT.nil) (BT.node (o84 P) BT.nil BT.nil)) (BT.node (o60 P) (BT.node (o76 P) BT.nil BT.nil) (BT.node (o94 P) BT.nil BT.nil))) (BT.node (o90 P) (BT.node (o56 P) (BT.node (o72 P) BT.nil BT.nil) (BT.node (o88 P) BT.nil BT.nil)) (BT.node (o64 P) (BT.node (o80 P) BT.nil BT.nil) (BT.node (o98 P) BT.nil BT.nil)))) (BT.node (boot_o_6 P) (BT.node (boot_o_10 P) (BT.node (o54 P) (BT.node (o70 P) BT.nil BT.nil) (BT.node (o86 P) BT.nil BT.nil)) (BT.node (o62 P) (BT.node (o78 P) BT.nil BT.nil) (BT.node (o96 P) BT.nil BT.nil))) (BT.node (o46 P) (BT.node (o58 P) (BT.node (o74 P) BT.nil BT.nil) (BT.node (o92 P) BT.nil BT.nil)) (BT.node (o66 P) (BT.node (o82 P) BT.nil BT.nil) (BT.node (o100 P) BT.nil BT.nil)))))
noncomputable def tree4 : Params → BT := fun P => BT.node (boot_o_0 P) (BT.node (boot_o_1 P) (BT.node (o104 P) (BT.node (boot_o_7 P) (BT.node (o51 P) (BT.node (o67 P) (BT.node (o101 P) (BT.node (o167 P) BT.nil BT.nil) BT.nil) (BT.node (o135 P) BT.nil BT.nil)) (BT.node (o83 P) (BT.node (o119 P) (BT.node (o183 P) BT.nil BT.nil) BT.nil) (BT.node (o151 P) BT.nil BT.nil))) (BT.node (o59 P) (BT.node (o75 P) (BT.node (o111 P) (BT.node (o175 P) BT.nil BT.nil) BT.nil) (BT.node (o143 P) BT.nil BT.nil)) (BT.node (o93 P) (BT.node (o127 P) BT.nil BT.nil) (BT.node (o159 P) BT.nil BT.nil)))) (BT.node (o43 P) (BT.node (o55 P) (BT.node (o71 P) (BT.node (o107 P) (BT.node (o171 P) BT.nil BT.nil) BT.nil) (BT.node (o139 P) BT.nil BT.nil)) (BT.node (o87 P) (BT.node (o123 P) (BT.node (o187 P) BT.nil BT.nil) BT.nil) (BT.node (o155 P) BT.nil BT.nil))) (BT.node (o63 P) (BT.node (o79 P) (BT.node (o115 P) (BT.node (o179 P) BT.nil BT.nil) BT.nil) (BT.node (o147 P) BT.nil BT.nil)) (BT.node (o97 P) (BT.node (o131 P) BT.nil BT.nil) (BT.node (o163 P) BT.nil BT.nil))))) (BT.node (boot_o_5 P) (BT.node (boot_o_9 P) (BT.node (o53 P) (BT.node (o69 P) (BT.node (o103 P) (BT.node (o169 P) BT.nil BT.nil) BT.nil) (BT.node (o137 P) BT.nil BT.nil)) (BT.node (o85 P) (BT.node (o121 P) (BT.node (o185 P) BT.nil BT.nil) BT.nil) (BT.node (o153 P) BT.nil BT.nil))) (BT.node (o61 P) (BT.node (o77 P) (BT.node (o113 P) (BT.node (o177 P) BT.nil BT.nil) BT.nil) (BT.node (o145 P) BT.nil BT.nil)) (BT.node (o95 P) (BT.node (o129 P) BT.nil BT.nil) (BT.node (o161 P) BT.nil BT.nil)))) (BT.node (o45 P) (BT.node (o57 P) (BT.node (o73 P) (BT.node (o109 P) (BT.node (o173 P) BT.nil BT.nil) BT.nil) (BT.node (o141 P) BT.nil BT.nil)) (BT.node (o91 P) (BT.node (o125 P) BT.nil BT.nil) (BT.node (o157 P) BT.nil BT.nil))) (BT.node (o65 P) (BT.node (o81 P) (BT.node (o117 P) (BT.node (o181 P) BT.nil BT.nil) BT.nil) (BT.node (o149 P) BT.nil BT.nil)) (BT.node (o99 P) (BT.node (o133 P) BT.nil BT.nil) (BT.node (o165 P) BT.nil BT.nil)))))) (BT.node (boot_o_2 P) (BT.node (boot_o_4 P) (BT.node (boot_o_8 P) (BT.node (o52 P) (BT.node (o68 P) (BT.node (o102 P) (BT.node (o168 P) BT.nil BT.nil) BT.nil) (BT.node (o136 P) BT.nil BT.nil)) (BT.node (o84 P) (BT.node (o120 P) (BT.node (o184 P) BT.nil BT.nil) BT.nil) (BT.node (o152 P) BT.nil BT.nil))) (BT.node (o60 P) (BT.node (o76 P) (BT.node (o112 P) (BT.node (o176 P) BT.nil BT.nil) BT.nil) (BT.node (o144 P) BT.nil BT.nil)) (BT.node (o94 P) (BT.node (o128 P) BT.nil BT.nil) (BT.node (o160 P) BT.nil BT.nil)))) (BT.node (o105 P) (BT.node (o56 P) (BT.node (o72 P) (BT.node (o108 P) (BT.node (o172 P) BT.nil BT.nil) BT.nil) (BT.node (o140 P) BT.nil BT.nil)) (BT.node (o88 P) (BT.node (o124 P) (BT.node (o188 P) BT.nil BT.nil) BT.nil) (BT.node (o156 P) BT.nil BT.nil))) (BT.node (o64 P) (BT.node (o80 P) (BT.node (o116 P) (BT.node (o180 P) BT.nil BT.nil) BT.nil) (BT.node (o148 P) BT.nil BT.nil)) (BT.node (o98 P) (BT.node (o132 P) BT.nil BT.nil) (BT.node (o164 P) BT.nil BT.nil))))) (BT.node (boot_o_6 P) (BT.node (boot_o_10 P) (BT.node (o54 P) (BT.node (o70 P) (BT.node (o106 P) (BT.node (o170 P) BT.nil BT.nil) BT.nil) (BT.node (o138 P) BT.nil BT.nil)) (BT.node (o86 P) (BT.node (o122 P) (BT.node (o186 P) BT.nil BT.nil) BT.nil) (BT.node (o154 P) BT.nil BT.nil))) (BT.node (o62 P) (BT.node (o78 P) (BT.node (o114 P) (BT.node (o178 P) BT.nil BT.nil) BT.nil) (BT.node (o146 P) BT.nil BT.nil)) (BT.node (o96 P) (BT.node (o130 P) BT.nil BT.nil) (BT.node (o162 P) BT.nil BT.nil)))) (BT.node (o46 P) (BT.node (o58 P) (BT.node (o74 P) (BT.node (o110 P) (BT.node (o174 P) BT.nil BT.nil) BT.nil) (BT.node (o142 P) BT.nil BT.nil)) (BT.node (o92 P) (BT.node (o126 P) BT.nil BT.nil) (BT.node (o158 P) BT.nil BT.nil))) (BT.node (o66 P) (BT.node (o82 P) (BT.node (o118 P) (BT.node (o182 P) BT.nil BT.nil) BT.nil) (BT.node (o150 P) BT.nil BT.nil)) (BT.node (o100 P) (BT.node (o134 P) BT.nil BT.nil) (BT.node (o166 P) BT.nil BT.nil))))))
noncomputable def tree5 : Params → BT := fun P => BT.node (boot_o_0 P) (BT.node (boot_o_1 P) (BT.node (o189 P) (BT.node (boot_o_7 P) (BT.node (o51 P) (BT.node (o67 P) (BT.node (o101 P) (BT.node (o167 P) BT.nil BT.nil) BT.nil) (BT.node (o135 P) (BT.node (o201 P) BT.nil BT.nil) BT.nil)) (BT.node (o83 P) (BT.node (o119 P) (BT.node (o183 P) BT.nil BT.nil) BT.nil) (BT.node (o151 P) (BT.node (o217 P) BT.nil BT.nil) BT.nil))) (BT.node (o59 P) (BT.node (o75 P) (BT.node (o111 P) (BT.node (o175 P) BT.nil BT.nil) BT.nil) (BT.node (o143 P) (BT.node (o209 P) BT.nil BT.nil) BT.nil)) (BT.node (o93 P) (BT.node (o127 P) (BT.node (o193 P) BT.nil BT.nil) BT.nil) (BT.node (o159 P) (BT.node (o225 P) BT.nil BT.nil) BT.nil)))) (BT.node (o43 P) (BT.node (o55 P) (BT.node (o71 P) (BT.node (o107 P) (BT.node (o171 P) BT.nil BT.nil) BT.nil) (BT.node (o139 P) (BT.node (o205 P) BT.nil BT.nil) BT.nil)) (BT.node (o87 P) (BT.node (o123 P) (BT.node (o187 P) BT.nil BT.nil) BT.nil) (BT.node (o155 P) (BT.node (o221 P) BT.nil BT.nil) BT.nil))) (BT.node (o63 P) (BT.node (o79 P) (BT.node (o115 P) (BT.node (o179 P) BT.nil BT.nil) BT.nil) (BT.node (o147 P) (BT.node (o213 P) BT.nil BT.nil) BT.nil)) (BT.node (o97 P) (BT.node (o131 P) (BT.node (o197 P) BT.nil BT.nil) BT.nil) (BT.node (o163 P) BT.nil BT.nil))))) (BT.node (boot_o_5 P) (BT.node (boot_o_9 P) (BT.node (o53 P) (BT.node (o69 P) (BT.node (o103 P) (BT.node (o169 P) BT.nil BT.nil) BT.nil) (BT.node (o137 P) (BT.node (o203 P) BT.nil BT.nil) BT.nil)) (BT.node (o85 P) (BT.node (o121 P) (BT.node (o185 P) BT.nil BT.nil) BT.nil) (BT.node (o153 P) (BT.node (o219 P) BT.nil BT.nil) BT.nil))) (BT.node (o61 P) (BT.node (o77 P) (BT.node (o113 P) (BT.node (o177 P) BT.nil BT.nil) BT.nil) (BT.node (o145 P) (BT.node (o211 P) BT.nil BT.nil) BT.nil)) (BT.node (o95 P) (BT.node (o129 P) (BT.node (o195 P) BT.nil BT.nil) BT.nil) (BT.node (o161 P) BT.nil BT.nil)))) (BT.node (o45 P) (BT.node (o57 P) (BT.node (o73 P) (BT.node (o109 P) (BT.node (o173 P) BT.nil BT.nil) BT.nil) (BT.node (o141 P) (BT.node (o207 P) BT.nil BT.nil) BT.nil)) (BT.node (o91 P) (BT.node (o125 P) (BT.node (o191 P) BT.nil BT.nil) BT.nil) (BT.node (o157 P) (BT.node (o223 P) BT.nil BT.nil) BT.nil))) (BT.node (o65 P) (BT.node (o81 P) (BT.node (o117 P) (BT.node (o181 P) BT.nil BT.nil) BT.nil) (BT.node (o149 P) (BT.node (o215 P) BT.nil BT.nil) BT.nil)) (BT.node (o99 P) (BT.node (o133 P) (BT.node (o199 P) BT.nil BT.nil) BT.nil) (BT.node (o165 P) BT.nil BT.nil)))))) (BT.node (boot_o_2 P) (BT.node (boot_o_4 P) (BT.node (boot_o_8 P) (BT.node (o52 P) (BT.node (o68 P) (BT.node (o102 P) (BT.node (o168 P) BT.nil BT.nil) BT.nil) (BT.node (o136 P) (BT.node (o202 P) BT.nil BT.nil) BT.nil)) (BT.node (o84 P) (BT.node (o120 P) (BT.node (o184 P) BT.nil BT.nil) BT.nil) (BT.node (o152 P) (BT.node (o218 P) BT.nil BT.nil) BT.nil))) (BT.node (o60 P) (BT.node (o76 P) (BT.node (o112 P) (BT.node (o176 P) BT.nil BT.nil) BT.nil) (BT.node (o144 P) (BT.node (o210 P) BT.nil BT.nil) BT.nil)) (BT.node (o94 P) (BT.node (o128 P) (BT.node (o194 P) BT.nil BT.nil) BT.nil) (BT.node (o160 P) (BT.node (o226 P) BT.nil BT.nil) BT.nil)))) (BT.node (o190 P) (BT.node (o56 P) (BT.node (o72 P) (BT.node (o108 P) (BT.node (o172 P) BT.nil BT.nil) BT.nil) (BT.node (o140 P) (BT.node (o206 P) BT.nil BT.nil) BT.nil)) (BT.node (o88 P) (BT.node (o124 P) (BT.node (o188 P) BT.nil BT.nil) BT.nil) (BT.node (o156 P) (BT.node (o222 P) BT.nil BT.nil) BT.nil))) (BT.node (o64 P) (BT.node (o80 P) (BT.node (o116 P) (BT.node (o180 P) BT.nil BT.nil) BT.nil) (BT.node (o148 P) (BT.node (o214 P) BT.nil BT.nil) BT.nil)) (BT.node (o98 P) (BT.node (o132 P) (BT.node (o198 P) BT.nil BT.nil) BT.nil) (BT.node (o164 P) BT.nil BT.nil))))) (BT.node (boot_o_6 P) (BT.node (boot_o_10 P) (BT.node (o54 P) (BT.node (o70 P) (BT.node (o106 P) (BT.node (o170 P) BT.nil BT.nil) BT.nil) (BT.node (o138 P) (BT.node (o204 P) BT.nil BT.nil) BT.nil)) (BT.node (o86 P) (BT.node (o122 P) (BT.node (o186 P) BT.nil BT.nil) BT.nil) (BT.node (o154 P) (BT.node (o220 P) BT.nil BT.nil) BT.nil))) (BT.node (o62 P) (BT.node (o78 P) (BT.node (o114 P) (BT.node (o178 P) BT.nil BT.nil) BT.nil) (BT.node (o146 P) (BT.node (o212 P) BT.nil BT.nil) BT.nil)) (BT.node (o96 P) (BT.node (o130 P) (BT.node (o196 P) BT.nil BT.nil) BT.nil) (BT.node (o162 P) BT.nil BT.nil)))) (BT.node (o46 P) (BT.node (o58 P) (BT.node (o74 P) (BT.node (o110 P) (BT.node (o174 P) BT.nil BT.nil) BT.nil) (BT.node (o142 P) (BT.node (o208 P) BT.nil BT.nil) BT.nil)) (BT.node (o92 P) (BT.node (o126 P) (BT.node (o192 P) BT.nil BT.nil) BT.nil) (BT.node (o158 P) (BT.node (o224 P) BT.nil BT.nil) BT.nil))) (BT.node (o66 P) (BT.node (o82 P) (BT.node (o118 P) (BT.node (o182 P) BT.nil BT.nil) BT.nil) (BT.node (o150 P) (BT.node (o216 P) BT.nil BT.nil) BT.nil)) (BT.node (o100 P) (BT.node (o134 P) (BT.node (o200 P) BT.nil BT.nil) BT.nil) (BT.node (o166 P) BT.nil BT.nil))))))
noncomputable def heapA : Params → Heap := fun P => { objs := { toList := [boot_o_0 P, boot_o_1 P, boot_o_2 P, boot_o_3 P, boot_o_4 P, boot_o_5 P, boot_o_6 P, boot_o_7 P, boot_o_8 P, boot_o_9 P, boot_o_10 P, o43 P, o44 P, o45 P, o46 P] } }
noncomputable def heapZ : Params → Heap := fun P => { objs := { toList := [boot_o_0 P, boot_o_1 P, boot_o_2 P, o189 P, boot_o_4 P, boot_o_5 P, boot_o_6 P, boot_o_7 P, boot_o_8 P, boot_o_9 P, boot_o_10 P, o43 P, o190 P, o45 P, o46 P, o51 P, o52 P, o53 P, o54 P, o55 P, o56 P, o57 P, o58 P, o59 P, o60 P, o61 P, o62 P, o63 P, o64 P, o65 P, o66 P, o67 P, o68 P, o69 P, o70 P, o71 P, o72 P, o73 P, o74 P, o75 P, o76 P, o77 P, o78 P, o79 P, o80 P, o81 P, o82 P, o83 P, o84 P, o85 P, o86 P, o87 P, o88 P, o91 P, o92 P, o93 P, o94 P, o95 P, o96 P, o97 P, o98 P, o99 P, o100 P, o101 P, o102 P, o103 P, o106 P, o107 P, o108 P, o109 P, o110 P, o111 P, o112 P, o113 P, o114 P, o115 P, o116 P, o117 P, o118 P, o119 P, o120 P, o121 P, o122 P, o123 P, o124 P, o125 P, o126 P, o127 P, o128 P, o129 P, o130 P, o131 P, o132 P, o133 P, o134 P, o135 P, o136 P, o137 P, o138 P, o139 P, o140 P, o141 P, o142 P, o143 P, o144 P, o145 P, o146 P, o147 P, o148 P, o149 P, o150 P, o151 P, o152 P, o153 P, o154 P, o155 P, o156 P, o157 P, o158 P, o159 P, o160 P, o161 P, o162 P, o163 P, o164 P, o165 P, o166 P, o167 P, o168 P, o169 P, o170 P, o171 P, o172 P, o173 P, o174 P, o175 P, o176 P, o177 P, o178 P, o179 P, o180 P, o181 P, o182 P, o183 P, o184 P, o185 P, o186 P, o187 P, o188 P, o191 P, o192 P, o193 P, o194 P, o195 P, o196 P, o197 P, o198 P, o199 P, o200 P, o201 P, o202 P, o203 P, o204 P, o205 P, o206 P, o207 P, o208 P, o209 P, o210 P, o211 P, o212 P, o213 P, o214 P, o215 P, o216 P, o217 P, o218 P, o219 P, o220 P, o221 P, o222 P, o223 P, o224 P, o225 P, o226 P] } }
noncomputable def KF (P : Params) : Frag := [(2, boot_o_2 P), (3, o189 P), (15, o51 P), (17, o53 P), (18, o54 P), (20, o56 P), (21, o57 P), (22, o58 P), (24, o60 P), (25, o61 P), (27, o63 P), (28, o64 P), (36, o72 P), (37, o73 P), (39, o75 P), (40, o76 P), (42, o78 P), (43, o79 P), (44, o80 P), (46, o82 P), (47, o83 P), (48, o84 P), (49, o85 P), (50, o86 P), (53, o91 P), (60, o98 P), (61, o99 P), (62, o100 P), (63, o101 P), (73, o113 P), (74, o114 P), (76, o116 P), (77, o117 P), (79, o119 P), (80, o120 P), (81, o121 P), (83, o123 P), (84, o124 P), (86, o126 P), (87, o127 P), (88, o128 P), (90, o130 P), (91, o131 P), (93, o133 P), (94, o134 P), (95, o135 P), (98, o138 P), (99, o139 P), (100, o140 P), (102, o142 P), (103, o143 P), (105, o145 P), (106, o146 P), (107, o147 P), (109, o149 P), (110, o150 P), (112, o152 P), (113, o153 P), (114, o154 P), (116, o156 P), (117, o157 P), (119, o159 P), (120, o160 P), (121, o161 P), (123, o163 P), (124, o164 P), (126, o166 P), (127, o167 P), (128, o168 P), (130, o170 P), (131, o171 P), (133, o173 P), (134, o174 P), (135, o175 P), (137, o177 P), (138, o178 P), (140, o180 P), (141, o181 P), (142, o182 P), (143, o183 P), (144, o184 P), (145, o185 P), (146, o186 P), (149, o191 P), (152, o194 P), (153, o195 P), (154, o196 P), (156, o198 P), (157, o199 P), (159, o201 P), (160, o202 P), (161, o203 P), (163, o205 P), (164, o206 P), (166, o208 P), (167, o209 P), (168, o210 P), (170, o212 P), (171, o213 P), (173, o215 P), (174, o216 P), (175, o217 P), (178, o220 P), (179, o221 P), (180, o222 P), (183, o225 P), (184, o226 P)]
noncomputable def KA : List Addr := [2, 3, 15, 17, 18, 20, 21, 22, 24, 25, 27, 28, 36, 37, 39, 40, 42, 43, 44, 46, 47, 48, 49, 50, 53, 60, 61, 62, 63, 73, 74, 76, 77, 79, 80, 81, 83, 84, 86, 87, 88, 90, 91, 93, 94, 95, 98, 99, 100, 102, 103, 105, 106, 107, 109, 110, 112, 113, 114, 116, 117, 119, 120, 121, 123, 124, 126, 127, 128, 130, 131, 133, 134, 135, 137, 138, 140, 141, 142, 143, 144, 145, 146, 149, 152, 153, 154, 156, 157, 159, 160, 161, 163, 164, 166, 167, 168, 170, 171, 173, 174, 175, 178, 179, 180, 183, 184]
noncomputable def envT : Env := { scope := PR.main.scope, locals := mainNs, globals := mainNs, cells := [], code := Value.ref 13, frame := some 14 }
end Mine
end

section
open PySem PySem.W PyProof.Rows
set_option maxHeartbeats 8000000
namespace Mine
noncomputable abbrev bT : List Stmt := behindTheImports PR
noncomputable abbrev cT : Code := .body bT envT
noncomputable abbrev z0 : Pos := ⟨0, 0, 0, 0⟩
noncomputable abbrev stT (t : Params → BT) (n : Nat) (k : Nat) (w : World) (os : OsState) : SharedT := { tree := t w.params, n := n, life := {}, gens := Array.mk [], drawn := {}, toks := k, os := os }
noncomputable abbrev stA (h : Params → Heap) (k : Nat) (w : World) (os : OsState) : Shared := { heap := h w.params, gens := Array.mk [], drawn := {}, toks := k, os := os }
noncomputable abbrev s0 (w : World) (os : OsState) : Shared := { heap := boot_heap w.params, gens := Array.mk [], drawn := boot_drawn, toks := boot_toks, os := os }
noncomputable abbrev stsT (i n : Nat) : List Stmt := (bT.drop i).take n

theorem piece_pre (w : World) : (fun os => topGo treeTable PR w 11 (some (.ref 6)) 12 (s0 w os) (topStub PR)) = fun os =>
    some (stA heapA 187 w os, { cur := denote treeTable cT, code := cT, pos := z0, stack := [topFrame z0] }) := by kernel_rfl
theorem piece_bl (w : World) : (fun os => segRun treeTable PR w 11 (some (.ref 6)) 1 1 (stA heapA 187 w os) (blockOf bT envT cT z0 [topFrame z0])) = fun os =>
    some (Flow.next, (stT tree1 15 187 w os).abs, cT, z0) := by kernel_rfl

theorem piece_1 (w : World) : (fun os => segRunT treeTable PR w 11 (some (.ref 6)) 1 369 (stT tree1 15 187 w os) (piecesOf (stsT 0 7) envT cT z0 [topFrame z0])) = fun os =>
    some (Flow.next, stT tree2 53 249 w os, cT, ⟨9, 0, 15, 28⟩) := by
  first | (rewrite [PySem.W.Fast.te10110043849684766642, PySem.W.Fast.te14364793385576792824]; kernel_rfl) | kernel_rfl
theorem piece_2 (w : World) : (fun os => segRunT treeTable PR w 11 (some (.ref 6)) 1 187 (stT tree2 53 249 w os) (piecesOf (stsT 7 1) envT cT ⟨9, 0, 15, 28⟩ [topFrame z0])) = fun os =>
    some (Flow.next, stT tree3 66 267 w os, cT, ⟨16, 0, 17, 8⟩) := by
  first | (rewrite [PySem.W.Fast.te10110043849684766642, PySem.W.Fast.te14364793385576792824]; kernel_rfl) | kernel_rfl
theorem piece_3 (w : World) : (fun os => segRunT treeTable PR w 11 (some (.ref 6)) 1 529 (stT tree3 66 267 w os) (piecesOf (stsT 8 1) envT cT ⟨16, 0, 17, 8⟩ [topFrame z0])) = fun os =>
    some (Flow.next, stT tree4 149 387 w os, cT, ⟨18, 0, 127, 34⟩) := by
  first | (rewrite [PySem.W.Fast.te10110043849684766642, PySem.W.Fast.te14364793385576792824]; kernel_rfl) | kernel_rfl
theorem piece_4 (w : World) : (fun os => segRunT treeTable PR w 11 (some (.ref 6)) 1 183 (stT tree4 149 387 w os) (piecesOf (stsT 9 7) envT cT ⟨18, 0, 127, 34⟩ [topFrame z0])) = fun os =>
    some (Flow.next, stT tree5 185 436 w os, cT, ⟨159, 0, 190, 60⟩) := by
  first | (rewrite [PySem.W.Fast.te10110043849684766642, PySem.W.Fast.te14364793385576792824]; kernel_rfl) | kernel_rfl
theorem piece_end (w : World) : (fun os => topRun treeTable PR w 11 (some (.ref 6)) 2 (stT tree5 185 436 w os).abs { cur := doneF Flow.next, code := cT, pos := ⟨159, 0, 190, 60⟩, stack := [topFrame z0] }) = fun os =>
    some (stA heapZ 436 w os) := by kernel_rfl
end Mine
end

section
open PySem PySem.W PyProof.Rows
set_option maxHeartbeats 8000000
namespace Mine
theorem b_cut : bT = stsT 0 7 ++ (stsT 7 1 ++ (stsT 8 1 ++ (stsT 9 7 ++ []))) := by kernel_rfl
theorem run_all (w : World) (os : OsState) : topRun treeTable PR w 11 (some (.ref 6)) (12 + (1 + (369 + (187 + (529 + (183 + 2)))))) (s0 w os) (topStub PR) = some (stA heapZ 436 w os) := by
  refine go_top (congrFun (piece_pre w) os) (piece_block (congrFun (piece_bl w) os) ?_)
  have e := b_cut
  generalize hb : bT = b at e
  rw [show restOf b envT cT z0 [topFrame z0] = restOf (stsT 0 7 ++ (stsT 7 1 ++ (stsT 8 1 ++ (stsT 9 7 ++ [])))) envT cT z0 [topFrame z0] from congrArg (fun l => restOf l envT cT z0 [topFrame z0]) e]
  refine piece_app (segRun_of (congrFun (piece_1 w) os)) ?_
  refine piece_app (segRun_of (congrFun (piece_2 w) os)) ?_
  refine piece_app (segRun_of (congrFun (piece_3 w) os)) ?_
  refine piece_app (segRun_of (congrFun (piece_4 w) os)) ?_
  exact piece_nil (congrFun (piece_end w) os)
end Mine
end

section
open PySem PySem.W PyProof.Rows
set_option maxHeartbeats 8000000
namespace Mine
/-- the text's defs, classes and tables: all of it but the settings of __name__ -/
noncomputable def vw : Program := { PR with main := { PR.main with body := (PR.main.body.drop 1).take 2 ++ ((PR.main.body.drop 4).take 5 ++ PR.main.body.drop 10) } }
noncomputable abbrev lo : List Str := [Str.ofString "_NodeInfo"]
noncomputable abbrev rr : RowW := PySem.Challenge.rw_mr0281_01.row.toRowW
noncomputable abbrev hk : Hook := kHook KF KA (fun _ => by kernel_rfl)
noncomputable abbrev xt (s : Shared) : Bool := xlAt vw [] s && recOk (RowW.records rr) s

theorem look_size (w : World) : ((boot_heap w.params).isNs mainGlobals && (Array.mk [] : Array GenState).size == 0, (boot_heap w.params).objs.size, (boot_heap w.params).nsMap mainGlobals "__annotations__") = (true, 11, some (.ref 6)) := by kernel_rfl
theorem look_a (w : World) : (fun os => (staticsOk (importedModules PR.main.body) (boot_heap w.params) (heapZ w.params) && namesBound PR (heapZ w.params) && gensDone (stA heapZ 436 w os) && laidKept (boot_heap w.params) (heapZ w.params))) = fun _ => true := by kernel_rfl
theorem look_b (w : World) : (fun os => openSeen vw lo (importedModules PR.main.body) xt true (stA heapZ 436 w os)) = fun _ => openGood vw lo := by kernel_rfl
theorem look_k (w : World) : (fun os => hk.obs (stA heapZ 436 w os)) = fun _ => hk.val w := by kernel_rfl
end Mine
end

section
open PySem PySem.W PyProof.Rows
set_option maxHeartbeats 8000000
namespace Mine
theorem opens : opening PR = plainProg PR.main.scope.names := by kernel_rfl
theorem leftP : LeftO PR vw lo xt hk.obs hk.val 2654 := by
  refine LeftO.of_pieces (H₀ := boot_heap) (H₁ := heapZ) (gs₀ := Array.mk []) (gs₁ := Array.mk []) (d₀ := boot_drawn) (d₁ := {}) (k₀ := boot_toks) (k₁ := 436) (m₀ := 11) (ann := some (.ref 6)) (M := 12 + (1 + (369 + (187 + (529 + (183 + 2))))))
    (boot_open opens (by decide) (fun s => rfl)) look_size run_all (by decide) (fun w => ?_)
  funext os
  exact Prod.ext (congrFun (look_a w) os) (Prod.ext (congrFun (look_b w) os) (congrFun (look_k w) os))
theorem said : PySem.Challenge.rw_mr0281_01.wellSaid = true := by
  first | (rewrite [PySem.W.Fast.te9446332074065402090]; kernel_rfl) | kernel_rfl
end Mine
end

section
open PySem PySem.W PyProof.Rows
set_option maxHeartbeats 8000000
namespace Mine
theorem okT : (chainsOk vw && opensWell PR && (frees rr && rr.within.isEmpty)) = true := by kernel_rfl
theorem bareT : PR.bare := ⟨rfl, rfl, rfl, rfl, rfl, by decide +kernel⟩
theorem hd {d : DefRec} {kwd : List (Str × Expr)} (h1 : defOf vw "law" = some (d, kwd)) (h2 : PR.theDef "law" = some (d.params, d.body, d.scope)) (h3 : kwWritten? d.params.kwonlyargs d.params.kw_defaults = some kwd)
    (walk : WalkO vw lo (XL vw []) hk.says rr d kwd fun f vs => PySem.call f vs) : PySem.Challenge.rw_mr0281_01.Holds := by
  refine holds_law said fun s => ?_
  refine holds_open (q := vw) (loose := lo) (Xt := xt) (XP := XL vw []) (Yf := hk.obs) (Ya := hk.val) (YP := hk.says) (N := 2654) leftP hk.of hk.keeps (fun s e => xl_of s (Bool.and_eq_true_iff.mp e).1) XL.keeps h1 h2 h3
    (fun s e => recFacts_of (Bool.and_eq_true_iff.mp e).2) (by rfl) s okT bareT ?hw walk
  case hw => w_witness2

end Mine
end

section
open PySem PySem.W PyProof.Rows
namespace Mine
noncomputable abbrev OP := Obj → Prop

/-- the ledger: what the call owns (new above h₀), each at an address of its own; h₀ stays -/
structure Led (h₀ h : Heap) (led : List (Addr × OP)) : Prop where
  keep : ∀ b o, h₀.get? b = some o → h.get? b = some o
  nd : (led.map (·.1)).Nodup
  has : ∀ p ∈ led, h₀.get? p.1 = none ∧ ∃ o, h.get? p.1 = some o ∧ p.2 o
  base : ∃ o, h₀.get? 184 = some o
  high : ∀ p ∈ led, 184 < p.1

section
variable {h₀ h h' : Heap} {l l' : List (Addr × OP)} {a b : Addr} {P P' : OP}

theorem Led.perm (D : Led h₀ h l) (p : l.Perm l') : Led h₀ h l' :=
  ⟨D.keep, (p.map _).nodup_iff.mp D.nd, fun q hq => D.has q (p.mem_iff.mpr hq), D.base, fun q hq => D.high q (p.mem_iff.mpr hq)⟩
theorem Led.sub (D : Led h₀ h l) (s : l'.Sublist l) : Led h₀ h l' :=
  ⟨D.keep, (s.map _).nodup D.nd, fun q hq => D.has q (s.mem hq), D.base, fun q hq => D.high q (s.mem hq)⟩
theorem Led.up (D : Led h₀ h l) (m : (a, P) ∈ l) : 184 < a := D.high _ m
theorem Led.size (D : Led h₀ h l) : 184 < h.objs.size := by
  obtain ⟨o, ho⟩ := D.base
  exact Heap.lt_size (D.keep _ _ ho)
theorem Led.noMod (D : Led h₀ h l) (m : (a, P) ∈ l) : (a == sysModules) = false := by
  have q : 184 < a := D.up m
  have : a ≠ sysModules := by unfold sysModules; exact Nat.ne_of_gt (Nat.lt_trans (by decide) q)
  simpa using this
theorem Led.get (D : Led h₀ h l) (m : (a, P) ∈ l) : ∃ o, h.get? a = some o ∧ P o := (D.has _ m).2
theorem Led.new (D : Led h₀ h l) (m : (a, P) ∈ l) : h₀.get? a = none := (D.has _ m).1
theorem Led.fresh (D : Led h₀ h l) : h₀.get? h.objs.size = none := by
  cases q : h₀.get? h.objs.size with
  | none => rfl
  | some o => exact absurd (Heap.lt_size (D.keep _ _ q)) (Nat.lt_irrefl _)
theorem Led.notin (D : Led h₀ h l) : h.objs.size ∉ l.map (·.1) := by
  intro hm
  obtain ⟨p, hp, e⟩ := List.mem_map.mp hm
  obtain ⟨o, ho, _⟩ := (D.has p hp).2
  have q : p.1 < h.objs.size := Heap.lt_size ho
  have e' : p.1 = h.objs.size := e
  rw [e'] at q
  exact Nat.lt_irrefl _ q
/-- a new object -/
theorem Led.push (D : Led h₀ h l) (o : Obj) (hP : P o) (hf : o.isFreed = false := by rfl) : Led h₀ (h.push o) ((h.objs.size, P) :: l) := by
  refine ⟨fun b o' e => Heap.get?_push_of_some _ (D.keep b o' e), ?_, ?_, ?_, ?_⟩
  · rw [List.map_cons, List.nodup_cons]; exact ⟨D.notin, D.nd⟩
  · intro p hp
    rcases List.mem_cons.mp hp with rfl | hp
    · exact ⟨D.fresh, o, Heap.get?_push_size _ hf, hP⟩
    · obtain ⟨h1, o', h2, h3⟩ := D.has p hp
      exact ⟨h1, o', Heap.get?_push_of_some _ h2, h3⟩
  · exact D.base
  · intro p hp
    rcases List.mem_cons.mp hp with rfl | hp
    · exact D.size
    · exact D.high p hp
/-- everything stays -/
theorem Led.grow (D : Led h₀ h l) (k : ∀ b o, h.get? b = some o → h'.get? b = some o) : Led h₀ h' l :=
  ⟨fun b o e => k _ _ (D.keep b o e), D.nd, fun p hp => by obtain ⟨h1, o', h2, h3⟩ := D.has p hp; exact ⟨h1, o', k _ _ h2, h3⟩, D.base, D.high⟩
theorem Led.push' (D : Led h₀ h l) (o : Obj) : Led h₀ (h.push o) l := D.grow fun _ _ e => Heap.get?_push_of_some _ e
/-- everything stays but one new-made thing that the ledger does not name -/
theorem Led.extBut (D : Led h₀ h ((a, P) :: l)) (hs : Heap.ExtBut a h h') : Led h₀ h' l := by
  have nd := D.nd
  rw [List.map_cons, List.nodup_cons] at nd
  refine ⟨fun b o e => hs b o ?_ (D.keep b o e), nd.2, fun p hp => ?_, D.base, fun p hp => D.high p (.tail _ hp)⟩
  · rintro rfl; rw [D.new (.head _)] at e; cases e
  · obtain ⟨h1, o', h2, h3⟩ := D.has p (.tail _ hp)
    refine ⟨h1, o', hs _ _ ?_ h2, h3⟩
    intro e; exact nd.1 (List.mem_map.mpr ⟨p, hp, e⟩)
theorem Led.ext0 (D : Led h₀ h l) (hs : Heap.ExtBut h.objs.size h h') : Led h₀ h' l :=
  ⟨fun b o e => hs b o (by rintro rfl; rw [D.fresh] at e; cases e) (D.keep b o e), D.nd, fun p hp => by
    obtain ⟨h1, o', h2, h3⟩ := D.has p hp
    exact ⟨h1, o', hs _ _ (Nat.ne_of_lt (Heap.lt_size h2)) h2, h3⟩, D.base, D.high⟩
/-- one thing is changed -/
theorem Led.upd (D : Led h₀ h ((a, P) :: l)) (hs : Heap.SameBut a h h') (hP : ∃ o, h'.get? a = some o ∧ P' o) : Led h₀ h' ((a, P') :: l) := by
  have nd := D.nd
  rw [List.map_cons, List.nodup_cons] at nd
  have R := D.extBut hs.extBut
  refine ⟨R.keep, by rw [List.map_cons, List.nodup_cons]; exact nd, fun p hp => ?_, D.base, fun p hp => by
    rcases List.mem_cons.mp hp with rfl | hp
    · exact D.up (.head _)
    · exact R.high p hp⟩
  rcases List.mem_cons.mp hp with rfl | hp
  · exact ⟨D.new (.head _), hP⟩
  · exact R.has p hp
theorem Led.upd1 {l₁ l₂ : List (Addr × OP)} (D : Led h₀ h (l₁ ++ (a, P) :: l₂)) (hs : Heap.SameBut a h h') (hP : ∃ o, h'.get? a = some o ∧ P' o) : Led h₀ h' (l₁ ++ (a, P') :: l₂) :=
  ((D.perm List.perm_middle).upd hs hP).perm List.perm_middle.symm
theorem Led.updI (D : Led h₀ h l) (i : Nat) (hi : l[i]? = some (a, P)) (hs : Heap.SameBut a h h') (hP : ∃ o, h'.get? a = some o ∧ P' o) : Led h₀ h' (l.set i (a, P')) := by
  obtain ⟨hl, he⟩ := List.getElem?_eq_some_iff.mp hi
  have e1 : l = l.take i ++ (a, P) :: l.drop (i + 1) := by rw [← he, ← List.drop_eq_getElem_cons hl, List.take_append_drop]
  have e2 : l.set i (a, P') = l.take i ++ (a, P') :: l.drop (i + 1) := List.set_eq_take_append_cons_drop.trans (if_pos hl)
  rw [e2]
  exact Led.upd1 (e1 ▸ D) hs hP
theorem Led.pick (D : Led h₀ h l) (i : Nat) (hi : l[i]? = some (a, P)) : Led h₀ h ((a, P) :: l.eraseIdx i) := by
  obtain ⟨hl, he⟩ := List.getElem?_eq_some_iff.mp hi
  have e1 : l = l.take i ++ (a, P) :: l.drop (i + 1) := by rw [← he, ← List.drop_eq_getElem_cons hl, List.take_append_drop]
  have e2 : l.eraseIdx i = l.take i ++ l.drop (i + 1) := List.eraseIdx_eq_take_drop_succ l i
  rw [e2]
  exact Led.perm (e1 ▸ D) List.perm_middle
theorem Led.extI (D : Led h₀ h l) (i : Nat) (hi : l[i]? = some (a, P)) (hs : Heap.ExtBut a h h') : Led h₀ h' (l.eraseIdx i) := (D.pick i hi).extBut hs
theorem Led.at (D : Led h₀ h l) (i : Nat) (hi : l[i]? = some (a, P)) : ∃ o, h.get? a = some o ∧ P o := D.get (List.mem_of_getElem? hi)
theorem Led.weak {P' : OP} (D : Led h₀ h ((a, P) :: l)) (i : ∀ o, P o → P' o) : Led h₀ h ((a, P') :: l) := by
  refine ⟨D.keep, by have := D.nd; simpa using this, fun p hp => ?_, D.base, fun p hp => by
    rcases List.mem_cons.mp hp with rfl | hp
    · exact D.up (.head _)
    · exact D.high p (.tail _ hp)⟩
  rcases List.mem_cons.mp hp with rfl | hp
  · obtain ⟨o, ho, hp⟩ := D.get (.head _)
    exact ⟨D.new (.head _), o, ho, i o hp⟩
  · exact D.has p (.tail _ hp)
theorem Led.ne (D : Led h₀ h ((a, P) :: (b, P') :: l)) : a ≠ b := by
  have nd := D.nd
  rw [List.map_cons, List.nodup_cons] at nd
  intro e; exact nd.1 (by rw [e]; exact .head _)
end

/-- a frame's names -/
noncomputable def nsP (m : Str → Option Value) : OP := fun o => ∃ es ep, o.data = .dict es ep ∧ StrKeys es ∧ ∀ name, nsFind es name = m name
/-- a list, exact -/
noncomputable def lsP (vs : List Value) : OP := fun o => ∃ n, o = { cls := .type "list", dict := none, data := .seq vs.toArray n, slots := #[] }
noncomputable def tpP (vs : List Value) : OP := fun o => ∃ n, o = { cls := .type "tuple", dict := none, data := .seq vs.toArray n, slots := #[] }

section
variable {h₀ h h' : Heap} {l : List (Addr × OP)} {a L : Addr} {m : Str → Option Value}
theorem Led.ns (D : Led h₀ h l) (hm : (L, nsP m) ∈ l) : h.Ns L m := by
  obtain ⟨o, ho, es, ep, h1, h2, h3⟩ := D.get hm
  exact ⟨o, es, ep, ho, h1, h2, h3⟩
theorem ns_has {h : Heap} {L : Addr} {m : Str → Option Value} (x : h.Ns L m) : ∃ o, h.get? L = some o ∧ nsP m o := by
  obtain ⟨o, es, ep, ho, h1, h2, h3⟩ := x
  exact ⟨o, ho, es, ep, h1, h2, h3⟩
end
end Mine
end

section
open PySem PySem.W PyProof.Rows
namespace Mine
noncomputable abbrev KK (w : World) : Frag := KF w.params

/-- what is known of the heap that the call finds -/
structure Ok (w : World) (h₀ : Heap) : Prop where
  k : (KK w).In h₀
  g : ∃ mg, h₀.Ns mainGlobals mg
  b : ∃ mb, h₀.Ns builtinsNs mb ∧ ∀ x : Str, x ≠ "__name__" → mb x = bootBuiltins x
  lim : h₀.NoLimit

section
variable {w : World} {h₀ : Heap} {A : Around} {E : Value → Shared → Prop} {h : Heap} {g : Array GenState} {d : Drawn} {t : Nat} {os : OsState} {led : List (Addr × OP)} {env : Env}

theorem Ok.kin (O : Ok w h₀) (D : Led h₀ h led) : (KK w).In h := O.k.keeps D.keep

theorem r_local {x : Str} {pos : Pos} {m : Str → Option Value} {v : Value} {Q : Value → Shared → Prop} (D : Led h₀ h ((env.locals, nsP m) :: led)) (hv : m x = some v) (q : Q v ⟨h, g, d, t, os⟩)
    (hk : env.scope.kind = .function := by rfl) (hl : env.kindOf x = some .local := by rfl) (hd : (x == ("__debug__" : Str)) = false := by decide) :
    wpAny (model PR w) A (eval (.Name x pos) env) Q E ⟨h, g, d, t, os⟩ :=
  wpAny_Name (wpAny_loadName_local hk hl (D.ns (.head _)) hv q) hd

theorem r_store {x : Str} {m : Str → Option Value} {v : Value} {Q : Unit → Shared → Prop} (D : Led h₀ h ((env.locals, nsP m) :: led))
    (q : ∀ h', Led h₀ h' ((env.locals, nsP (fun y => if y = x then some v else m y)) :: led) → Q () ⟨h', g, d, t + 1, os⟩)
    (hk : env.scope.kind = .function := by rfl) (hl : env.kindOf x = some .local := by rfl) : wpAny (model PR w) A (storeName env x v) Q E ⟨h, g, d, t, os⟩ :=
  wpAny_storeName_local hl (D.ns (.head _)) (fun h' hn hs => q h' (D.upd hs (ns_has hn))) (by rw [hk]; rfl)

theorem r_global {x : Str} {pos : Pos} {v : Value} {Q : Value → Shared → Prop} (O : Ok w h₀) (D : Led h₀ h led) (e : nsIn (KK w) mainGlobals x = some (some v)) (q : Q v ⟨h, g, d, t, os⟩)
    (hk : env.scope.kind = .function := by rfl) (hl : env.kindOf x = some .globalImplicit := by rfl) (hg : env.globals = mainGlobals := by rfl) (hd : (x == ("__debug__" : Str)) = false := by decide) :
    wpAny (model PR w) A (eval (.Name x pos) env) Q E ⟨h, g, d, t, os⟩ := by
  obtain ⟨mg, G⟩ := O.g
  exact Calls.Name_function_global hk hl (Calls.loadGlobal_global (by rw [hg]; exact G.keeps D.keep) (mg_of O.k G e) q) hd

theorem r_builtin {x : Str} {pos : Pos} {v : Value} {Q : Value → Shared → Prop} (O : Ok w h₀) (D : Led h₀ h led) (e : nsIn (KK w) mainGlobals x = some none) (hb : bootBuiltins x = some v) (q : Q v ⟨h, g, d, t, os⟩)
    (hn : x ≠ "__name__" := by decide) (hk : env.scope.kind = .function := by rfl) (hl : env.kindOf x = some .globalImplicit := by rfl) (hg : env.globals = mainGlobals := by rfl)
    (hbn : env.builtins = builtinsNs := by rfl) (hd : (x == ("__debug__" : Str)) = false := by decide) :
    wpAny (model PR w) A (eval (.Name x pos) env) Q E ⟨h, g, d, t, os⟩ := by
  obtain ⟨mg, G⟩ := O.g
  obtain ⟨mb, B, hB⟩ := O.b
  exact Calls.Name_function_global hk hl (Calls.loadGlobal_builtin (by rw [hg]; exact G.keeps D.keep) (mg_none_of O.k G e) (by rw [hbn]; exact B.keeps D.keep) ((hB x hn).trans hb) q) hd

/-- room for frames and for C's own calls; no exception is being handled -/
structure Rm (n : Nat) (A : Around) : Prop where
  d : A.depth + n ≤ 900
  u : A.units + 100 * n ≤ 9000
  hd : A.handled = none
theorem Rm.deeper {n : Nat} {A : Around} (R : Rm (n + 1) A) (env : Env) : Rm n (A.deeper env) := by
  obtain ⟨a, b, c⟩ := R
  refine ⟨?_, ?_, c⟩
  · show A.depth + 1 + n ≤ 900; omega
  · show A.units + 3 + 100 * n ≤ 9000; omega
theorem Rm.less {n k : Nat} {A : Around} (R : Rm n A) (h : k ≤ n := by decide) : Rm k A := by
  obtain ⟨a, b, c⟩ := R
  exact ⟨by omega, by omega, c⟩
theorem Rm.in1 {n : Nat} {A : Around} (R : Rm (n + 1) A) : Rm n A.in1 := by
  obtain ⟨a, b, c⟩ := R
  refine ⟨?_, ?_, c⟩
  · show A.depth + n ≤ 900; omega
  · show A.units + 1 + 100 * n ≤ 9000; omega
theorem Rm.room {n : Nat} {A : Around} (R : Rm n A) : A.depth < recursionLimit := by
  have := R.d
  show A.depth < 1000
  omega
theorem Rm.units {n : Nat} {A : Around} (R : Rm n A) : A.units < cLine := by
  have := R.u
  show A.units < 9900
  omega
theorem Rm.make {n : Nat} {A : Around} (R : Rm (n + 1) A) (C : Addr) (vals : List Value) : Rm n (A.under (.builtin "type.__call__" ⟨.ref C :: vals, []⟩)) := by
  obtain ⟨a, b, c⟩ := R
  refine ⟨?_, ?_, c⟩
  · show A.depth + 1 + n ≤ 900; omega
  · show A.units + _ + 100 * n ≤ 9000
    have : (Code.builtin "type.__call__" ⟨.ref C :: vals, []⟩).cUnits ≤ 100 := by
      have e : (Code.builtin "type.__call__" ⟨.ref C :: vals, []⟩).cUnits = 1 := rfl
      omega
    omega

theorem Led.frame {h₁ : Heap} {m : Str → Option Value} (D : Led h₀ h led) (hn : h₁.Ns h.objs.size m) (hk₁ : ∀ b o, h.get? b = some o → h₁.get? b = some o) :
    Led h₀ h₁ ((h.objs.size, nsP m) :: led) := by
  refine ⟨fun b o e => hk₁ _ _ (D.keep _ _ e), by rw [List.map_cons, List.nodup_cons]; exact ⟨D.notin, D.nd⟩, fun p hp => ?_, D.base, fun p hp => ?_⟩
  · rcases List.mem_cons.mp hp with rfl | hp
    · exact ⟨D.fresh, ns_has hn⟩
    · obtain ⟨h1, o', h2, h3⟩ := D.has p hp
      exact ⟨h1, o', hk₁ _ _ h2, h3⟩
  · rcases List.mem_cons.mp hp with rfl | hp
    · exact D.size
    · exact D.high p hp

/-- a call of a def without cells -/
theorem r_code {fd : FuncData} {a : Addr} {o : Obj} {body : List Stmt} {args : List Value} {binds : List (Str × Value)} {R : Result → Shared → Prop}
    (O : Ok w h₀) (D : Led h₀ h led) (hroom : A.depth < recursionLimit) (ho : (KK w).lookup a = some o) (hdata : o.data = .func fd) (hcd : codeIn (KK w) fd.code fd.qualname = true)
    (hbody : fd.body = .stmts body) (hbind : BindsTo ⟨h, g, d, t, os⟩ fd ⟨args, []⟩ binds)
    (hcell : ∀ x ∈ fd.scope.names, x.2 ≠ .cell) (hloc : ∀ x ∈ binds, fd.scope.names.lookup x.1 = some .local)
    (q : ∀ L h₁ tk E', Led h₀ h₁ ((L, nsP (fun x => binds.reverse.lookup x)) :: led) →
      wpAny (model PR w) (A.deeper (callEnv fd L a)) (execs body (callEnv fd L a)) (fun f s' => R (.ok (.ret (match f with | .ret v => v | _ => .none))) s') E' ⟨h₁, g, d, tk, os⟩)
    (hco : fd.scope.isCoroutine = false := by rfl) (hgen : fd.scope.isGenerator = false := by rfl) (hk : fd.scope.kind = .function := by rfl) :
    codeAny (model PR w) A (.call (.ref a) ⟨args, []⟩) R ⟨h, g, d, t, os⟩ := by
  have X := O.kin D
  refine codeAny_call_def hroom (X _ _ ho) hdata (O.lim.keeps D.keep) (codeRec_of X hcd) hbody hbind hcell hloc (fun h₁ hn hk₁ => ?_) hco hgen hk
  exact q _ h₁ _ _ (D.frame hn hk₁)
theorem r_call {fd : FuncData} {a : Addr} {o : Obj} {body : List Stmt} {args : List Value} {binds : List (Str × Value)} {Q : Value → Shared → Prop}
    (O : Ok w h₀) (D : Led h₀ h led) (hroom : A.depth < recursionLimit) (ho : (KK w).lookup a = some o) (hdata : o.data = .func fd) (hcd : codeIn (KK w) fd.code fd.qualname = true)
    (hbody : fd.body = .stmts body) (hbind : BindsTo ⟨h, g, d, t, os⟩ fd ⟨args, []⟩ binds)
    (hcell : ∀ x ∈ fd.scope.names, x.2 ≠ .cell) (hloc : ∀ x ∈ binds, fd.scope.names.lookup x.1 = some .local)
    (q : ∀ L h₁ tk E', Led h₀ h₁ ((L, nsP (fun x => binds.reverse.lookup x)) :: led) →
      wpAny (model PR w) (A.deeper (callEnv fd L a)) (execs body (callEnv fd L a)) (fun f s' => Q (match f with | .ret v => v | _ => .none) s') E' ⟨h₁, g, d, tk, os⟩)
    (hco : fd.scope.isCoroutine = false := by rfl) (hgen : fd.scope.isGenerator = false := by rfl) (hk : fd.scope.kind = .function := by rfl) :
    wpAny (model PR w) A (call (.ref a) args) Q E ⟨h, g, d, t, os⟩ :=
  wpAny_call (r_code O D hroom ho hdata hcd hbody hbind hcell hloc q hco hgen hk)

end

section
variable {w : World} {h₀ : Heap} {A : Around} {E : Value → Shared → Prop} {h : Heap} {g : Array GenState} {d : Drawn} {t : Nat} {os : OsState} {led : List (Addr × OP)}
theorem strxfrm {v : Value} {Q : Value → Shared → Prop} (O : Ok w h₀) (D : Led h₀ h led) (R : Rm 1 A)
    (q : ∀ h' tk, Led h₀ h' led → Q v ⟨h', g, d, tk, os⟩) : wpAny (model PR w) A (call (.ref 28) [v]) Q E ⟨h, g, d, t, os⟩ := by
  refine r_call O D R.room (a := 28) (by rfl) (by rfl) (by rfl) (by rfl) (BindsTo.of_eq (by rfl)) (by decide) (locs rfl) ?_
  intro L h₁ tk E' D1
  refine wpAny_execs_cons (wpAny_Return_some (r_local D1 (by rfl) ?_))
  exact q _ _ (D1.sub (List.sublist_cons_self _ _))
end
end Mine
end

section
open PySem PySem.W PyProof.Rows PySem.Calls PySem.Builtin PySem.Builtin.ObjectAttr PySem.Builtin.Getset_descriptor
namespace Mine
inductive Ents : List DictEntry → List (Str × Value) → Prop
  | nil : Ents [] []
  | cons {hs : Int} {k : Str} {t : Tok} {v : Value} {es : List DictEntry} {kv : List (Str × Value)} : Ents es kv → Ents (⟨hs, .str k t, v⟩ :: es) ((k, v) :: kv)
noncomputable def attP (kv : List (Str × Value)) : OP := fun o => ∃ es n, o = dictOf es n ∧ Ents es kv
noncomputable def putA (name : Str) (v : Value) : List (Str × Value) → List (Str × Value)
  | [] => [(name, v)]
  | (k, u) :: r => if k = name then (k, v) :: r else (k, u) :: putA name v r
noncomputable def instP (C dx : Addr) : OP := fun o => o = { cls := .ref C, dict := some dx, data := .plain }
noncomputable def slotP (C dx : Addr) (sl : List (Option Value)) : OP := fun o => o = { cls := .ref C, dict := some dx, data := .plain, slots := sl.toArray }

theorem isStr_str (k : Str) (t : Tok) (name : Str) : Value.isStr (.str k t) name = (k == name) := rfl
theorem getL_ents {name : Str} : ∀ {es : List DictEntry} {kv : List (Str × Value)}, Ents es kv → getL name es = some (kv.lookup name)
  | _, _, .nil => rfl
  | _, _, .cons (k := k) (t := t) (es := es) (kv := kv) r => by
    have ih := getL_ents (name := name) r
    unfold getL at ih ⊢
    rw [List.find?_cons, List.lookup_cons]
    dsimp only [isStr_str]
    by_cases q : k = name
    · subst q
      simp
    · have q1 : (k == name) = false := by simpa using q
      have q2 : (name == k) = false := by simpa using fun e => q e.symm
      rw [q1, q2]
      dsimp only
      rw [← ih, List.any_cons]
      rfl
theorem putL_ents {name : Str} {hs : Int} {t : Tok} {v : Value} : ∀ {es : List DictEntry} {kv : List (Str × Value)}, Ents es kv → Ents (putL name hs (.str name t) v es) (putA name v kv)
  | _, _, .nil => .cons .nil
  | _, _, .cons (k := k) r => by
    unfold putL putA
    by_cases q : k = name
    · subst q
      simp only [Value.isStr, beq_self_eq_true, if_true]
      exact .cons r
    · have q1 : (k == name) = false := by simpa using q
      simp only [Value.isStr, q1, q, if_false, Bool.false_eq_true]
      exact .cons (putL_ents r)
theorem ents_len : ∀ {es : List DictEntry} {kv : List (Str × Value)}, Ents es kv → es.length = kv.length
  | _, _, .nil => rfl
  | _, _, .cons r => by rw [List.length_cons, List.length_cons, ents_len r]
theorem putA_len (name : Str) (v : Value) : ∀ kv : List (Str × Value), (putA name v kv).length ≤ kv.length + 1
  | [] => by simp [putA]
  | (k, u) :: r => by
    unfold putA
    split
    · simp
    · have := putA_len name v r
      simp only [List.length_cons]
      omega

section
variable {w : World} {h₀ : Heap} {A : Around} {E : Value → Shared → Prop} {h : Heap} {g : Array GenState} {d : Drawn} {t : Nat} {os : OsState} {led : List (Addr × OP)}

theorem r_get {x dx C : Addr} {kv : List (Str × Value)} {name : Str} {expr : Bool} {attr : Option Value} {v : Value} {Q : Value → Shared → Prop} (O : Ok w h₀) (D : Led h₀ h led) (j i : Nat) (m1 : led[j]? = some (x, instP C dx)) (m2 : led[i]? = some (dx, attP kv)) (hg : plainGet (KK w) C name = true) (hh : hasDictIn (KK w) C = true) (ha : findIn (KK w) (.ref C) name = some attr) (hn : noGet (KK w) attr = true)
    (hv : kv.lookup name = some v) (hd : handedIn v = true) (q : Q v ⟨h, g, d, t + 1, os⟩) : wpAny (model PR w) A (getAttr (.ref x) name expr) Q E ⟨h, g, d, t, os⟩ := by
  obtain ⟨ox, hx, rfl⟩ := D.at _ m1
  obtain ⟨od, hdx, es, n, rfl, he⟩ := D.at _ m2
  exact get_value (O.kin D) ⟨hx, rfl, rfl, hdx⟩ (plainGet_of hg).1 (findObj_own hh ha hn ((lookIn_dict _ _ _).trans ((getL_ents he).trans (by rw [hv])))) hd q

theorem r_method {x dx C f : Addr} {kv : List (Str × Value)} {name : Str} {pl : Sem Bool} {Q : Value × List Value → Shared → Prop} (O : Ok w h₀) (D : Led h₀ h led) (j i : Nat) (m1 : led[j]? = some (x, instP C dx)) (m2 : led[i]? = some (dx, attP kv)) (hg : plainGet (KK w) C name = true) (hf : findIn (KK w) (.ref C) name = some (some (.ref f))) (ht : isFn (KK w) (.ref f) = true)
    (hl : kv.lookup name = none) (q : Q (.ref f, [.ref x]) ⟨h, g, d, t, os⟩) : wpAny (model PR w) A (getMethod (.ref x) name pl) Q E ⟨h, g, d, t, os⟩ := by
  obtain ⟨ox, hx, rfl⟩ := D.at _ m1
  obtain ⟨od, hdx, es, n, rfl, he⟩ := D.at _ m2
  exact method_fn (O.kin D) (od := some (dictOf es n)) ⟨hx, rfl, rfl, hdx⟩ (plainGet_of hg).1 (plainGet_of hg).2 hf (beq_iff_eq.mp ht) (by show (lookIn name (dictOf es n)).map _ = _; rw [lookIn_dict, getL_ents he, hl]; rfl) q

theorem r_set {x dx C : Addr} {kv : List (Str × Value)} {name : Str} {v : Value} {Q : Unit → Shared → Prop} (O : Ok w h₀) (D : Led h₀ h led) (j i : Nat) (hj : led[j]? = some (x, instP C dx)) (hi : led[i]? = some (dx, attP kv))
    (hs : findIn (KK w) (.ref C) "__setattr__" = some (some (.builtin "object.__setattr__"))) (hp : plainOver (KK w) C = true) (ht : takerIn (KK w) C name = some none)
    (hh : hasDictIn (KK w) C = true) (hz : kv.length ≤ 900) (q : ∀ h', Led h₀ h' (led.set i (dx, attP (putA name v kv))) → Q () ⟨h', g, d, t + 2, os⟩) :
    wpAny (model PR w) A (setAttr (.ref x) name v) Q E ⟨h, g, d, t, os⟩ := by
  have X := O.kin D
  obtain ⟨ox, hx, rfl⟩ := D.at j hj
  obtain ⟨od, hdx, es, n, rfl, he⟩ := D.at i hi
  have I : InstAt h x { cls := .ref C, dict := some dx, data := .plain } C (some (dictOf es n)) := ⟨hx, rfl, rfl, hdx⟩
  refine set_plain X I hs ?_
  refine osa_open (s := ⟨h, g, d, t + 1, os⟩) X I hp ht fun b => ?_
  obtain ⟨cd, hc, hd'⟩ := any_some hh
  have e1 : Obj.putName name (PyData.keyHash w.params name) (.str name (t + 1)) v (dictOf es n) = dictOf (putL name (PyData.keyHash w.params name) (.str name (t + 1)) v es) (putN name es n) := putName_dict ..
  have he' : Ents (putL name (PyData.keyHash w.params name) (.str name (t + 1)) v es) (putA name v kv) := putL_ents he
  have D' : (h.update dx (Obj.putName name (PyData.keyHash w.params name) (.str name (t + 1)) v)).get? dx = some (dictOf (putL name (PyData.keyHash w.params name) (.str name (t + 1)) v es) (putN name es n)) := by
    rw [Heap.get?_update_self _ hdx (by rw [e1]; rfl), e1]
  refine wpAny_bind (wpAny_pure (wpAny_bind (wpAny_bind (wpAny_loadPart hx (wpAny_bind (Looks.at (looks_clsIn X hc) ?_))))))
  rw [hd']
  refine wpAny_pure (a := some dx) (wpAny_bind (wpAny_pure (wpAny_bind ?_)))
  unfold nsSet
  refine wpAny_bind (wpAny_bind (wpAny_askSetting (wpAny_pure (wpAny_bind (wpAny_mkText (wpAny_bind (wpAny_loadPart hdx ?_)))))))
  have hl : (getL name es).isSome = true := by rw [getL_ents he]; rfl
  dsimp only
  have c : (!es.toArray.any (·.key.isStr name) && es.toArray.any (·.refKey)) = false := by
    rw [← Array.any_toList, ← Array.any_toList]
    unfold getL at hl
    split at hl
    · rename_i en he
      show (!es.any _ && es.any _) = false
      rw [List.any_eq_true.mpr ⟨en, List.mem_of_find?_eq_some he, List.find?_some he⟩]; rfl
    · split at hl
      · cases hl
      · rename_i z; rw [Bool.not_eq_true] at z; show (!es.any _ && es.any _) = false; rw [z, Bool.and_false]
  rw [aRefKeyMayBeTheName_at, c]
  refine wpAny_updatePart hdx ?_
  have hlen : (putL name (PyData.keyHash w.params name) (.str name (t + 1)) v es).length ≤ 1000 := by
    rw [ents_len he']; have := putA_len name v kv; omega
  refine wpAny_bind (wpAny_lookBehind D' (pastItsLine_dict (by rw [List.size_toArray, sizeLine_eq]; omega)) ?_)
  exact wpAny_pure (q _ (D.updI i hi (Heap.SameBut.update ..) ⟨_, D', _, _, rfl, he'⟩))

/-- a slot read -/
theorem r_getSlot {x dx C p : Addr} {sl : List (Option Value)} {i : Nat} {name : Str} {expr : Bool} {v : Value} {Q : Value → Shared → Prop} (O : Ok w h₀) (D : Led h₀ h led) (j k : Nat)
    (m1 : led[j]? = some (x, slotP C dx sl)) (m2 : led[k]? = some (dx, attP [])) (hg : plainGet (KK w) C name = true) (hc : isClsIn (KK w) C = true)
    (ha : findIn (KK w) (.ref C) name = some (some (.ref p))) (hn : specialIn (KK w) (.ref p) "__get__" = some (some (.builtin "member_descriptor.__get__"))) (ht : takesIn (KK w) (.ref p) = some true) (hp : slotIn (KK w) p C = some i)
    (hv : (sl[i]?).join = some v) (hh : handedIn v = true) (q : Q v ⟨h, g, d, t + 1, os⟩) : wpAny (model PR w) A (getAttr (.ref x) name expr) Q E ⟨h, g, d, t, os⟩ := by
  obtain ⟨ox, hx, rfl⟩ := D.at _ m1
  obtain ⟨od, hdx, es, n, rfl, he⟩ := D.at _ m2
  have X := O.kin D
  have I : InstAt h x { cls := .ref C, dict := some dx, data := .plain, slots := sl.toArray } C (some (dictOf es n)) := ⟨hx, rfl, rfl, hdx⟩
  exact get_bind X I (plainGet_of hg).1 (findObj_data hc ha hn ht) (plainGet_of hg).2 (wpAny_call (slot_get (s := ⟨h, g, d, t + 1, os⟩) X I hp (by simpa using hv) (handed_on hh q)))

/-- a slot laid -/
theorem r_setSlot {x dx C p : Addr} {sl sl' : List (Option Value)} {i : Nat} {name : Str} {v : Value} {Q : Unit → Shared → Prop} (O : Ok w h₀) (D : Led h₀ h led) (j k : Nat) (m1 : led[j]? = some (x, slotP C dx sl)) (m2 : led[k]? = some (dx, attP []))
    (hs : findIn (KK w) (.ref C) "__setattr__" = some (some (.builtin "object.__setattr__"))) (hp : plainOver (KK w) C = true) (ht : takerIn (KK w) C name = some (some (.ref p)))
    (hT : typeIn (KK w) (.ref p) = some (.type "member_descriptor")) (hi : slotIn (KK w) p C = some i) (hz : i < 1000)
    (e : (sl ++ List.replicate (i + 1 - sl.length) none).set i (some v) = sl')
    (q : ∀ h', Led h₀ h' (led.set j (x, slotP C dx sl')) → Q () ⟨h', g, d, t + 1, os⟩) : wpAny (model PR w) A (setAttr (.ref x) name v) Q E ⟨h, g, d, t, os⟩ := by
  obtain ⟨ox, hx, rfl⟩ := D.at _ m1
  obtain ⟨od, hdx, es, n, rfl, he⟩ := D.at _ m2
  have X := O.kin D
  have I : InstAt h x { cls := .ref C, dict := some dx, data := .plain, slots := sl.toArray } C (some (dictOf es n)) := ⟨hx, rfl, rfl, hdx⟩
  refine set_plain X I hs (osa_descr (s := ⟨h, g, d, t + 1, os⟩) KF.slot_mset X I hp ht hT ?_)
  obtain ⟨n', tn, owner, behind, tb, dd, sl₀, cd, ho, hc, hm, hb, rfl⟩ := slot_of X hi
  have L0 := I.type (M := model PR w)
  have L1 := looks_mroIn (M := model PR w) X hm
  have L2 : Looks (model PR w) h (Slots.slotNamesOf (.ref C)) cd.slotNames := (looks_clsIn X hc).andThen .now
  try dsimp only at ho hx L0 L1
  have f0 := looks_field (M := model PR w) ho 0 (v := .str n' tn) rfl
  have f1 := looks_field (M := model PR w) ho 1 (v := owner) rfl
  have f3 := looks_field (M := model PR w) ho 3 (v := .builtin "proto.slot#set") rfl
  have f4 := looks_field (M := model PR w) ho 4 (v := .int behind tb) rfl
  refine codeAny_call_builtin KF.slot_mset.plain KF.entry_mset (KF.slot_mset.check _ _ _ _ _ _ _ _ ⟨_, ho, rfl⟩ (KF.args_mset _ _ _) ?_)
  unfold Builtin.«member_descriptor.__set__» descrSet descrStoreThrough descrCheckInstance descrNameAndClass isInstance
  have f5 : Looks (model PR w) h (descrItself (.ref p)) [.ref p] := ((Looks.ld (part := none) ho).andThen .now).andThen (Looks.of_pure (by kernel_rfl))
  repeat lk
  refine ⟨Code.quiet_builtin _ (by decide +kernel), codeAny_builtin KF.entry_slotset ?_⟩
  unfold Builtin.«proto.slot#set» Slots.target
  repeat lk
  rw [if_neg hb]
  refine wpAny_pure (wpAny_bind ?_)
  unfold setSlotAt
  dsimp only
  rw [if_neg (by rw [sizeLine_eq]; omega)]
  refine wpAny_updatePart hx (wpAny_pure (q _ (D.updI _ m1 (Heap.SameBut.update ..) ⟨_, Heap.get?_update_self _ hx rfl, ?_⟩)))
  subst e
  show _ = _
  simp only [Obj.mk.injEq, true_and, List.size_toArray]
  apply Array.ext'
  simp
end
end Mine
end

section
open PySem PySem.W PyProof.Rows PySem.Calls
namespace Mine
/-- a text's signs, if it is a text -/
noncomputable def txt? : Value → Option Str
  | .str x _ => some x
  | _ => none
theorem txt_some {v : Value} {x : Str} (h : txt? v = some x) : ∃ t, v = .str x t := by
  cases v <;> simp [txt?] at h
  exact ⟨_, by rw [h]⟩
/-- values that are texts -/
noncomputable def TX (vs : List Value) (xs : List Str) : Prop := vs.map txt? = xs.map some
theorem TX.len {vs : List Value} {xs : List Str} (h : TX vs xs) : vs.length = xs.length := by
  have := congrArg List.length h
  simpa using this
theorem TX.nil : TX [] [] := rfl
theorem TX.snoc {vs : List Value} {xs : List Str} (h : TX vs xs) (x : Str) (t : Tok) : TX (vs ++ [.str x t]) (xs ++ [x]) := by
  unfold TX at *; rw [List.map_append, List.map_append, h]; rfl
theorem TX.cons {vs : List Value} {xs : List Str} (h : TX vs xs) (x : Str) (t : Tok) : TX (.str x t :: vs) (x :: xs) := by
  unfold TX at *; rw [List.map_cons, List.map_cons, h]; rfl
theorem TX.at {vs : List Value} {xs : List Str} (h : TX vs xs) {i : Nat} {x : Str} (hx : xs[i]? = some x) : ∃ t, vs[i]? = some (.str x t) := by
  have q := congrArg (fun l => l[i]?) h
  simp only [List.getElem?_map, hx, Option.map_some] at q
  cases hv : vs[i]? with
  | none => rw [hv] at q; cases q
  | some v =>
    rw [hv] at q
    obtain ⟨t, rfl⟩ := txt_some (Option.some.inj q)
    exact ⟨t, rfl⟩
theorem TX.none {vs : List Value} {xs : List Str} (h : TX vs xs) {i : Nat} (hx : xs[i]? = none) : vs[i]? = none := by
  rw [List.getElem?_eq_none_iff] at hx ⊢
  rw [h.len]; exact hx
theorem TX.app {vs us : List Value} {xs ys : List Str} (h : TX vs xs) (k : TX us ys) : TX (vs ++ us) (xs ++ ys) := by
  unfold TX at *; rw [List.map_append, List.map_append, h, k]

/-- a list of texts; a dict of texts -/
noncomputable def stP (xs : List Str) : OP := fun o => ∃ vs, lsP vs o ∧ TX vs xs
noncomputable def dcP (w : World) (kvs : List (Str × Value)) : OP := fun o => o.IsDictOf (strKind PR w) kvs

theorem lsP_map {o : Obj} {vs us : List Value} (h : lsP vs o) (f : Array Value → Array Value) (e : f vs.toArray = us.toArray) : lsP us (Obj.mapSeq f o) := by
  obtain ⟨n, rfl⟩ := h
  refine ⟨if (f vs.toArray).size == vs.toArray.size then n else n + 1, ?_⟩
  show (Obj.mk _ _ _ _) = _
  rw [← e]

section
variable {w : World} {h₀ : Heap} {A : Around} {E : Value → Shared → Prop} {h : Heap} {g : Array GenState} {d : Drawn} {t : Nat} {os : OsState} {led : List (Addr × OP)}

theorem r_gmList {l : Addr} {vs : List Value} {name : Str} {id : String} {pl : Sem Bool} {Q : Value × List Value → Shared → Prop} (D : Led h₀ h led) (i : Nat) (hi : led[i]? = some (l, lsP vs))
    (slot : Slot "list" name id) (hty : typeOf (.builtin id) = pure (.type "method_descriptor")) (q : Q (.builtin id, [.ref l]) ⟨h, g, d, t, os⟩) : wpAny (model PR w) A (getMethod (.ref l) name pl) Q E ⟨h, g, d, t, os⟩ := by
  obtain ⟨o, ho, n, rfl⟩ := D.at i hi
  exact getMethod_builtin ⟨_, ho, rfl⟩ F.plainAttrs_list slot hty (fun a e => ⟨_, by cases e; exact ho, rfl⟩) q

theorem r_gmDict {l : Addr} {kvs : List (Str × Value)} {name : Str} {id : String} {pl : Sem Bool} {Q : Value × List Value → Shared → Prop} (D : Led h₀ h led) (i : Nat) (hi : led[i]? = some (l, dcP w kvs))
    (slot : Slot "dict" name id) (hty : typeOf (.builtin id) = pure (.type "method_descriptor")) (q : Q (.builtin id, [.ref l]) ⟨h, g, d, t, os⟩) : wpAny (model PR w) A (getMethod (.ref l) name pl) Q E ⟨h, g, d, t, os⟩ := by
  obtain ⟨o, ho, es, ep, ⟨hx, hy, hz⟩, _⟩ := D.at i hi
  exact getMethod_builtin ⟨_, ho, hx⟩ F.plainAttrs_dict slot hty (fun a e => ⟨_, by cases e; exact ho, hy⟩) q

theorem r_append {l : Addr} {vs : List Value} {v : Value} {Q : Value → Shared → Prop} (D : Led h₀ h led) (i : Nat) (hi : led[i]? = some (l, lsP vs)) (hz : vs.length ≤ 100000)
    (q : ∀ h', Led h₀ h' (led.set i (l, lsP (vs ++ [v]))) → Q .none ⟨h', g, d, t, os⟩) : wpAny (model PR w) A (call (.builtin "list.append") [.ref l, v]) Q E ⟨h, g, d, t, os⟩ := by
  obtain ⟨o, ho, n, rfl⟩ := D.at i hi
  refine wpAny_call_entry slot_list_append ⟨_, ho, rfl⟩ entry_list_append ?_ (args_list_append _ _)
  show wpAny _ _ (updateSeq l (·.push v) >>= fun _ => ret .none) _ _ ⟨h, g, d, t, os⟩
  refine wpAny_bind (wpAny_updateSeq ho rfl (wpAny_pure ⟨.none, rfl, q _ (D.updI i hi (Heap.SameBut.update ..) ⟨_, Heap.get?_update_self _ ho rfl, lsP_map ⟨_, rfl⟩ _ (by simp)⟩)⟩) (by rw [List.size_toArray, sizeLine_eq]; omega) (by rw [Array.size_push, List.size_toArray, sizeLine_eq]; omega))
theorem r_appendT {l : Addr} {xs : List Str} {x : Str} {tk : Tok} {Q : Value → Shared → Prop} (D : Led h₀ h led) (i : Nat) (hi : led[i]? = some (l, stP xs)) (hz : xs.length ≤ 100000)
    (q : ∀ h', Led h₀ h' (led.set i (l, stP (xs ++ [x]))) → Q .none ⟨h', g, d, t, os⟩) : wpAny (model PR w) A (call (.builtin "list.append") [.ref l, .str x tk]) Q E ⟨h, g, d, t, os⟩ := by
  obtain ⟨o, ho, vs, ⟨n, rfl⟩, tx⟩ := D.at i hi
  refine wpAny_call_entry slot_list_append ⟨_, ho, rfl⟩ entry_list_append ?_ (args_list_append _ _)
  show wpAny _ _ (updateSeq l (·.push (.str x tk)) >>= fun _ => ret .none) _ _ ⟨h, g, d, t, os⟩
  have hl := tx.len
  refine wpAny_bind (wpAny_updateSeq ho rfl (wpAny_pure ⟨.none, rfl, q _ (D.updI i hi (Heap.SameBut.update ..) ⟨_, Heap.get?_update_self _ ho rfl, vs ++ [.str x tk], lsP_map ⟨_, rfl⟩ _ (by simp), tx.snoc x tk⟩)⟩) (by rw [List.size_toArray, sizeLine_eq]; omega) (by rw [Array.size_push, List.size_toArray, sizeLine_eq]; omega))

theorem Led.dict {b : Addr} {kvs : List (Str × Value)} {h : Heap} (D : Led h₀ h led) (i : Nat) (hi : led[i]? = some (b, dcP w kvs)) : h.DictOf (strKind PR w) b kvs := Heap.dictOf_iff.mpr (D.at i hi)
theorem dcP_of {b : Addr} {kvs : List (Str × Value)} {h : Heap} (x : h.DictOf (strKind PR w) b kvs) : ∃ o, h.get? b = some o ∧ dcP w kvs o := Heap.dictOf_iff.mp x

theorem r_make {C fI : Addr} {rest : List Value} {Q : Value → Shared → Prop} (O : Ok w h₀) (D : Led h₀ h led) (hm : makesIn (KK w) C = true)
    (hi : findIn (KK w) (.ref C) "__init__" = some (some (.ref fI))) (hf : typeIn (KK w) (.ref fI) = some (.type "function"))
    (q : ∀ x dx h', Led h₀ h' ((x, slotP C dx []) :: (dx, attP []) :: led) →
      codeAny (model PR w) (A.under (.builtin "type.__call__" ⟨.ref C :: rest, []⟩)) (.call (.ref fI) ⟨.ref x :: rest, []⟩) (fun r s' => match r with | .ok (.ret v) => v = .none ∧ Q (.ref x) s' | _ => False) ⟨h', g, d, t, os⟩) :
    wpAny (model PR w) A (call (.ref C) rest) Q E ⟨h, g, d, t, os⟩ := by
  have X := O.kin D
  refine wpAny_call ?_
  refine make_core (makes_of X hm) (looks_findIn X hi) (fun self => bind_fn X self hf) (.inl rfl) ?_
  have D1 := D.push (P := attP []) emptyDict ⟨[], 0, rfl, .nil⟩
  have D2 := D1.push (P := slotP C h.objs.size []) (instObj C h.objs.size) rfl
  rw [Heap.size_push] at D2
  refine codeAny_mono (q _ _ _ D2) fun r s' z => ?_
  rcases r with e | (v | _ | _ | _) <;> first | exact z.elim | exact z
end
end Mine
end

section
open PySem PySem.W PyProof.Rows PySem.Calls
namespace Mine
section
variable {w : World} {h₀ : Heap} {A : Around} {E : Value → Shared → Prop} {h : Heap} {g : Array GenState} {d : Drawn} {t : Nat} {os : OsState} {led : List (Addr × OP)} {f : Addr × OP} {env : Env}

theorem Led.swap {p q : Addr × OP} (D : Led h₀ h (p :: q :: led)) : Led h₀ h (q :: p :: led) := D.perm (List.Perm.swap ..)
theorem Led.rot3 {p q r : Addr × OP} (D : Led h₀ h (p :: q :: r :: led)) : Led h₀ h (q :: r :: p :: led) := D.perm ((List.Perm.swap ..).trans (List.Perm.cons _ (List.Perm.swap ..)))
theorem Led.tail {p : Addr × OP} (D : Led h₀ h (p :: led)) : Led h₀ h led := D.sub (List.sublist_cons_self _ _)
/-- a new object, behind the frame -/
theorem Led.new1 {P : OP} (D : Led h₀ h (f :: led)) (o : Obj) (hP : P o) (hf : o.isFreed = false := by rfl) : Led h₀ (h.push o) (f :: (h.objs.size, P) :: led) := (D.push o hP hf).swap

/-- a post laid aside -/
theorem hide {α : Type} {m : Sem α} {s : Shared} {Q : α → Shared → Prop} (k : ∀ (K : α → Shared → Prop) (E' : Value → Shared → Prop), (∀ a s', Q a s' → K a s') → wpAny (model PR w) A m K E' s) : wpAny (model PR w) A m Q E s := k Q E fun _ _ z => z
theorem hideC {c : Code} {s : Shared} {R : Result → Shared → Prop} (k : ∀ K : Result → Shared → Prop, (∀ r s', R r s' → K r s') → codeAny (model PR w) A c K s) : codeAny (model PR w) A c R s := k R fun _ _ z => z

theorem q_int {i : Int} {k : Nat} {pos : Pos} {Q : Value → Shared → Prop} (q : Q (.int i t) ⟨h, g, d, t + 1, os⟩) : wpAny (model PR w) A (eval (.Constant (.int i) k pos) env) Q E ⟨h, g, d, t, os⟩ := fun _ _ _ => q
theorem q_str {x : Str} {k : Nat} {pos : Pos} {Q : Value → Shared → Prop} (q : Q (.str x t) ⟨h, g, d, t + 1, os⟩) : wpAny (model PR w) A (eval (.Constant (.str x) k pos) env) Q E ⟨h, g, d, t, os⟩ := fun _ _ _ => q
theorem q_none {k : Nat} {pos : Pos} {Q : Value → Shared → Prop} (q : Q .none ⟨h, g, d, t, os⟩) : wpAny (model PR w) A (eval (.Constant .none k pos) env) Q E ⟨h, g, d, t, os⟩ := fun _ _ _ => q
theorem q_bool {b : Bool} {k : Nat} {pos : Pos} {Q : Value → Shared → Prop} (q : Q (.bool b) ⟨h, g, d, t, os⟩) : wpAny (model PR w) A (eval (.Constant (.bool b) k pos) env) Q E ⟨h, g, d, t, os⟩ := fun _ _ _ => q

theorem q_list0 {pos : Pos} {Q : Value → Shared → Prop} (D : Led h₀ h (f :: led)) (q : ∀ a h', Led h₀ h' (f :: (a, lsP []) :: led) → Q (.ref a) ⟨h', g, d, t, os⟩) :
    wpAny (model PR w) A (eval (.List [] pos) env) Q E ⟨h, g, d, t, os⟩ :=
  wpAny_List_spliced (wpAny_items_nil ⟨by decide, q _ _ (D.new1 _ ⟨0, rfl⟩)⟩)

theorem dcP_nil : dcP w [] { cls := .type "dict", data := .dict #[] } := ⟨#[], 0, ⟨rfl, rfl, rfl⟩, rfl, fun e he => by simp at he, .nil, List.nodup_nil⟩
theorem q_dict0 {pos : Pos} {Q : Value → Shared → Prop} (D : Led h₀ h (f :: led)) (q : ∀ a h', Led h₀ h' (f :: (a, dcP w []) :: led) → Q (.ref a) ⟨h', g, d, t, os⟩) :
    wpAny (model PR w) A (eval (.Dict [] [] pos) env) Q E ⟨h, g, d, t, os⟩ :=
  wpAny_Dict_empty (q _ _ (D.new1 _ dcP_nil))

/-- a call's arguments, none starred, at a def or class that the top holds -/
theorem q_call1 {pos : Pos} {c : Value} {first : List Value} {e : Expr} {rest : List Expr} {Q : Value → Shared → Prop} (O : Ok w h₀) (hk : keepIn (KK w) c = true)
    (q : wpAny (model PR w) A (spliced (backTo pos (starEach (e :: rest) env))) (fun vs s₁ => (∃ led', Led h₀ s₁.heap led') ∧ wpAny (model PR w) A (call c (first ++ vs)) Q E s₁) E ⟨h, g, d, t, os⟩)
    (he : starEach (e :: rest) env = (false, eval e env) :: starEach rest env := by rfl) (hplain : (backTo pos (starEach rest env)).any (·.1) = false := by rfl) :
    wpAny (model PR w) A (callWith pos c first (backTo pos (starEach (e :: rest) env)) []) Q E ⟨h, g, d, t, os⟩ :=
  callWith_K O.k hk (wpAny_mono q (fun _ _ z => by obtain ⟨⟨_, d⟩, q⟩ := z; exact ⟨O.k.keeps d.keep, q⟩) fun _ _ z => z) he hplain
theorem q_call0 {pos : Pos} {c : Value} {first : List Value} {Q : Value → Shared → Prop} (O : Ok w h₀) (D : Led h₀ h led) (hk : keepIn (KK w) c = true) (q : wpAny (model PR w) A (call c (first ++ [])) Q E ⟨h, g, d, t, os⟩) :
    wpAny (model PR w) A (callWith pos c first (backTo pos (starEach [] env)) []) Q E ⟨h, g, d, t, os⟩ :=
  callWith_K0 (O.kin D) hk q
end
end Mine
end

section
open PySem PySem.W PyProof.Rows PySem.Calls
namespace Mine
section
variable {w : World} {h₀ : Heap} {A : Around} {E : Value → Shared → Prop} {h : Heap} {g : Array GenState} {d : Drawn} {t : Nat} {os : OsState} {led : List (Addr × OP)}

theorem setNode {x dx : Addr} {sl sl' : List (Option Value)} {v : Value} {Q : Unit → Shared → Prop} (O : Ok w h₀) (D : Led h₀ h led) (j k : Nat) (m1 : led[j]? = some (x, slotP 47 dx sl)) (m2 : led[k]? = some (dx, attP []))
    (e : (sl ++ List.replicate (0 + 1 - sl.length) none).set 0 (some v) = sl') (q : ∀ h', Led h₀ h' (led.set j (x, slotP 47 dx sl')) → Q () ⟨h', g, d, t + 1, os⟩) :
    wpAny (model PR w) A (setAttr (.ref x) "node" v) Q E ⟨h, g, d, t, os⟩ :=
  r_setSlot (p := 48) (i := 0) O D j k m1 m2 (by kernel_rfl) (by kernel_rfl) (by kernel_rfl) (by kernel_rfl) (by kernel_rfl) (by decide) e q
theorem setCnt {x dx : Addr} {sl sl' : List (Option Value)} {v : Value} {Q : Unit → Shared → Prop} (O : Ok w h₀) (D : Led h₀ h led) (j k : Nat) (m1 : led[j]? = some (x, slotP 47 dx sl)) (m2 : led[k]? = some (dx, attP []))
    (e : (sl ++ List.replicate (1 + 1 - sl.length) none).set 1 (some v) = sl') (q : ∀ h', Led h₀ h' (led.set j (x, slotP 47 dx sl')) → Q () ⟨h', g, d, t + 1, os⟩) :
    wpAny (model PR w) A (setAttr (.ref x) "npredecessors" v) Q E ⟨h, g, d, t, os⟩ :=
  r_setSlot (p := 49) (i := 1) O D j k m1 m2 (by kernel_rfl) (by kernel_rfl) (by kernel_rfl) (by kernel_rfl) (by kernel_rfl) (by decide) e q
theorem setSucc {x dx : Addr} {sl sl' : List (Option Value)} {v : Value} {Q : Unit → Shared → Prop} (O : Ok w h₀) (D : Led h₀ h led) (j k : Nat) (m1 : led[j]? = some (x, slotP 47 dx sl)) (m2 : led[k]? = some (dx, attP []))
    (e : (sl ++ List.replicate (2 + 1 - sl.length) none).set 2 (some v) = sl') (q : ∀ h', Led h₀ h' (led.set j (x, slotP 47 dx sl')) → Q () ⟨h', g, d, t + 1, os⟩) :
    wpAny (model PR w) A (setAttr (.ref x) "successors" v) Q E ⟨h, g, d, t, os⟩ :=
  r_setSlot (p := 50) (i := 2) O D j k m1 m2 (by kernel_rfl) (by kernel_rfl) (by kernel_rfl) (by kernel_rfl) (by kernel_rfl) (by decide) e q
theorem getNode {x dx : Addr} {a b c : Value} {expr : Bool} {Q : Value → Shared → Prop} (O : Ok w h₀) (D : Led h₀ h led) (j k : Nat) (m1 : led[j]? = some (x, slotP 47 dx [some a, some b, some c])) (m2 : led[k]? = some (dx, attP []))
    (hh : handedIn a = true) (q : Q a ⟨h, g, d, t + 1, os⟩) : wpAny (model PR w) A (getAttr (.ref x) "node" expr) Q E ⟨h, g, d, t, os⟩ :=
  r_getSlot (p := 48) (i := 0) O D j k m1 m2 (by kernel_rfl) (by kernel_rfl) (by kernel_rfl) (by kernel_rfl) (by kernel_rfl) (by kernel_rfl) rfl hh q
theorem getCnt {x dx : Addr} {a b c : Value} {expr : Bool} {Q : Value → Shared → Prop} (O : Ok w h₀) (D : Led h₀ h led) (j k : Nat) (m1 : led[j]? = some (x, slotP 47 dx [some a, some b, some c])) (m2 : led[k]? = some (dx, attP []))
    (hh : handedIn b = true) (q : Q b ⟨h, g, d, t + 1, os⟩) : wpAny (model PR w) A (getAttr (.ref x) "npredecessors" expr) Q E ⟨h, g, d, t, os⟩ :=
  r_getSlot (p := 49) (i := 1) O D j k m1 m2 (by kernel_rfl) (by kernel_rfl) (by kernel_rfl) (by kernel_rfl) (by kernel_rfl) (by kernel_rfl) rfl hh q
theorem getSucc {x dx : Addr} {a b c : Value} {expr : Bool} {Q : Value → Shared → Prop} (O : Ok w h₀) (D : Led h₀ h led) (j k : Nat) (m1 : led[j]? = some (x, slotP 47 dx [some a, some b, some c])) (m2 : led[k]? = some (dx, attP []))
    (hh : handedIn c = true) (q : Q c ⟨h, g, d, t + 1, os⟩) : wpAny (model PR w) A (getAttr (.ref x) "successors" expr) Q E ⟨h, g, d, t, os⟩ :=
  r_getSlot (p := 50) (i := 2) O D j k m1 m2 (by kernel_rfl) (by kernel_rfl) (by kernel_rfl) (by kernel_rfl) (by kernel_rfl) (by kernel_rfl) rfl hh q

/-- _NodeInfo(node) -/
theorem make_node {v : Value} {Q : Value → Shared → Prop} (O : Ok w h₀) (R : Rm 3 A) (D : Led h₀ h led)
    (q : ∀ i dx l u h' tk, Led h₀ h' ((i, slotP 47 dx [some v, some (.int 0 u), some (.ref l)]) :: (dx, attP []) :: (l, lsP []) :: led) → Q (.ref i) ⟨h', g, d, tk, os⟩) :
    wpAny (model PR w) A (call (.ref 47) [v]) Q E ⟨h, g, d, t, os⟩ := by
  refine r_make (fI := 43) O D (by kernel_rfl) (by kernel_rfl) (by kernel_rfl) ?_
  intro x dx h' D1
  refine r_code O D1 (R.make 47 [v]).room (a := 43) (by rfl) (by rfl) (by rfl) (by rfl) (BindsTo.of_eq (by rfl)) (by decide) (locs rfl) ?_
  intro L h₁ tk E' D2
  refine wpAny_execs_cons (plainObj_wpAny_Assign_Attribute (r_local D2 (by rfl) (r_local D2 (by rfl) (setNode O D2 1 2 rfl rfl rfl fun h2 D3 => ?_))))
  refine wpAny_execs_cons (plainObj_wpAny_Assign_Attribute (q_int (r_local D3 (by rfl) (setCnt O D3 1 2 rfl rfl rfl fun h3 D4 => ?_))))
  refine wpAny_execs_cons (plainObj_wpAny_Assign_Attribute (q_list0 D4 fun l h4 D5 => ?_))
  refine r_local D5 (by rfl) (setSucc O D5 2 3 rfl rfl rfl fun h5 D6 => ?_)
  refine wpAny_execs_nil ?_
  exact ⟨rfl, q x dx l _ _ _ D6.tail.rot3⟩
end
end Mine
end

section
open PySem PySem.W PyProof.Rows PySem.Calls
namespace Mine
/-- a node's record; a sorter -/
structure Nd where
  name : Str
  nt : Tok
  i : Addr
  dx : Addr
  l : Addr
  cnt : Int
  ct : Tok
  suc : List Str
structure So where
  a : Addr
  d : Addr
  n2i : Addr
  rd : Option (Addr × List Str)
  np : Int
  npT : Tok
  nf : Int
  nfT : Tok
  nds : List Nd
noncomputable def rdV : Option (Addr × List Str) → Value
  | none => .none
  | some p => .ref p.1
noncomputable def rdLed : Option (Addr × List Str) → List (Addr × OP)
  | none => []
  | some p => [(p.1, stP p.2)]
noncomputable def So.kv (S : So) : List (Str × Value) := [("_node2info", .ref S.n2i), ("_ready_nodes", rdV S.rd), ("_npassedout", .int S.np S.npT), ("_nfinished", .int S.nf S.nfT)]
noncomputable def Nd.sl (nd : Nd) : List (Option Value) := [some (.str nd.name nd.nt), some (.int nd.cnt nd.ct), some (.ref nd.l)]
noncomputable def ndLed (nd : Nd) : List (Addr × OP) := [(nd.i, slotP 47 nd.dx nd.sl), (nd.dx, attP []), (nd.l, stP nd.suc)]
noncomputable def So.kvs (S : So) : List (Str × Value) := S.nds.map fun nd => (nd.name, .ref nd.i)
noncomputable def soLed (w : World) (S : So) : List (Addr × OP) := (S.a, instP 144 S.d) :: (S.d, attP S.kv) :: (S.n2i, dcP w S.kvs) :: (rdLed S.rd ++ S.nds.flatMap ndLed)

theorem stP_nil (o : Obj) (h : lsP [] o) : stP [] o := ⟨[], h, rfl⟩

section
variable {w : World} {h₀ : Heap} {A : Around} {E : Value → Shared → Prop} {h : Heap} {g : Array GenState} {d : Drawn} {t : Nat} {os : OsState} {led rest : List (Addr × OP)}

theorem getT {x dx : Addr} {kv : List (Str × Value)} {name : Str} {expr : Bool} {v : Value} {Q : Value → Shared → Prop} (O : Ok w h₀) (D : Led h₀ h led) (j i : Nat) (m1 : led[j]? = some (x, instP 144 dx)) (m2 : led[i]? = some (dx, attP kv))
    (hv : kv.lookup name = some v) (ha : findIn (KK w) (.ref 144) name = some none) (hd : handedIn v = true) (q : Q v ⟨h, g, d, t + 1, os⟩) : wpAny (model PR w) A (getAttr (.ref x) name expr) Q E ⟨h, g, d, t, os⟩ :=
  r_get O D j i m1 m2 (by kernel_rfl) (by kernel_rfl) ha (by rfl) hv hd q
theorem setT {x dx : Addr} {kv : List (Str × Value)} {name : Str} {v : Value} {Q : Unit → Shared → Prop} (O : Ok w h₀) (D : Led h₀ h led) (j i : Nat) (m1 : led[j]? = some (x, instP 144 dx)) (m2 : led[i]? = some (dx, attP kv))
    (ht : takerIn (KK w) 144 name = some none) (hz : kv.length ≤ 900) (q : ∀ h', Led h₀ h' (led.set i (dx, attP (putA name v kv))) → Q () ⟨h', g, d, t + 2, os⟩) : wpAny (model PR w) A (setAttr (.ref x) name v) Q E ⟨h, g, d, t, os⟩ :=
  r_set O D j i m1 m2 (by kernel_rfl) (by kernel_rfl) ht (by kernel_rfl) hz q

/-- TopologicalSorter() -/
theorem make_sorter {Q : Value → Shared → Prop} (O : Ok w h₀) (R : Rm 3 A) (D : Led h₀ h led)
    (q : ∀ a dx n u v h' tk, Led h₀ h' (soLed w ⟨a, dx, n, none, 0, u, 0, v, []⟩ ++ led) → Q (.ref a) ⟨h', g, d, tk, os⟩) :
    wpAny (model PR w) A (call (.ref 144) []) Q E ⟨h, g, d, t, os⟩ := by
  refine r_make (fI := 80) O D (by kernel_rfl) (by kernel_rfl) (by kernel_rfl) ?_
  intro x dx h' D1
  refine r_code O D1 (R.make 144 []).room (a := 80) (by rfl) (by rfl) (by rfl) (by rfl) (BindsTo.of_defaults rfl ((O.kin D1) 73 _ (by rfl)) rfl (by rfl) (by rfl)) (by decide) (locs rfl) ?_
  intro L h₁ tk E' D2
  refine wpAny_execs_cons (plainObj_wpAny_Assign_Attribute (q_dict0 D2 fun n h2 D3 => r_local D3 (by rfl) (setT O D3 2 3 rfl rfl (by kernel_rfl) (Nat.le_of_ble_eq_true rfl) fun h3 D4 => ?_)))
  refine wpAny_execs_cons (plainObj_wpAny_Assign_Attribute (q_none (r_local D4 (by rfl) (setT O D4 2 3 rfl rfl (by kernel_rfl) (Nat.le_of_ble_eq_true rfl) fun h4 D5 => ?_))))
  refine wpAny_execs_cons (plainObj_wpAny_Assign_Attribute (q_int (r_local D5 (by rfl) (setT O D5 2 3 rfl rfl (by kernel_rfl) (Nat.le_of_ble_eq_true rfl) fun h5 D6 => ?_))))
  refine wpAny_execs_cons (plainObj_wpAny_Assign_Attribute (q_int (r_local D6 (by rfl) (setT O D6 2 3 rfl rfl (by kernel_rfl) (Nat.le_of_ble_eq_true rfl) fun h6 D7 => ?_))))
  refine wpAny_execs_cons (wpAny_If (wpAny_isTrue_Compare1 (r_local D7 (by rfl) (q_none (isNot_none (wpAny_truthy_bool ?_))))))
  refine wpAny_execs_nil ?_
  refine wpAny_execs_nil ?_
  exact ⟨rfl, q x dx n _ _ _ _ D7.tail.rot3⟩
end
end Mine
end

section
open PySem PySem.W PyProof.Rows PySem.Calls
namespace Mine
theorem valueAt_map {nds : List Nd} {x : Str} : valueAt (nds.map fun nd => (nd.name, Value.ref nd.i)) x = (nds.find? fun nd => nd.name = x).map fun nd => .ref nd.i := by
  unfold valueAt
  induction nds with
  | nil => rfl
  | cons nd r ih =>
    rw [List.map_cons, List.find?_cons, List.find?_cons]
    by_cases q : nd.name = x
    · simp [q]
    · simp only [q, decide_false]
      exact ih

section
variable {w : World} {h₀ : Heap} {A : Around} {E : Value → Shared → Prop} {h : Heap} {g : Array GenState} {d : Drawn} {t : Nat} {os : OsState} {led rest : List (Addr × OP)}

/-- d.get(key) -/
theorem q_dictGet {pos : Pos} {b : Addr} {kvs : List (Str × Value)} {x : Str} {u : Tok} {e : Expr} {env : Env} {Q : Value → Shared → Prop} (D : Led h₀ h led) (i : Nat) (hi : led[i]? = some (b, dcP w kvs))
    (hx : ∀ Q' : Value → Shared → Prop, Q' (.str x u) ⟨h, g, d, t, os⟩ → wpAny (model PR w) A (eval e env) Q' E ⟨h, g, d, t, os⟩) (he : backTo pos (starEach [e] env) = [(false, eval e env)] := by rfl)
    (q : Q ((valueAt kvs x).getD .none) ⟨h, g, d, t + 1, os⟩) :
    wpAny (model PR w) A (callWith pos (.builtin "dict.get") [.ref b] (backTo pos (starEach [e] env)) []) Q E ⟨h, g, d, t, os⟩ := by
  rw [he]
  exact wpAny_dict_get1 (knd := strKind PR w) (D.noMod (List.mem_of_getElem? hi)) (hx _ ⟨x, valueAt kvs, strKind_is _ _ _ _, (D.dict i hi).mapOf, q⟩)

theorem q_assignSub {o i : Expr} {pos : Pos} {env : Env} {v : Value} {Q : Unit → Shared → Prop}
    (q : wpAny (model PR w) A (eval o env) (fun ov s₂ => wpAny (model PR w) A (eval i env) (fun iv s₃ => wpAny (model PR w) A (setItem ov iv v) Q E s₃) E s₂) E ⟨h, g, d, t, os⟩) :
    wpAny (model PR w) A (assign (.Subscript o i pos) env v) Q E ⟨h, g, d, t, os⟩ := fun Γ p hΓ => by
  rw [assign_Subscript]
  simp only [Sem.wp_bind', Sem.wp_holding, Sem.wp_cmd_standAt, Sem.wp_release]
  exact Sem.wp_mono _ Γ _ (fun ov p₁ s₁ h₁ => Sem.wp_mono _ Γ _ (fun iv _ s₂ h₂ => h₂ Γ _ hΓ) (fun _ _ _ h' => h') _ _ (h₁ Γ p₁ hΓ)) (fun _ _ _ h' => h') _ _ (q Γ p hΓ)
/-- d[key] = v -/
theorem q_setItem {b : Addr} {kvs kvs' : List (Str × Value)} {x : Str} {u : Tok} {v : Value} {Q : Unit → Shared → Prop} (D : Led h₀ h led) (i : Nat) (hi : led[i]? = some (b, dcP w kvs)) (hz : kvs.length ≤ 100000) (e : stored kvs x v = kvs')
    (q : ∀ h', Led h₀ h' (led.set i (b, dcP w kvs')) → Q () ⟨h', g, d, t + 1, os⟩) : wpAny (model PR w) A (setItem (.ref b) (.str x u) v) Q E ⟨h, g, d, t, os⟩ := by
  subst e
  exact wpAny_setItem_pairs (knd := strKind PR w) (strKind_is _ _ _ _) (D.dict i hi) (fun h' hd hs => q h' (D.updI i hi hs (dcP_of hd))) (by rw [sizeLine_eq]; omega)

/-- self._get_nodeinfo(node) -/
theorem get_nodeinfo {S : So} {x : Str} {u : Tok} {Q : Value → Shared → Prop} (O : Ok w h₀) (R : Rm 5 A) (D : Led h₀ h (soLed w S ++ rest)) (hz : S.nds.length ≤ 1000)
    (q1 : ∀ nd, S.nds.find? (fun nd => nd.name = x) = some nd → ∀ h' tk, Led h₀ h' (soLed w S ++ rest) → Q (.ref nd.i) ⟨h', g, d, tk, os⟩)
    (q2 : S.nds.find? (fun nd => nd.name = x) = none → ∀ i dx l v h' tk, Led h₀ h' (soLed w { S with nds := S.nds ++ [⟨x, u, i, dx, l, 0, v, []⟩] } ++ rest) → Q (.ref i) ⟨h', g, d, tk, os⟩) :
    wpAny (model PR w) A (call (.ref 87) [.ref S.a, .str x u]) Q E ⟨h, g, d, t, os⟩ := by
  refine r_call O D R.room (a := 87) (binds := [("self", .ref S.a), ("node", .str x u)]) (by rfl) (by rfl) (by rfl) (by rfl) (BindsTo.of_eq (by rfl)) (by decide) (locs rfl) ?_
  intro L h₁ tk E' D2
  refine wpAny_execs_cons (wpAny_If (wpAny_isTrue_Compare1 (wpAny_NamedExpr (MethodCall_ (Attribute_Name_ (r_local D2 (by rfl) (getT O D2 1 2 rfl rfl (by rfl) (by kernel_rfl) rfl ?_)))))))
  refine r_gmDict D2 3 rfl F.slot_dict_get F.type_dict_get ?_
  refine q_dictGet D2 3 rfl (x := x) (u := u) (fun Q' h' => r_local D2 (by rfl) h') rfl ?_
  refine wpAny_assign_Name (r_store D2 fun h2 D3 => ?_)
  refine q_none (is_none (wpAny_truthy_bool ?_))
  have ev : valueAt S.kvs x = (S.nds.find? fun nd => nd.name = x).map fun nd => .ref nd.i := valueAt_map
  cases hf : S.nds.find? (fun nd => nd.name = x) with
  | some nd =>
    rw [hf] at ev
    rw [ev] at D3 ⊢
    refine wpAny_execs_nil ?_
    refine wpAny_execs_cons (wpAny_Return_some (r_local D3 (by rfl) ?_))
    exact q1 nd hf _ _ D3.tail
  | none =>
    rw [hf] at ev
    rw [ev] at D3 ⊢
    refine wpAny_execs_cons (wpAny_Assign_two (Call_ (r_global (v := .ref 47) O D3 (by kernel_rfl) (q_call1 O (by kernel_rfl) (args_cons (r_local D3 (by rfl) (args_nil ⟨⟨_, D3⟩, ?_⟩)))))))
    refine make_node O ((R.deeper _).less) D3 fun i dx l v h3 tk' D4 => ?_
    refine q_assignSub (Attribute_Name_ (r_local (D4.pick 3 rfl) (by rfl) (getT O D4 4 5 rfl rfl (by rfl) (by kernel_rfl) rfl ?_)))
    refine r_local (D4.pick 3 rfl) (by rfl) ?_
    refine q_setItem D4 6 rfl (by show (S.nds.map _).length ≤ _; rw [List.length_map]; omega) (stored_absent ev _) fun h4 D5 => ?_
    refine wpAny_assign_Name (r_store (D5.pick 3 rfl) fun h5 D6 => ?_)
    refine wpAny_execs_nil ?_
    refine wpAny_execs_cons (wpAny_Return_some (r_local D6 (by rfl) ?_))
    refine q2 hf i dx l v _ _ ?_
    have D7 : Led h₀ h5 (([(i, slotP 47 dx [some (.str x u), some (.int 0 v), some (.ref l)]), (dx, attP []), (l, lsP [])] ++ ((S.a, instP 144 S.d) :: (S.d, attP S.kv) :: (S.n2i, dcP w (S.kvs ++ [(x, Value.ref i)])) :: (rdLed S.rd ++ S.nds.flatMap ndLed))) ++ rest) := D6.tail
    have D8 := ((D7.pick 2 rfl).weak (P' := stP []) stP_nil).rot3
    refine Led.perm (l := ([(i, slotP 47 dx [some (.str x u), some (.int 0 v), some (.ref l)]), (dx, attP []), (l, stP [])] ++ ((S.a, instP 144 S.d) :: (S.d, attP S.kv) :: (S.n2i, dcP w (S.kvs ++ [(x, Value.ref i)])) :: (rdLed S.rd ++ S.nds.flatMap ndLed))) ++ rest) D8 ?_
    refine (List.perm_append_comm.append_right rest).trans (List.Perm.of_eq ?_)
    simp [soLed, So.kvs, So.kv, ndLed, Nd.sl]
end
end Mine
end

section
open PySem PySem.W PyProof.Rows PySem.Calls
namespace Mine
theorem Led.reI {h₀ h : Heap} {l : List (Addr × OP)} {a : Addr} {P P' : OP} (D : Led h₀ h l) (i : Nat) (hi : l[i]? = some (a, P)) (hP : ∀ o, h.get? a = some o → P o → P' o) : Led h₀ h (l.set i (a, P')) := by
  obtain ⟨o, ho, hp⟩ := D.at i hi
  exact D.updI i hi (Heap.SameBut.refl ..) ⟨o, ho, hP o ho hp⟩

section
variable {w : World} {h₀ : Heap} {A : Around} {E : Value → Shared → Prop} {h : Heap} {g : Array GenState} {d : Drawn} {t : Nat} {os : OsState} {led rest : List (Addr × OP)}

/-- a call of a def with a starred parameter, none of its names a cell -/
theorem r_codeV {fd : FuncData} {a : Addr} {o : Obj} {body : List Stmt} {args vs : List Value} {binds : Value → List (Str × Value)} {R : Result → Shared → Prop}
    (O : Ok w h₀) (D : Led h₀ h led) (hroom : A.depth < recursionLimit) (ho : (KK w).lookup a = some o) (hdata : o.data = .func fd) (hcd : codeIn (KK w) fd.code fd.qualname = true)
    (hbody : fd.body = .stmts body) (hbind : bindArgs fd ⟨args, []⟩ = (newTuple vs >>= fun T => pure (binds T))) (hz : vs.length ≤ 1000)
    (hcell : ∀ x ∈ fd.scope.names, x.2 ≠ .cell) (hloc : ∀ T, ∀ x ∈ binds T, fd.scope.names.lookup x.1 = some .local)
    (q : ∀ T L h₁ tk E', Led h₀ h₁ ((L, nsP (fun x => (binds (.ref T)).reverse.lookup x)) :: (T, tpP vs) :: led) →
      wpAny (model PR w) (A.deeper (callEnv fd L a)) (execs body (callEnv fd L a)) (fun f s' => R (.ok (.ret (match f with | .ret v => v | _ => .none))) s') E' ⟨h₁, g, d, tk, os⟩)
    (hco : fd.scope.isCoroutine = false := by rfl) (hgen : fd.scope.isGenerator = false := by rfl) (hk : fd.scope.kind = .function := by rfl) :
    codeAny (model PR w) A (.call (.ref a) ⟨args, []⟩) R ⟨h, g, d, t, os⟩ := by
  have X := O.kin D
  refine codeAny_call_function hroom (X _ _ ho) hdata hco hgen hbody (codeRec_of X hcd) ?_
  rw [hbind]
  refine wpAny_bind (wpAny_newObj_type ?_ (by show vs.toArray.size ≤ _; rw [List.size_toArray, sizeLine_eq]; omega))
  have D1 := D.push (P := tpP vs) { cls := .type "tuple", data := .seq vs.toArray } ⟨0, rfl⟩
  refine wpAny_pure ?_
  refine wpAny_newFunctionEnv hcell (hloc _) (fun h₁ hns hsb => ⟨((O.lim.keeps D1.keep).fresh _ hsb), codeAny_func (q _ _ h₁ _ _ (D1.frame hns fun b o e => ?_))⟩) hk
  exact hsb.extBut b o (Nat.ne_of_lt (Heap.lt_size e)) (Heap.get?_push_of_some _ e)

/-- an iterator: what it stands on, what it gives -/
structure Nx (w : World) (it : Addr) (ip : Nat → OP) (src : Addr × OP) (vs : List Value) : Prop where
  item : ∀ {h₀ h : Heap} {A : Around} {E : Value → Shared → Prop} {g : Array GenState} {d : Drawn} {t : Nat} {os : OsState} {led : List (Addr × OP)} {Q : Option Value → Shared → Prop} (i k : Nat) (v : Value),
    vs[i]? = some v → Led h₀ h ((it, ip i) :: led) → led[k]? = some src → (∀ h', Led h₀ h' ((it, ip (i + 1)) :: led) → Q (some v) ⟨h', g, d, t, os⟩) →
    wpAny (model PR w) A (pyNext (.ref it)) Q E ⟨h, g, d, t, os⟩
  stop : ∀ {h₀ h : Heap} {A : Around} {E : Value → Shared → Prop} {g : Array GenState} {d : Drawn} {t : Nat} {os : OsState} {led : List (Addr × OP)} {Q : Option Value → Shared → Prop} (i k : Nat),
    A.handled = none → vs[i]? = none → Led h₀ h ((it, ip i) :: led) → led[k]? = some src → (∀ h', Led h₀ h' led → Q none ⟨h', g, d, t, os⟩) →
    wpAny (model PR w) A (pyNext (.ref it)) Q E ⟨h, g, d, t, os⟩

/-- the tuple's, the list's iterator -/
noncomputable def tiP (T : Addr) (i : Nat) : OP := fun o => o.cls = .type "tuple_iterator" ∧ o.data = .fields #[.ref T, .int i 0]
noncomputable def liP (T : Addr) (i : Nat) : OP := fun o => o.cls = .type "list_iterator" ∧ o.data = .fields #[.ref T, .int i 0]

theorem Led.hd {p : Addr × OP} (D : Led h₀ h (p :: led)) : ∃ o, h.get? p.1 = some o ∧ p.2 o := D.get (.head _)
theorem nx_tup (it T : Addr) (vs : List Value) : Nx w it (tiP T) (T, tpP vs) vs where
  item i k v hv D hk q := by
    obtain ⟨o, ho, hc, hd⟩ := D.hd
    obtain ⟨o', ho', n, rfl⟩ := D.tail.at k hk
    refine wpAny_pyNext_tuple_item (items := vs.toArray) ⟨o, ho, hc, hd⟩ ⟨_, ho', rfl, n, rfl⟩ (by simpa using hv) fun h' hi hs => q h' (D.upd hs ?_)
    obtain ⟨o2, h2, hc2, hd2⟩ := hi
    exact ⟨o2, h2, hc2, hd2⟩
  stop i k hh hv D hk q := by
    obtain ⟨o, ho, hc, hd⟩ := D.hd
    obtain ⟨o', ho', n, rfl⟩ := D.tail.at k hk
    exact wpAny_pyNext_tuple_end (items := vs.toArray) hh ⟨o, ho, hc, hd⟩ ⟨_, ho', rfl, n, rfl⟩ (by simpa using hv) fun h' hs => q h' (D.extBut hs)
theorem nx_lst (it T : Addr) (vs : List Value) : Nx w it (liP T) (T, lsP vs) vs where
  item i k v hv D hk q := by
    obtain ⟨o, ho, hc, hd⟩ := D.hd
    obtain ⟨o', ho', n, rfl⟩ := D.tail.at k hk
    refine wpAny_pyNext_list_item (items := vs.toArray) ⟨o, ho, hc, hd⟩ ⟨_, ho', rfl, n, rfl⟩ (by simpa using hv) fun h' hi hs => q h' (D.upd hs ?_)
    obtain ⟨o2, h2, hc2, hd2⟩ := hi
    exact ⟨o2, h2, hc2, hd2⟩
  stop i k hh hv D hk q := by
    obtain ⟨o, ho, hc, hd⟩ := D.hd
    obtain ⟨o', ho', n, rfl⟩ := D.tail.at k hk
    exact wpAny_pyNext_list_end (items := vs.toArray) hh ⟨o, ho, hc, hd⟩ ⟨_, ho', rfl, n, rfl⟩ (by simpa using hv) fun h' hs => q h' (D.extBut hs)

theorem q_iterTup {T : Addr} {vs : List Value} {f : Addr × OP} {Q : Value → Shared → Prop} (D : Led h₀ h (f :: led)) (k : Nat) (hk : (f :: led)[k]? = some (T, tpP vs))
    (q : ∀ it h', Led h₀ h' (f :: (it, tiP T 0) :: led) → Q (.ref it) ⟨h', g, d, t, os⟩) : wpAny (model PR w) A (pyIter (.ref T)) Q E ⟨h, g, d, t, os⟩ := by
  obtain ⟨o', ho', n, rfl⟩ := D.at k hk
  exact wpAny_pyIter_tuple (items := vs.toArray) ⟨_, ho', rfl, n, rfl⟩ (q _ _ (D.new1 _ ⟨rfl, rfl⟩))
theorem q_iterLst {T : Addr} {vs : List Value} {f : Addr × OP} {Q : Value → Shared → Prop} (D : Led h₀ h (f :: led)) (k : Nat) (hk : (f :: led)[k]? = some (T, lsP vs))
    (q : ∀ it h', Led h₀ h' (f :: (it, liP T 0) :: led) → Q (.ref it) ⟨h', g, d, t, os⟩) : wpAny (model PR w) A (pyIter (.ref T)) Q E ⟨h, g, d, t, os⟩ := by
  obtain ⟨o', ho', n, rfl⟩ := D.at k hk
  exact wpAny_pyIter_list (items := vs.toArray) ⟨_, ho', rfl, n, rfl⟩ (q _ _ (D.new1 _ ⟨rfl, rfl⟩))

/-- a for loop: f σ the frame's names, ledf σ what else is there, J what holds ahead of turn i -/
theorem r_for {σ : Type} {it : Addr} {ip : Nat → OP} {src : Addr × OP} {vs : List Value} {target : Expr} {body : List Stmt} {env : Env} {R : Result → Shared → Prop} (N : Nx w it ip src vs)
    (fr : σ → Str → Option Value) (ledf : σ → List (Addr × OP)) (J : Nat → σ → Prop) (σ₀ : σ) (hA : A.handled = none)
    (D : Led h₀ h ((env.locals, nsP (fr σ₀)) :: (it, ip 0) :: ledf σ₀)) (j0 : J 0 σ₀) (hsrc : ∀ i s, J i s → ∃ k : Nat, (ledf s)[k]? = some src)
    (turn : ∀ i v s h t E, vs[i]? = some v → J i s → Led h₀ h ((env.locals, nsP (fr s)) :: (it, ip (i + 1)) :: ledf s) →
      wpAny (model PR w) A (assign target env v) (fun _ s₂ => wpAny (model PR w) A (execs body env) (fun f s₃ => match f with
        | .next | .cont => ∃ s' h' t', s₃ = ⟨h', g, d, t', os⟩ ∧ J (i + 1) s' ∧ Led h₀ h' ((env.locals, nsP (fr s')) :: (it, ip (i + 1)) :: ledf s')
        | .brk => R (.ok .next) s₃
        | .ret v => R (.ok (.ret v)) s₃) E s₂) E ⟨h, g, d, t, os⟩)
    (fin : ∀ s h t, J vs.length s → Led h₀ h ((env.locals, nsP (fr s)) :: ledf s) → R (.ok .next) ⟨h, g, d, t, os⟩)
    (ht : ∀ v, letOwnedTupleGo target (.ref it) v = pure () := by intro _; rfl) :
    codeAny (model PR w) A (.forLoop target (.ref it) body [] env) R ⟨h, g, d, t, os⟩ := by
  refine codeAny_forLoop (fun n s => ∃ i st h' t', n + i = vs.length ∧ s = ⟨h', g, d, t', os⟩ ∧ J i st ∧ Led h₀ h' ((env.locals, nsP (fr st)) :: (it, ip i) :: ledf st)) ?_ vs.length ⟨0, σ₀, h, t, rfl, rfl, j0, D⟩ ht
  rintro n s ⟨i, st, h', t', e, rfl, j, D'⟩
  obtain ⟨k, hk⟩ := hsrc i st j
  cases n with
  | zero =>
    have e' : i = vs.length := by omega
    subst e'
    refine N.stop vs.length (k + 1) hA (by simp) D'.swap (by simpa using hk) fun h2 D2 => ?_
    exact wpAny_execs_nil (fin st h2 _ j D2)
  | succ n =>
    have hi : i < vs.length := by omega
    refine N.item i (k + 1) vs[i] (by simp [hi]) D'.swap (by simpa using hk) fun h2 D2 => ?_
    refine wpAny_mono (turn i vs[i] st h2 t' _ (by simp [hi]) j D2.swap) (fun _ s₂ h₂ => wpAny_mono h₂ (fun f s₃ h₃ => ?_) fun _ _ z => z) fun _ _ z => z
    cases f with
    | next => obtain ⟨s', h', t', e3, j', D3⟩ := h₃; exact ⟨n, by omega, i + 1, s', h', t', by omega, e3, j', D3⟩
    | cont => obtain ⟨s', h', t', e3, j', D3⟩ := h₃; exact ⟨n, by omega, i + 1, s', h', t', by omega, e3, j', D3⟩
    | brk => exact h₃
    | ret v => exact h₃
end
end Mine
end

section
open PySem PySem.W PyProof.Rows PySem.Calls
namespace Mine
/-- the graph in plain words: each node with its count and what follows it -/
noncomputable abbrev GN := Str × Int × List Str
noncomputable def absN (nd : Nd) : GN := (nd.name, nd.cnt, nd.suc)
noncomputable def ens (x : Str) (G : List GN) : List GN := if G.any (fun n => n.1 = x) then G else G ++ [(x, 0, [])]
noncomputable def bump (x : Str) (k : Int) (G : List GN) : List GN := G.map fun n => if n.1 = x then (n.1, n.2.1 + k, n.2.2) else n
noncomputable def link (y x : Str) (G : List GN) : List GN := G.map fun n => if n.1 = y then (n.1, n.2.1, n.2.2 ++ [x]) else n
noncomputable def addG (x : Str) (ys : List Str) (G : List GN) : List GN := ys.foldl (fun G y => link y x (ens y G)) (bump x ys.length (ens x G))

noncomputable def kvsOf (nds : List Nd) : List (Str × Value) := nds.map fun nd => (nd.name, .ref nd.i)
/-- a sorter less one of its nodes -/
noncomputable def soGap (w : World) (S : So) (p : List Nd) (nd : Nd) (q : List Nd) : List (Addr × OP) :=
  (S.a, instP 144 S.d) :: (S.d, attP S.kv) :: (S.n2i, dcP w (kvsOf (p ++ nd :: q))) :: (rdLed S.rd ++ (p ++ q).flatMap ndLed)

section
variable {w : World} {h₀ : Heap} {A : Around} {E : Value → Shared → Prop} {h : Heap} {g : Array GenState} {d : Drawn} {t : Nat} {os : OsState} {led rest : List (Addr × OP)}

theorem Led.mid (F : List (Addr × OP)) {l r : List (Addr × OP)} (D : Led h₀ h (F ++ (l ++ r))) : Led h₀ h (l ++ (F ++ r)) := D.perm (by
  rw [← List.append_assoc, ← List.append_assoc]; exact List.perm_append_comm.append_right r)
theorem Led.front (F : List (Addr × OP)) {l r : List (Addr × OP)} (D : Led h₀ h (l ++ (F ++ r))) : Led h₀ h (F ++ (l ++ r)) := D.mid l

theorem so_open (S : So) {p : List Nd} {nd : Nd} {q : List Nd} (e : S.nds = p ++ nd :: q) : (soLed w S).Perm (ndLed nd ++ soGap w S p nd q) := by
  unfold soLed soGap So.kvs kvsOf
  rw [e]
  simp only [List.flatMap_append, List.flatMap_cons]
  refine List.Perm.trans ?_ List.perm_append_comm
  simp only [List.cons_append]
  refine List.Perm.cons _ (List.Perm.cons _ (List.Perm.cons _ ?_))
  rw [List.append_assoc]
  refine List.Perm.append_left _ ?_
  rw [List.append_assoc]
  exact List.Perm.append_left _ List.perm_append_comm
theorem so_close (S : So) {p : List Nd} {nd nd' : Nd} {q : List Nd} (hn : nd'.name = nd.name) (hi : nd'.i = nd.i) : (ndLed nd' ++ soGap w S p nd q).Perm (soLed w { S with nds := p ++ nd' :: q }) := by
  have e : soGap w S p nd q = soGap w { S with nds := p ++ nd' :: q } p nd' q := by
    unfold soGap kvsOf So.kv
    simp [hn, hi]
  rw [e]
  exact (so_open { S with nds := p ++ nd' :: q } rfl).symm

theorem Led.openNd {S : So} {p : List Nd} {nd : Nd} {q : List Nd} (D : Led h₀ h (soLed w S ++ rest)) (e : S.nds = p ++ nd :: q) : Led h₀ h (ndLed nd ++ (soGap w S p nd q ++ rest)) :=
  D.perm (by rw [← List.append_assoc]; exact (so_open S e).append_right rest)
theorem Led.closeNd {S : So} {p : List Nd} {nd nd' : Nd} {q : List Nd} (D : Led h₀ h (ndLed nd' ++ (soGap w S p nd q ++ rest))) (hn : nd'.name = nd.name) (hi : nd'.i = nd.i) :
    Led h₀ h (soLed w { S with nds := p ++ nd' :: q } ++ rest) := D.perm (by rw [← List.append_assoc]; exact (so_close S hn hi).append_right rest)

theorem Led.openF (F : List (Addr × OP)) {S : So} {p : List Nd} {nd : Nd} {q : List Nd} (D : Led h₀ h (F ++ (soLed w S ++ rest))) (e : S.nds = p ++ nd :: q) : Led h₀ h (F ++ (ndLed nd ++ (soGap w S p nd q ++ rest))) :=
  D.perm (List.Perm.append_left _ (by rw [← List.append_assoc]; exact (so_open S e).append_right rest))
theorem Led.closeF (F : List (Addr × OP)) {S : So} {p : List Nd} {nd nd' : Nd} {q : List Nd} (D : Led h₀ h (F ++ (ndLed nd' ++ (soGap w S p nd q ++ rest)))) (hn : nd'.name = nd.name) (hi : nd'.i = nd.i) :
    Led h₀ h (F ++ (soLed w { S with nds := p ++ nd' :: q } ++ rest)) := D.perm (List.Perm.append_left _ (by rw [← List.append_assoc]; exact (so_close S hn hi).append_right rest))
theorem r_gmSt {l : Addr} {xs : List Str} {name : Str} {id : String} {pl : Sem Bool} {Q : Value × List Value → Shared → Prop} (D : Led h₀ h led) (i : Nat) (hi : led[i]? = some (l, stP xs))
    (slot : Slot "list" name id) (hty : typeOf (.builtin id) = pure (.type "method_descriptor")) (q : Q (.builtin id, [.ref l]) ⟨h, g, d, t, os⟩) : wpAny (model PR w) A (getMethod (.ref l) name pl) Q E ⟨h, g, d, t, os⟩ := by
  obtain ⟨o, ho, vs, ⟨n, rfl⟩, _⟩ := D.at i hi
  exact getMethod_builtin ⟨_, ho, rfl⟩ F.plainAttrs_list slot hty (fun a e => ⟨_, by cases e; exact ho, rfl⟩) q

theorem Led.names {S : So} (D : Led h₀ h (soLed w S ++ rest)) : (S.nds.map (·.name)).Nodup := by
  have q : (S.kvs.map (·.1)).Nodup := by
    obtain ⟨o, es, ep, ho, hx, hd, hk, hp, hn⟩ := D.dict 2 rfl
    exact hn
  unfold So.kvs at q
  rwa [List.map_map] at q

theorem ens_has {x : Str} {G : List GN} (h : ∃ n ∈ G, n.1 = x) : ens x G = G := by
  unfold ens
  rw [if_pos]
  obtain ⟨n, hn, e⟩ := h
  exact List.any_eq_true.mpr ⟨n, hn, by simpa using e⟩
theorem ens_not {x : Str} {G : List GN} (h : ∀ n ∈ G, n.1 ≠ x) : ens x G = G ++ [(x, 0, [])] := by
  unfold ens
  rw [if_neg]
  intro q
  obtain ⟨n, hn, e⟩ := List.any_eq_true.mp q
  exact h n hn (by simpa using e)

noncomputable def SucB (B : Nat) (G : List GN) : Prop := ∀ n ∈ G, n.2.2.length ≤ B
theorem SucB.ens {B : Nat} {G : List GN} (h : SucB B G) (x : Str) : SucB B (ens x G) := by
  unfold Mine.ens
  split
  · exact h
  · intro n hn
    rcases List.mem_append.mp hn with hn | hn
    · exact h n hn
    · obtain rfl := List.mem_singleton.mp hn
      exact Nat.zero_le _
theorem SucB.bump {B : Nat} {G : List GN} (h : SucB B G) (x : Str) (k : Int) : SucB B (bump x k G) := by
  intro n hn
  obtain ⟨m, hm, rfl⟩ := List.mem_map.mp hn
  split <;> exact h m hm
theorem SucB.link {B : Nat} {G : List GN} (h : SucB B G) (y x : Str) : SucB (B + 1) (link y x G) := by
  intro n hn
  obtain ⟨m, hm, rfl⟩ := List.mem_map.mp hn
  have := h m hm
  split
  · simp only [List.length_append, List.length_singleton]; omega
  · omega
theorem ens_len (x : Str) (G : List GN) : (ens x G).length ≤ G.length + 1 := by
  unfold ens
  split <;> simp

/-- self._get_nodeinfo(node): the node is there then, and its record is handed back -/
theorem getinfo {S : So} {x : Str} {u : Tok} {F : List (Addr × OP)} {Q : Value → Shared → Prop} (O : Ok w h₀) (R : Rm 5 A) (D : Led h₀ h (F ++ (soLed w S ++ rest))) (hz : S.nds.length ≤ 1000)
    (q : ∀ p nd r h' tk, nd.name = x → (p ++ nd :: r).map absN = ens x (S.nds.map absN) → ((p ++ nd :: r).map (·.name)).Nodup → Led h₀ h' (F ++ (ndLed nd ++ (soGap w S p nd r ++ rest))) → Q (.ref nd.i) ⟨h', g, d, tk, os⟩) :
    wpAny (model PR w) A (call (.ref 87) [.ref S.a, .str x u]) Q E ⟨h, g, d, t, os⟩ := by
  refine get_nodeinfo (rest := F ++ rest) O R (D.mid F) hz ?_ ?_
  · intro nd hf h' tk D1
    obtain ⟨he, p, r, e, _⟩ := List.find?_eq_some_iff_append.mp hf
    have he : nd.name = x := by simpa using he
    refine q p nd r h' tk he ?_ ?_ ?_
    · rw [← e, ens_has]
      exact ⟨absN nd, List.mem_map.mpr ⟨nd, by rw [e]; simp, rfl⟩, he⟩
    · rw [← e]; exact D1.names
    · have D2 := D1.openNd e
      have D3 : Led h₀ h' ((ndLed nd ++ soGap w S p nd r) ++ (F ++ rest)) := by rwa [List.append_assoc]
      have D4 := D3.front F
      rwa [List.append_assoc] at D4
  · intro hf i dx l v h' tk D1
    have hf' := List.find?_eq_none.mp hf
    have hN := D1.names
    refine q S.nds ⟨x, u, i, dx, l, 0, v, []⟩ [] h' tk rfl ?_ hN ?_
    · rw [ens_not]
      · simp [absN]
      · intro n hn
        obtain ⟨nd, hm, rfl⟩ := List.mem_map.mp hn
        have := hf' nd hm
        show nd.name ≠ x
        simpa using this
    · have D2 := D1.openNd (p := S.nds) (nd := ⟨x, u, i, dx, l, 0, v, []⟩) (q := []) rfl
      have D3 : Led h₀ h' ((ndLed ⟨x, u, i, dx, l, 0, v, []⟩ ++ soGap w S S.nds ⟨x, u, i, dx, l, 0, v, []⟩ []) ++ (F ++ rest)) := by rw [List.append_assoc]; exact D2
      have D4 := D3.front F
      rwa [List.append_assoc] at D4

theorem map_at {G : List GN} {p : List Nd} {nd nd' : Nd} {r : List Nd} {f : GN → GN} (e : (p ++ nd :: r).map absN = G) (hN : ((p ++ nd :: r).map (·.name)).Nodup) (hf : f (absN nd) = absN nd') (hd : ∀ n : GN, n.1 ≠ nd.name → f n = n) :
    (p ++ nd' :: r).map absN = G.map f := by
  subst e
  rw [List.map_append, List.map_cons, List.nodup_append, List.nodup_cons] at hN
  obtain ⟨_, ⟨h2, _⟩, h3⟩ := hN
  simp only [List.map_append, List.map_cons, List.map_map, hf]
  have e1 : p.map (f ∘ absN) = p.map absN := List.map_congr_left fun n hn => hd _ (h3 n.name (List.mem_map.mpr ⟨n, hn, rfl⟩) nd.name (.head _))
  have e2 : r.map (f ∘ absN) = r.map absN := List.map_congr_left fun n hn => hd _ (fun e => h2 (by rw [← show n.name = nd.name from e]; exact List.mem_map.mpr ⟨n, hn, rfl⟩))
  rw [e1, e2]

theorem gm {x : Addr} {S : So} {F : List (Addr × OP)} {name : Str} {f : Addr} {pl : Sem Bool} {Q : Value × List Value → Shared → Prop} (O : Ok w h₀) (D : Led h₀ h (F ++ (soLed w S ++ rest))) (hx : x = S.a) (hg : plainGet (KK w) 144 name = true) (hf : findIn (KK w) (.ref 144) name = some (some (.ref f))) (ht : isFn (KK w) (.ref f) = true)
    (hl : S.kv.lookup name = none) (q : Q (.ref f, [.ref S.a]) ⟨h, g, d, t, os⟩) : wpAny (model PR w) A (getMethod (.ref x) name pl) Q E ⟨h, g, d, t, os⟩ := by
  subst hx
  exact r_method O (D.mid F) 0 1 rfl rfl hg hf ht hl q

theorem bind_add {a : Addr} {x : Str} {u : Tok} {vs : List Value} {fd : FuncData} {o : Obj} (ho : (KK w).lookup 94 = some o) (hd : o.data = .func fd) :
    bindArgs fd ⟨.ref a :: .str x u :: vs, []⟩ = (newTuple vs >>= fun T => pure ([("self", .ref a), ("node", .str x u), ("predecessors", T)] : List (Str × Value))) := by
  obtain rfl := Option.some.inj ho
  injection hd with hd
  subst hd
  cases vs <;> rfl

/-- sorter.add(node, *predecessors), ahead of prepare -/
theorem add_ {S : So} {x : Str} {u : Tok} {vs : List Value} {us : List Str} {F : List (Addr × OP)} {Q : Value → Shared → Prop} (O : Ok w h₀) (R : Rm 6 A) (tx : TX vs us) (hr : S.rd = none) (hz : S.nds.length + vs.length ≤ 900) {B : Nat} (hB : SucB B (S.nds.map absN)) (hb : B + vs.length ≤ 90000)
    (D : Led h₀ h (F ++ (soLed w S ++ rest)))
    (q : ∀ nds' h' tk, nds'.map absN = addG x us (S.nds.map absN) → Led h₀ h' (F ++ (soLed w { S with nds := nds' } ++ rest)) → Q .none ⟨h', g, d, tk, os⟩) :
    wpAny (model PR w) A (call (.ref 94) (.ref S.a :: .str x u :: vs)) Q E ⟨h, g, d, t, os⟩ := by
  refine wpAny_call (r_codeV (vs := vs) O (D.mid F) R.room (a := 94) (by rfl) (by rfl) (by rfl) (by rfl) (bind_add (w := w) (by rfl) (by rfl)) (by omega) (by decide) (fun T => locs rfl) ?_)
  intro T L h₁ tk E' D2
  have e0 : S.kv.lookup ("_ready_nodes" : Str) = some Value.none := by show some (rdV S.rd) = _; rw [hr]; rfl
  refine wpAny_execs_cons (wpAny_If (wpAny_isTrue_Compare1 (Attribute_Name_ (r_local D2 (by rfl) (getT O D2 2 3 rfl rfl e0 (by kernel_rfl) rfl (q_none (isNot_none (wpAny_truthy_bool ?_))))))))
  refine wpAny_execs_nil ?_
  refine wpAny_execs_cons (wpAny_Assign_Name (MethodCall_ (r_local D2 (by rfl) (gm O (F := [_, _]) D2 rfl (f := 87) (by kernel_rfl) (by kernel_rfl) (by kernel_rfl) (by rfl) ?_))))
  refine q_call1 O (by kernel_rfl) (args_cons (r_local D2 (by rfl) (args_nil ⟨⟨_, D2⟩, ?_⟩)))
  refine getinfo (F := [_, _]) O ((R.deeper _).less) D2 (by omega) ?_
  intro p nd r h2 tk2 hn he hN D3
  refine r_store D3 fun h3 D4 => ?_
  refine wpAny_execs_cons (wpAny_AugAssign_AttributeAny (r_local D4 (by rfl) (getCnt O D4 2 3 rfl rfl rfl (Call_ (r_builtin (v := .builtin "len") O D4 (by kernel_rfl) (by kernel_rfl) ?_)))))
  refine PyProof.Rows.callWith_builtin1 (args_cons (r_local D4 (by rfl) (args_nil ?_)))
  obtain ⟨oT, hoT, nT, rfl⟩ := D4.at 1 rfl
  refine PyProof.Rows.len_tuple (items := vs.toArray) ⟨_, hoT, rfl, _, rfl⟩ (by rw [List.size_toArray]; omega) (PyProof.Rows.iadd_int (setCnt O D4 2 3 rfl rfl rfl fun h4 D5 => ?_))
  have he1 : ∀ ct', (p ++ { nd with cnt := nd.cnt + (vs.toArray.size : Nat), ct := ct' } :: r).map absN = bump x us.length (ens x (S.nds.map absN)) := by
    intro ct'
    refine map_at he hN ?_ ?_
    · show (if nd.name = x then _ else _) = _
      rw [if_pos hn, ← tx.len]
      simp [absN]
    · intro n hne
      show (if n.1 = x then _ else _) = _
      rw [if_neg (hn ▸ hne)]
  have hl1 := congrArg List.length he
  rw [List.length_map] at hl1
  have hl2 := ens_len x (S.nds.map absN)
  rw [List.length_map] at hl2
  have D6 := D5.closeF [_, _] (nd' := { nd with cnt := nd.cnt + (vs.toArray.size : Nat), ct := _ }) rfl rfl
  obtain ⟨nds1, hl3, he1, D6⟩ : ∃ nds1 : List Nd, nds1.length ≤ S.nds.length + 1 ∧ nds1.map absN = bump x us.length (ens x (S.nds.map absN)) ∧ Led h₀ h4 ([_, _] ++ (soLed w { S with nds := nds1 } ++ (F ++ rest))) :=
    ⟨_, by simp only [List.length_append, List.length_cons] at hl1 ⊢; omega, he1 _, D6⟩
  refine wpAny_execs_cons (wpAny_For (r_local D6 (by rfl) (q_iterTup D6 1 rfl fun it h5 D7 => ?_)))
  refine r_for (nx_tup it T vs) (fun s : (Str → Option Value) × List Nd => s.1) (fun s => (T, tpP vs) :: (soLed w { S with nds := s.2 } ++ (F ++ rest)))
    (fun i s => s.1 "self" = some (.ref S.a) ∧ s.1 "node" = some (.str x u) ∧ s.2.length ≤ S.nds.length + 1 + i ∧ SucB (B + i) (s.2.map absN) ∧ s.2.map absN = (us.take i).foldl (fun G y => link y x (ens y G)) (bump x us.length (ens x (S.nds.map absN))))
    (_, nds1) R.hd D7 ⟨by rfl, by rfl, hl3, by rw [he1]; exact (hB.ens x).bump x _, by rw [List.take_zero]; exact he1⟩ (fun _ _ _ => ⟨0, rfl⟩) ?_ ?_
  · rintro i v ⟨m, nds⟩ h6 t6 E6 hv ⟨j1, j2, j3, jb, j4⟩ D8
    have hvl : i < vs.length := by
      rw [List.getElem?_eq_some_iff] at hv; exact hv.1
    have hui : i < us.length := by rw [← tx.len]; exact hvl
    obtain ⟨ty, hy⟩ := tx.at (i := i) (x := us[i]) (by simp [hui])
    rw [hv] at hy
    obtain rfl := Option.some.inj hy
    refine hide fun K0 E0 hK0 => ?_
    refine wpAny_assign_Name (r_store D8 fun h7 D9 => hK0 _ _ ?_)
    refine hide fun K1 E1 hK1 => ?_
    refine wpAny_execs_cons (wpAny_Assign_Name (MethodCall_ (r_local D9 j1 (gm O (F := [_, _, _]) D9 rfl (f := 87) (by kernel_rfl) (by kernel_rfl) (by kernel_rfl) (by rfl) ?_))))
    refine q_call1 O (by kernel_rfl) (args_cons (r_local D9 (by rfl) (args_nil ⟨⟨_, D9⟩, ?_⟩)))
    refine getinfo (S := { S with nds := nds }) (F := [_, _, _]) O ((R.deeper _).less) D9 (by have : nds.length ≤ S.nds.length + 1 + i := j3; show nds.length ≤ _; omega) ?_
    intro p' nd' r' h8 tk8 hn' he' hN' D10
    refine r_store D10 fun h9 D11 => ?_
    refine wpAny_execs_cons (wpAny_Expr (MethodCall_ (Attribute_Name_ (r_local D11 (by rfl) (getSucc O D11 3 4 rfl rfl rfl (r_gmSt D11 5 rfl PySem.F.slot_list_append PySem.F.type_list_append ?_))))))
    refine callWith_method1 (args_cons (r_local D11 j2 (args_nil ?_)))
    refine r_appendT D11 5 rfl (by have := (jb.ens us[i]) (absN nd') (by rw [← he']; simp); have e : (absN nd').2.2 = nd'.suc := rfl; rw [e] at this; omega) fun h10 D12 => ?_
    refine wpAny_execs_nil ?_
    have D13 : Led h₀ h10 ([_, _, _] ++ (soLed w { S with nds := p' ++ { nd' with suc := nd'.suc ++ [x] } :: r' } ++ (F ++ rest))) := D12.closeF (S := { S with nds := nds }) [_, _, _] (nd' := { nd' with suc := nd'.suc ++ [x] }) rfl rfl
    have e1 : (p' ++ { nd' with suc := nd'.suc ++ [x] } :: r').map absN = link us[i] x (ens us[i] (nds.map absN)) := by
      refine map_at he' hN' ?_ ?_
      · show (if nd'.name = us[i] then _ else _) = _
        rw [if_pos hn']; rfl
      · intro n hne
        show (if n.1 = us[i] then _ else _) = _
        rw [if_neg (hn' ▸ hne)]
    refine hK1 _ _ ⟨(_, p' ++ { nd' with suc := nd'.suc ++ [x] } :: r'), h10, _, rfl, ?_, D13⟩
    refine ⟨j1, j2, ?_, ?_, ?_⟩
    · have l1 := congrArg List.length he'
      have l2 := ens_len us[i] (nds.map absN)
      rw [List.length_map] at l1 l2
      simp only [List.length_append, List.length_cons] at l1 ⊢
      have : nds.length ≤ S.nds.length + 1 + i := j3
      have l3 : (ens us[i] (nds.map absN)).length ≤ nds.length + 1 := l2
      have l4 : p'.length + (r'.length + 1) = (ens us[i] (nds.map absN)).length := l1
      omega
    · rw [e1]; exact (jb.ens _).link _ _
    · rw [e1, show nds.map absN = _ from j4, List.take_succ_eq_append_getElem hui, List.foldl_append]; rfl
  · rintro ⟨m, nds⟩ h6 t6 ⟨j1, j2, j3, jb, j4⟩ D8
    refine wpAny_execs_nil ?_
    refine q nds h6 _ ?_ ?_
    · rw [show nds.map absN = _ from j4, tx.len, List.take_length]; rfl
    · exact D8.tail.tail.front F
end
end Mine
end

section
open PySem PySem.W PyProof.Rows PySem.Calls
namespace Mine
theorem meets_bool_list (l : Addr) : Meets (Builtin.«bool.__new__» ⟨[.type "bool", .ref l], []⟩) (fun _ R s => ∃ items : Array Value, s.heap.IsList l items ∧ (items.size : Int) < 2 ^ 63 ∧ R (.ok (.ret (.bool (!items.isEmpty)))) { s with toks := s.toks + 1 + 1 }) :=
  Meets.of_wp fun prog w A R s hs => by
    obtain ⟨hp, g, d, tk, os⟩ := s
    obtain ⟨items, h1, h2, hs⟩ := hs
    have f1 := PySem.F.conv_sub_bool
    repeat (any_goals (first | assumption | (with_reducible refine wpAny_truthy_list h1 h2 ?_) | wp_step))
    all_goals first | exact ⟨_, rfl, hs⟩ | exact hs | skip

section
variable {w : World} {h₀ : Heap} {A : Around} {E : Value → Shared → Prop} {h : Heap} {g : Array GenState} {d : Drawn} {t : Nat} {os : OsState} {led rest : List (Addr × OP)}

theorem q_boolSt {l : Addr} {xs : List Str} {Q : Value → Shared → Prop} (D : Led h₀ h led) (i : Nat) (hi : led[i]? = some (l, stP xs)) (hz : xs.length ≤ 100000) (q : Q (.bool (!xs.isEmpty)) ⟨h, g, d, t + 1 + 1, os⟩) :
    wpAny (model PR w) A (call (.type "bool") [.ref l]) Q E ⟨h, g, d, t, os⟩ := by
  obtain ⟨o, ho, vs, ⟨n, rfl⟩, tx⟩ := D.at i hi
  have e := tx.len
  refine call_bool_1 (meets_bool_list l) ⟨vs.toArray, ⟨_, ho, rfl, n, rfl⟩, by rw [List.size_toArray]; omega, ?_⟩
  refine ⟨rfl, ?_⟩
  have e2 : vs.toArray.isEmpty = xs.isEmpty := by cases vs <;> cases xs <;> simp_all
  rw [e2]
  exact q

theorem soLed_rd {S : So} {a : Addr} {xs : List Str} (hr : S.rd = some (a, xs)) : soLed w S = (S.a, instP 144 S.d) :: (S.d, attP S.kv) :: (S.n2i, dcP w S.kvs) :: (a, stP xs) :: S.nds.flatMap ndLed := by
  unfold soLed; rw [hr]; rfl

/-- sorter.is_active() -/
theorem is_active_ {S : So} {F : List (Addr × OP)} {a : Addr} {xs : List Str} {Q : Value → Shared → Prop} (O : Ok w h₀) (R : Rm 1 A) (hr : S.rd = some (a, xs)) (hz : xs.length ≤ 100000) (D : Led h₀ h (F ++ (soLed w S ++ rest)))
    (q : ∀ h' tk, Led h₀ h' (F ++ (soLed w S ++ rest)) → Q (.bool (decide (S.nf < S.np) || !xs.isEmpty)) ⟨h', g, d, tk, os⟩) :
    wpAny (model PR w) A (call (.ref 113) [.ref S.a]) Q E ⟨h, g, d, t, os⟩ := by
  refine r_call O (D.mid F) R.room (a := 113) (by rfl) (by rfl) (by rfl) (by rfl) (BindsTo.of_eq (by rfl)) (by decide) (locs rfl) ?_
  intro L h₁ tk E' D2
  have e0 : S.kv.lookup ("_ready_nodes" : Str) = some (.ref a) := by show some (rdV S.rd) = _; rw [hr]; rfl
  have D3 := D2
  rw [soLed_rd hr] at D3
  refine wpAny_execs_cons (wpAny_If (wpAny_isTrue_Compare1 (Attribute_Name_ (r_local D3 (by rfl) (getT O D3 1 2 rfl rfl e0 (by kernel_rfl) rfl (q_none (is_none (wpAny_truthy_bool ?_))))))))
  refine wpAny_execs_nil ?_
  refine wpAny_execs_cons (wpAny_Return_some (wpAny_Or2 (wpAny_Compare1 (Attribute_Name_ (r_local D3 (by rfl) (getT O D3 1 2 rfl rfl (by rfl) (by kernel_rfl) rfl ?_))))))
  refine Attribute_Name_ (r_local D3 (by rfl) (getT O D3 1 2 rfl rfl (by rfl) (by kernel_rfl) rfl (PyProof.Rows.lt_int (wpAny_truthy_bool ?_))))
  by_cases hlt : S.nf < S.np
  · have q' := q h₁ (tk + 1 + 1 + 1) (D2.tail.front F)
    rw [decide_eq_true hlt] at q' ⊢
    exact q'
  · rw [decide_eq_false hlt] at q ⊢
    show wpAny _ _ _ _ _ _
    refine Call_ (r_builtin (v := .type "bool") O D3 (by kernel_rfl) (by kernel_rfl) ?_)
    refine PyProof.Rows.callWith_type1 (args_cons (Attribute_Name_ (r_local D3 (by rfl) (getT O D3 1 2 rfl rfl e0 (by kernel_rfl) rfl (args_nil ?_)))))
    refine q_boolSt D3 4 rfl hz ?_
    exact q h₁ _ (D2.tail.front F)
end
end Mine
end

section
open PySem PySem.W PyProof.Rows PySem.Calls
namespace Mine
noncomputable def setc (x : Str) (c : Int) (G : List GN) : List GN := G.map fun n => if n.1 = x then (n.1, c, n.2.2) else n
noncomputable def outG (xs : List Str) (G : List GN) : List GN := xs.foldl (fun G x => setc x (-1) G) G
theorem setc_names (x : Str) (c : Int) (G : List GN) : (setc x c G).map (·.1) = G.map (·.1) := by
  unfold setc
  rw [List.map_map]
  refine List.map_congr_left fun n _ => ?_
  simp only [Function.comp_apply]
  split <;> rfl
theorem bump_names (x : Str) (c : Int) (G : List GN) : (bump x c G).map (·.1) = G.map (·.1) := by
  unfold bump
  rw [List.map_map]
  refine List.map_congr_left fun n _ => ?_
  simp only [Function.comp_apply]
  split <;> rfl
theorem absN_names (nds : List Nd) : (nds.map absN).map (·.1) = nds.map (·.name) := by rw [List.map_map]; rfl

theorem valueAt_nd {nds : List Nd} {nd : Nd} (hN : (nds.map (·.name)).Nodup) (hm : nd ∈ nds) : valueAt (kvsOf nds) nd.name = some (.ref nd.i) := by
  unfold kvsOf
  rw [valueAt_map]
  have : nds.find? (fun n => n.name = nd.name) = some nd := by
    induction nds with
    | nil => cases hm
    | cons a r ih =>
      rw [List.map_cons, List.nodup_cons] at hN
      rw [List.find?_cons]
      rcases List.mem_cons.mp hm with rfl | hm
      · simp
      · have : a.name ≠ nd.name := fun e => hN.1 (e ▸ List.mem_map.mpr ⟨nd, hm, rfl⟩)
        simp only [this, decide_false]
        exact ih hN.2 hm
  rw [this]; rfl

section
variable {w : World} {h₀ : Heap} {A : Around} {E : Value → Shared → Prop} {h : Heap} {g : Array GenState} {d : Drawn} {t : Nat} {os : OsState} {led rest : List (Addr × OP)}

theorem q_dictItem {value slice : Expr} {b : Addr} {kvs : List (Str × Value)} {x : Str} {u : Tok} {v : Value} {Q : Value → Shared → Prop} (D : Led h₀ h led) (i : Nat) (hi : led[i]? = some (b, dcP w kvs)) (hv : valueAt kvs x = some v)
    (q : Q v ⟨h, g, d, t + 1, os⟩) (hs : subscripted slice false (.ref b) (.str x u) = operate [.ref b, .str x u] (getItem (.ref b) (.str x u)) := by with_unfolding_all rfl) (hg : ∀ r, letTemporaryGo value (.ref b) r = pure () := by intro _; with_unfolding_all rfl) :
    wpAny (model PR w) A (subscriptTail value slice (.ref b) (.str x u)) Q E ⟨h, g, d, t, os⟩ :=
  subscriptTail_builtin (D.dict i hi).typeIs PySem.F.slot_dict_getitem.lookup (wpAny_getItem_of (knd := strKind PR w) (strKind_is _ _ _ _) (D.dict i hi).mapOf hv q) hs hg

theorem q_tupleOf {l : Addr} {xs : List Str} {f : Addr × OP} {Q : Value → Shared → Prop} (D : Led h₀ h (f :: led)) (i : Nat) (hi : (f :: led)[i]? = some (l, stP xs)) (hz : xs.length ≤ 100000)
    (q : ∀ T vs h', TX vs xs → Led h₀ h' (f :: (T, tpP vs) :: led) → Q (.ref T) ⟨h', g, d, t, os⟩) : wpAny (model PR w) A (call (.type "tuple") [.ref l]) Q E ⟨h, g, d, t, os⟩ := by
  obtain ⟨o, ho, vs, ⟨n, rfl⟩, tx⟩ := D.at i hi
  have e := tx.len
  exact call_tuple_list (items := vs.toArray) ⟨_, ho, rfl, n, rfl⟩ (fun h' hk => q _ vs _ tx ((D.grow hk).new1 _ ⟨0, rfl⟩)) (by rw [List.size_toArray, sizeLine_eq]; omega)

theorem q_clear {l : Addr} {xs : List Str} {Q : Value → Shared → Prop} (D : Led h₀ h led) (i : Nat) (hi : led[i]? = some (l, stP xs)) (hz : xs.length ≤ 100000)
    (q : ∀ h', Led h₀ h' (led.set i (l, stP [])) → Q .none ⟨h', g, d, t, os⟩) : wpAny (model PR w) A (call (.builtin "list.clear") [.ref l]) Q E ⟨h, g, d, t, os⟩ := by
  obtain ⟨o, ho, vs, ⟨n, rfl⟩, tx⟩ := D.at i hi
  have hl := tx.len
  refine wpAny_call_entry PySem.F.slot_list_clear ⟨_, ho, rfl⟩ PySem.F.entry_list_clear ?_ (PySem.F.args_list_clear_1 _)
  show wpAny _ _ (do let old ← Builtin.List.listItems (.ref l); Builtin.List.listUpdate (.ref l) (fun _ => #[]); letGo old.toList.reverse; ret .none) _ _ ⟨h, g, d, t, os⟩
  refine wpAny_bind ?_
  unfold Builtin.List.listItems
  refine wpAny_bind (wpAny_seqItems ho rfl (wpAny_pure ?_))
  show wpAny _ _ (updateSeq l (fun _ => #[]) >>= fun _ => letGo _ >>= fun _ => ret .none) _ _ _
  refine wpAny_bind (wpAny_updateSeq ho rfl ?_ (by rw [List.size_toArray, sizeLine_eq]; omega) (by simp))
  refine wpAny_bind (wpAny_letGo (wpAny_pure ⟨.none, rfl, q _ (D.updI i hi (Heap.SameBut.update ..) ⟨_, Heap.get?_update_self _ ho rfl, [], lsP_map ⟨_, rfl⟩ _ (by simp), rfl⟩)⟩))

/-- a node's count laid anew -/
theorem setAt {S : So} {p : List Nd} {nd : Nd} {r : List Nd} {F : List (Addr × OP)} {c : Int} {ct : Tok} {Q : Unit → Shared → Prop} (O : Ok w h₀) (e : S.nds = p ++ nd :: r) (D : Led h₀ h (F ++ (soLed w S ++ rest)))
    (q : ∀ nds' h', nds'.map absN = setc nd.name c (S.nds.map absN) → Led h₀ h' (F ++ (soLed w { S with nds := nds' } ++ rest)) → Q () ⟨h', g, d, t + 1, os⟩) :
    wpAny (model PR w) A (setAttr (.ref nd.i) "npredecessors" (.int c ct)) Q E ⟨h, g, d, t, os⟩ := by
  have hN := (D.mid F).names
  have D1 : Led h₀ h (ndLed nd ++ (soGap w S p nd r ++ (F ++ rest))) := (D.mid F).openNd e
  refine setCnt O D1 0 1 rfl rfl rfl fun h' D2 => ?_
  have D3 : Led h₀ h' (soLed w { S with nds := p ++ { nd with cnt := c, ct := ct } :: r } ++ (F ++ rest)) := D2.closeNd (nd' := { nd with cnt := c, ct := ct }) rfl rfl
  refine q (p ++ { nd with cnt := c, ct := ct } :: r) h' ?_ (D3.front F)
  refine map_at (by rw [e]) (by rw [← e]; exact hN) ?_ ?_
  · show (if nd.name = nd.name then _ else _) = _
    rw [if_pos rfl]; rfl
  · intro n hne
    show (if n.1 = nd.name then _ else _) = _
    rw [if_neg hne]

theorem nd_of {nds : List Nd} {x : Str} (h : x ∈ nds.map (·.name)) : ∃ p nd r, nds = p ++ nd :: r ∧ nd.name = x := by
  obtain ⟨nd, hm, e⟩ := List.mem_map.mp h
  obtain ⟨p, r, e2⟩ := List.append_of_mem hm
  exact ⟨p, nd, r, e2, e⟩

theorem mem_absN {nds nds' : List Nd} {x : Str} (h : x ∈ nds.map (·.name)) (e : (nds'.map absN).map (·.1) = (nds.map absN).map (·.1)) : x ∈ nds'.map (·.name) := by
  rw [absN_names, absN_names] at e
  rw [e]; exact h
theorem outG_names (xs : List Str) (G : List GN) : (outG xs G).map (·.1) = G.map (·.1) := by
  unfold outG
  induction xs generalizing G with
  | nil => rfl
  | cons x r ih => rw [List.foldl_cons, ih, setc_names]

theorem get_ready_ {S : So} {F : List (Addr × OP)} {a : Addr} {xs : List Str} {Q : Value → Shared → Prop} (O : Ok w h₀) (R : Rm 2 A) (hr : S.rd = some (a, xs)) (hz : xs.length ≤ 1000) (hx : ∀ x ∈ xs, x ∈ S.nds.map (·.name))
    (D : Led h₀ h (F ++ (soLed w S ++ rest)))
    (q : ∀ T vs nds' u h' tk, TX vs xs → nds'.map absN = outG xs (S.nds.map absN) →
      Led h₀ h' (F ++ ((T, tpP vs) :: (soLed w { S with nds := nds', rd := some (a, []), np := S.np + xs.length, npT := u } ++ rest))) → Q (.ref T) ⟨h', g, d, tk, os⟩) :
    wpAny (model PR w) A (call (.ref 106) [.ref S.a]) Q E ⟨h, g, d, t, os⟩ := by
  obtain ⟨sa, sd, sn, srd, np, npT, nf, nfT, nds0⟩ := S
  obtain rfl : srd = some (a, xs) := hr
  refine r_call O (D.mid F) R.room (a := 106) (by rfl) (by rfl) (by rfl) (by rfl) (BindsTo.of_eq (by rfl)) (by decide) (locs rfl) ?_
  intro L h₁ tk E' D2
  refine wpAny_execs_cons (wpAny_If (wpAny_isTrue_Compare1 (Attribute_Name_ (r_local D2 (by rfl) (getT O D2 1 2 rfl rfl (by rfl) (by kernel_rfl) rfl (q_none (is_none (wpAny_truthy_bool ?_))))))))
  refine wpAny_execs_nil ?_
  refine wpAny_execs_cons (wpAny_Assign_Name (Call_ (r_builtin (v := .type "tuple") O D2 (by kernel_rfl) (by kernel_rfl) ?_)))
  refine PyProof.Rows.callWith_type1 (args_cons (Attribute_Name_ (r_local D2 (by rfl) (getT O D2 1 2 rfl rfl (by rfl) (by kernel_rfl) rfl (args_nil ?_)))))
  refine q_tupleOf (xs := xs) D2 4 rfl (by omega) fun T vs h2 tx D4 => ?_
  refine r_store D4 fun h3 D5 => ?_
  refine wpAny_execs_cons (wpAny_Assign_Name (Attribute_Name_ (r_local D5 (by rfl) (getT O D5 2 3 rfl rfl (by rfl) (by kernel_rfl) rfl (r_store D5 fun h4 D6 => ?_)))))
  refine wpAny_execs_cons (wpAny_For (r_local D6 (by rfl) (q_iterTup D6 1 rfl fun it h5 D7 => ?_)))
  refine r_for (nx_tup it T vs) (fun s : (Str → Option Value) × List Nd => s.1) (fun s => (T, tpP vs) :: (soLed w (⟨sa, sd, sn, some (a, xs), np, npT, nf, nfT, s.2⟩ : So) ++ (F ++ rest)))
    (fun i s => s.1 "self" = some (.ref sa) ∧ s.1 "n2i" = some (.ref sn) ∧ s.1 "result" = some (.ref T) ∧ s.2.map absN = outG (xs.take i) (nds0.map absN))
    (_, nds0) R.hd D7 ⟨by rfl, by rfl, by rfl, by rw [List.take_zero]; rfl⟩ (fun _ _ _ => ⟨0, rfl⟩) ?_ ?_
  · rintro i v ⟨m, nds⟩ h6 t6 E6 hv ⟨j1, j2, j3, j4⟩ D9
    have hvl : i < vs.length := by
      rw [List.getElem?_eq_some_iff] at hv; exact hv.1
    have hui : i < xs.length := by rw [← tx.len]; exact hvl
    obtain ⟨ty, hy⟩ := tx.at (i := i) (x := xs[i]) (by simp [hui])
    rw [hv] at hy
    obtain rfl := Option.some.inj hy
    refine hide fun K0 E0 hK0 => ?_
    refine wpAny_assign_Name (r_store D9 fun h7 D10 => hK0 _ _ ?_)
    refine hide fun K1 E1 hK1 => ?_
    refine wpAny_execs_cons (plainObj_wpAny_Assign_Attribute (r_global (v := .int (-1) 207) O D10 (by kernel_rfl) ?_))
    have hm : xs[i] ∈ nds.map (·.name) := mem_absN (hx _ (List.getElem_mem hui)) (by rw [show nds.map absN = _ from j4, outG_names])
    obtain ⟨p, nd, r, e, hn⟩ := nd_of hm
    have hN : (nds.map (·.name)).Nodup := (D10.mid [_, _, _]).names
    refine PyProof.Rows.Subscript_ (r_local D10 j2 (r_local D10 (by rfl) (q_dictItem D10 5 rfl (by rw [← hn]; exact valueAt_nd hN (by rw [e]; simp)) ?_)))
    refine setAt (S := (⟨sa, sd, sn, some (a, xs), np, npT, nf, nfT, nds⟩ : So)) (F := [_, _, _]) O e D10 fun nds' h8 he D11 => ?_
    refine wpAny_execs_nil ?_
    refine hK1 _ _ ⟨(_, nds'), h8, _, rfl, ?_, D11⟩
    refine ⟨j1, j2, j3, ?_⟩
    rw [he, hn, show (So.nds (⟨sa, sd, sn, some (a, xs), np, npT, nf, nfT, nds⟩ : So)).map absN = _ from j4, List.take_succ_eq_append_getElem hui, outG, outG, List.foldl_append]; rfl
  · rintro ⟨m, nds⟩ h6 t6 ⟨j1, j2, j3, j4⟩ D9
    refine wpAny_execs_cons (wpAny_Expr (MethodCall_ (Attribute_Name_ (r_local D9 j1 (getT O D9 2 3 rfl rfl (by rfl) (by kernel_rfl) rfl (r_gmSt D9 5 rfl PySem.F.slot_list_clear PySem.F.type_list_clear ?_))))))
    refine callWith_method0 (q_clear (xs := xs) D9 5 rfl (by omega) fun h7 D11 => ?_)
    refine wpAny_execs_cons (wpAny_AugAssign_AttributeAny (r_local D11 j1 (getT O D11 2 3 rfl rfl (by rfl) (by kernel_rfl) rfl (Call_ (r_builtin (v := .builtin "len") O D11 (by kernel_rfl) (by kernel_rfl) ?_)))))
    refine PyProof.Rows.callWith_builtin1 (args_cons (r_local D11 j3 (args_nil ?_)))
    obtain ⟨oT, hoT, nT, rfl⟩ := D11.at 1 rfl
    have hl := tx.len
    refine PyProof.Rows.len_tuple (items := vs.toArray) ⟨_, hoT, rfl, _, rfl⟩ (by rw [List.size_toArray]; omega) (PyProof.Rows.iadd_int (setT O D11 2 3 rfl rfl (by kernel_rfl) (Nat.le_of_ble_eq_true rfl) fun h8 D12 => ?_))
    refine wpAny_execs_cons (wpAny_Return_some (r_local D12 j3 ?_))
    obtain ⟨u, D13⟩ : ∃ u, Led h₀ h8 (((T, tpP vs) :: soLed w ⟨sa, sd, sn, some (a, []), np + vs.toArray.size, u, nf, nfT, nds⟩) ++ (F ++ rest)) := ⟨_, D12.tail⟩
    rw [List.size_toArray, hl] at D13
    refine q T vs nds u h8 _ tx ?_ (D13.front F)
    rw [show nds.map absN = _ from j4, hl, List.take_length]
end
end Mine
end

section
open PySem PySem.W PyProof.Rows PySem.Calls
namespace Mine
/-- an iterator: what it stands on, what its items are -/
structure Ny (w : World) (it : Addr) (ip : Nat → OP) (src : Addr × OP) (n : Nat) (VP : Nat → Value → Prop) : Prop where
  item : ∀ {h₀ h : Heap} {A : Around} {E : Value → Shared → Prop} {g : Array GenState} {d : Drawn} {t : Nat} {os : OsState} {led : List (Addr × OP)} {Q : Option Value → Shared → Prop} (i k : Nat),
    i < n → Led h₀ h ((it, ip i) :: led) → led[k]? = some src → (∀ v h' t', VP i v → Led h₀ h' ((it, ip (i + 1)) :: led) → Q (some v) ⟨h', g, d, t', os⟩) →
    wpAny (model PR w) A (pyNext (.ref it)) Q E ⟨h, g, d, t, os⟩
  stop : ∀ {h₀ h : Heap} {A : Around} {E : Value → Shared → Prop} {g : Array GenState} {d : Drawn} {t : Nat} {os : OsState} {led : List (Addr × OP)} {Q : Option Value → Shared → Prop} (k : Nat),
    A.handled = none → Led h₀ h ((it, ip n) :: led) → led[k]? = some src → (∀ h', Led h₀ h' led → Q none ⟨h', g, d, t, os⟩) →
    wpAny (model PR w) A (pyNext (.ref it)) Q E ⟨h, g, d, t, os⟩

section
variable {w : World} {h₀ : Heap} {A : Around} {E : Value → Shared → Prop} {h : Heap} {g : Array GenState} {d : Drawn} {t : Nat} {os : OsState} {led rest : List (Addr × OP)}

theorem r_forY {σ : Type} {it : Addr} {ip : Nat → OP} {src : Addr × OP} {n : Nat} {VP : Nat → Value → Prop} {target : Expr} {body : List Stmt} {env : Env} {R : Result → Shared → Prop} (N : Ny w it ip src n VP)
    (fr : σ → Str → Option Value) (ledf : σ → List (Addr × OP)) (J : Nat → σ → Prop) (σ₀ : σ) (hA : A.handled = none)
    (D : Led h₀ h ((env.locals, nsP (fr σ₀)) :: (it, ip 0) :: ledf σ₀)) (j0 : J 0 σ₀) (hsrc : ∀ i s, J i s → ∃ k : Nat, (ledf s)[k]? = some src)
    (turn : ∀ i v s h t E, i < n → VP i v → J i s → Led h₀ h ((env.locals, nsP (fr s)) :: (it, ip (i + 1)) :: ledf s) →
      wpAny (model PR w) A (assign target env v) (fun _ s₂ => wpAny (model PR w) A (execs body env) (fun f s₃ => match f with
        | .next | .cont => ∃ s' h' t', s₃ = ⟨h', g, d, t', os⟩ ∧ J (i + 1) s' ∧ Led h₀ h' ((env.locals, nsP (fr s')) :: (it, ip (i + 1)) :: ledf s')
        | .brk => R (.ok .next) s₃
        | .ret v => R (.ok (.ret v)) s₃) E s₂) E ⟨h, g, d, t, os⟩)
    (fin : ∀ s h t, J n s → Led h₀ h ((env.locals, nsP (fr s)) :: ledf s) → R (.ok .next) ⟨h, g, d, t, os⟩)
    (ht : ∀ v, letOwnedTupleGo target (.ref it) v = pure () := by intro _; rfl) :
    codeAny (model PR w) A (.forLoop target (.ref it) body [] env) R ⟨h, g, d, t, os⟩ := by
  refine codeAny_forLoop (fun k s => ∃ i st h' t', k + i = n ∧ s = ⟨h', g, d, t', os⟩ ∧ J i st ∧ Led h₀ h' ((env.locals, nsP (fr st)) :: (it, ip i) :: ledf st)) ?_ n ⟨0, σ₀, h, t, rfl, rfl, j0, D⟩ ht
  rintro k s ⟨i, st, h', t', e, rfl, j, D'⟩
  obtain ⟨kk, hk⟩ := hsrc i st j
  cases k with
  | zero =>
    have e' : i = n := by omega
    subst e'
    refine N.stop (kk + 1) hA D'.swap (by simpa using hk) fun h2 D2 => ?_
    exact wpAny_execs_nil (fin st h2 _ j D2)
  | succ k =>
    have hi : i < n := by omega
    refine N.item i (kk + 1) hi D'.swap (by simpa using hk) fun v h2 t2 hv D2 => ?_
    refine wpAny_mono (turn i v st h2 t2 _ hi hv j D2.swap) (fun _ s₂ h₂ => wpAny_mono h₂ (fun f s₃ h₃ => ?_) fun _ _ z => z) fun _ _ z => z
    cases f with
    | next => obtain ⟨s', h', t', e3, j', D3⟩ := h₃; exact ⟨k, by omega, i + 1, s', h', t', by omega, e3, j', D3⟩
    | cont => obtain ⟨s', h', t', e3, j', D3⟩ := h₃; exact ⟨k, by omega, i + 1, s', h', t', by omega, e3, j', D3⟩
    | brk => exact h₃
    | ret v => exact h₃

/-- a list of texts -/
theorem ny_st (it T : Addr) (xs : List Str) : Ny w it (liP T) (T, stP xs) xs.length (fun i v => ∃ x u, xs[i]? = some x ∧ v = .str x u) where
  item i k hi D hk q := by
    obtain ⟨o, ho, hc, hd⟩ := D.hd
    obtain ⟨o', ho', vs, ⟨n, rfl⟩, tx⟩ := D.tail.at k hk
    obtain ⟨u, hu⟩ := tx.at (i := i) (x := xs[i]) (by simp [hi])
    refine wpAny_pyNext_list_item (items := vs.toArray) ⟨o, ho, hc, hd⟩ ⟨_, ho', rfl, n, rfl⟩ (by simpa using hu) fun h' hi' hs => q _ h' _ ⟨xs[i], u, by simp [hi], rfl⟩ (D.upd hs ?_)
    obtain ⟨o2, h2, hc2, hd2⟩ := hi'
    exact ⟨o2, h2, hc2, hd2⟩
  stop k hh D hk q := by
    obtain ⟨o, ho, hc, hd⟩ := D.hd
    obtain ⟨o', ho', vs, ⟨n, rfl⟩, tx⟩ := D.tail.at k hk
    exact wpAny_pyNext_list_end (items := vs.toArray) hh ⟨o, ho, hc, hd⟩ ⟨_, ho', rfl, n, rfl⟩ (by have := tx.len; simp; omega) fun h' hs => q h' (D.extBut hs)
theorem q_iterSt {T : Addr} {xs : List Str} {f : Addr × OP} {Q : Value → Shared → Prop} (D : Led h₀ h (f :: led)) (hm : (T, stP xs) ∈ f :: led)
    (q : ∀ it h', Led h₀ h' (f :: (it, liP T 0) :: led) → Q (.ref it) ⟨h', g, d, t, os⟩) : wpAny (model PR w) A (pyIter (.ref T)) Q E ⟨h, g, d, t, os⟩ := by
  obtain ⟨o', ho', vs, ⟨n, rfl⟩, _⟩ := D.get hm
  exact wpAny_pyIter_list (items := vs.toArray) ⟨_, ho', rfl, n, rfl⟩ (q _ _ (D.new1 _ ⟨rfl, rfl⟩))

/-- what of a node never changes -/
noncomputable def skel (nd : Nd) : Str × Addr × Addr × Addr × List Str := (nd.name, nd.i, nd.dx, nd.l, nd.suc)
theorem skel_set (p r : List Nd) (nd : Nd) (c : Int) (ct : Tok) : (p ++ { nd with cnt := c, ct := ct } :: r).map skel = (p ++ nd :: r).map skel := by simp [skel]

theorem setAt' {S : So} {p : List Nd} {nd : Nd} {r : List Nd} {F : List (Addr × OP)} {c : Int} {ct : Tok} {Q : Unit → Shared → Prop} (O : Ok w h₀) (e : S.nds = p ++ nd :: r) (D : Led h₀ h (F ++ (soLed w S ++ rest)))
    (q : ∀ h', (p ++ { nd with cnt := c, ct := ct } :: r).map absN = setc nd.name c (S.nds.map absN) → Led h₀ h' (F ++ (soLed w { S with nds := p ++ { nd with cnt := c, ct := ct } :: r } ++ rest)) → Q () ⟨h', g, d, t + 1, os⟩) :
    wpAny (model PR w) A (setAttr (.ref nd.i) "npredecessors" (.int c ct)) Q E ⟨h, g, d, t, os⟩ := by
  have hN := (D.mid F).names
  have D1 : Led h₀ h (ndLed nd ++ (soGap w S p nd r ++ (F ++ rest))) := (D.mid F).openNd e
  refine setCnt O D1 0 1 rfl rfl rfl fun h' D2 => ?_
  have D3 : Led h₀ h' (soLed w { S with nds := p ++ { nd with cnt := c, ct := ct } :: r } ++ (F ++ rest)) := D2.closeNd (nd' := { nd with cnt := c, ct := ct }) rfl rfl
  refine q h' ?_ (D3.front F)
  refine map_at (by rw [e]) (by rw [← e]; exact hN) ?_ ?_
  · show (if nd.name = nd.name then _ else _) = _
    rw [if_pos rfl]; rfl
  · intro n hne
    show (if n.1 = nd.name then _ else _) = _
    rw [if_neg hne]
theorem getAt {S : So} {p : List Nd} {nd : Nd} {r : List Nd} {F : List (Addr × OP)} {expr : Bool} {Q : Value → Shared → Prop} (O : Ok w h₀) (e : S.nds = p ++ nd :: r) (D : Led h₀ h (F ++ (soLed w S ++ rest)))
    (q : Q (.int nd.cnt nd.ct) ⟨h, g, d, t + 1, os⟩) : wpAny (model PR w) A (getAttr (.ref nd.i) "npredecessors" expr) Q E ⟨h, g, d, t, os⟩ := by
  have D1 : Led h₀ h (ndLed nd ++ (soGap w S p nd r ++ (F ++ rest))) := (D.mid F).openNd e
  exact getCnt O D1 0 1 rfl rfl rfl q
theorem getSucAt {S : So} {p : List Nd} {nd : Nd} {r : List Nd} {F : List (Addr × OP)} {expr : Bool} {Q : Value → Shared → Prop} (O : Ok w h₀) (e : S.nds = p ++ nd :: r) (D : Led h₀ h (F ++ (soLed w S ++ rest)))
    (q : Q (.ref nd.l) ⟨h, g, d, t + 1, os⟩) : wpAny (model PR w) A (getAttr (.ref nd.i) "successors" expr) Q E ⟨h, g, d, t, os⟩ := by
  have D1 : Led h₀ h (ndLed nd ++ (soGap w S p nd r ++ (F ++ rest))) := (D.mid F).openNd e
  exact getSucc O D1 0 1 rfl rfl rfl q
theorem getNodeAt {S : So} {p : List Nd} {nd : Nd} {r : List Nd} {F : List (Addr × OP)} {expr : Bool} {Q : Value → Shared → Prop} (O : Ok w h₀) (e : S.nds = p ++ nd :: r) (D : Led h₀ h (F ++ (soLed w S ++ rest)))
    (q : Q (.str nd.name nd.nt) ⟨h, g, d, t + 1, os⟩) : wpAny (model PR w) A (getAttr (.ref nd.i) "node" expr) Q E ⟨h, g, d, t, os⟩ := by
  have D1 : Led h₀ h (ndLed nd ++ (soGap w S p nd r ++ (F ++ rest))) := (D.mid F).openNd e
  exact getNode O D1 0 1 rfl rfl rfl q
theorem suc_mem {S : So} {nd : Nd} (h : nd ∈ S.nds) : (nd.l, stP nd.suc) ∈ soLed w S := by
  unfold soLed
  refine .tail _ (.tail _ (.tail _ (List.mem_append_right _ (List.mem_flatMap.mpr ⟨nd, h, ?_⟩))))
  exact .tail _ (.tail _ (.head _))
end

/-- done, in plain words -/
noncomputable def cntOf (G : List GN) (x : Str) : Int := ((G.find? fun n => n.1 = x).map (·.2.1)).getD 0
noncomputable def sucOf (G : List GN) (x : Str) : List Str := ((G.find? fun n => n.1 = x).map (·.2.2)).getD []
noncomputable def dec1 (p : List GN × List Str) (s : Str) : List GN × List Str := (setc s (cntOf p.1 s - 1) p.1, if cntOf p.1 s - 1 = 0 then p.2 ++ [s] else p.2)
noncomputable def done1 (p : List GN × List Str) (x : Str) : List GN × List Str := (sucOf p.1 x).foldl dec1 (setc x (-2) p.1, p.2)
noncomputable def doneG (xs : List Str) (p : List GN × List Str) : List GN × List Str := xs.foldl done1 p

theorem find_abs {nds p r : List Nd} {nd : Nd} (e : nds = p ++ nd :: r) (hN : (nds.map (·.name)).Nodup) : (nds.map absN).find? (fun n => n.1 = nd.name) = some (absN nd) := by
  subst e
  rw [List.map_append, List.map_cons, List.nodup_append] at hN
  obtain ⟨_, _, h3⟩ := hN
  rw [List.map_append, List.find?_append, List.map_cons, List.find?_cons]
  have : (p.map absN).find? (fun n => n.1 = nd.name) = none := by
    rw [List.find?_eq_none]
    intro n hn
    obtain ⟨m, hm, rfl⟩ := List.mem_map.mp hn
    have := h3 m.name (List.mem_map.mpr ⟨m, hm, rfl⟩) nd.name (.head _)
    show ¬ (decide (m.name = nd.name) = true)
    simpa using this
  rw [this]
  simp [absN]
theorem cnt_abs {nds p r : List Nd} {nd : Nd} (e : nds = p ++ nd :: r) (hN : (nds.map (·.name)).Nodup) : cntOf (nds.map absN) nd.name = nd.cnt := by
  unfold cntOf; rw [find_abs e hN]; rfl
theorem suc_abs {nds p r : List Nd} {nd : Nd} (e : nds = p ++ nd :: r) (hN : (nds.map (·.name)).Nodup) : sucOf (nds.map absN) nd.name = nd.suc := by
  unfold sucOf; rw [find_abs e hN]; rfl

theorem bind_done {w : World} {a : Addr} {vs : List Value} {fd : FuncData} {o : Obj} (ho : (KK w).lookup 127 = some o) (hd : o.data = .func fd) :
    bindArgs fd ⟨.ref a :: vs, []⟩ = (newTuple vs >>= fun T => pure ([("self", .ref a), ("nodes", T)] : List (Str × Value))) := by
  obtain rfl := Option.some.inj ho
  injection hd with hd
  subst hd
  cases vs <;> rfl
end Mine
end

section
open PySem PySem.W PyProof.Rows PySem.Calls
namespace Mine
theorem dec1_len (p : List GN × List Str) (s : Str) : (dec1 p s).2.length ≤ p.2.length + 1 := by
  unfold dec1; dsimp only; split <;> simp
theorem dec1_names (p : List GN × List Str) (s : Str) : (dec1 p s).1.map (·.1) = p.1.map (·.1) := setc_names ..
theorem decs_len (ss : List Str) (p : List GN × List Str) : (ss.foldl dec1 p).2.length ≤ p.2.length + ss.length := by
  induction ss generalizing p with
  | nil => simp
  | cons s r ih => rw [List.foldl_cons, List.length_cons]; have := ih (dec1 p s); have := dec1_len p s; omega

section
variable {w : World} {h₀ : Heap} {A : Around} {E : Value → Shared → Prop} {h : Heap} {g : Array GenState} {d : Drawn} {t : Nat} {os : OsState} {led rest : List (Addr × OP)}

theorem skel_names {a b : List Nd} (e : a.map skel = b.map skel) : a.map (·.name) = b.map (·.name) := by
  have := congrArg (List.map (·.1)) e
  rwa [List.map_map, List.map_map] at this
theorem skel_mem {a b : List Nd} (e : a.map skel = b.map skel) {nd : Nd} (h : nd ∈ b) : ∃ nd' ∈ a, skel nd' = skel nd := by
  have : skel nd ∈ a.map skel := by rw [e]; exact List.mem_map.mpr ⟨nd, h, rfl⟩
  obtain ⟨nd', h1, h2⟩ := List.mem_map.mp this
  exact ⟨nd', h1, h2⟩

/-- sorter.done(*nodes) -/
theorem done_c {S : So} {F : List (Addr × OP)} {a : Addr} {ys xs : List Str} {vs : List Value} {B : Nat} {R' : Result → Shared → Prop} (O : Ok w h₀) (R : Rm 2 A) (hr : S.rd = some (a, ys)) (tx : TX vs xs) (hz : xs.length ≤ 1000)
    (hB : ∀ nd ∈ S.nds, nd.suc.length ≤ B) (hb : ys.length + B * xs.length ≤ 90000)
    (hs : ∀ nd ∈ S.nds, ∀ s ∈ nd.suc, s ∈ S.nds.map (·.name)) (hx : ∀ x ∈ xs, x ∈ S.nds.map (·.name))
    (hp : ∀ i (hi : i < xs.length), cntOf (doneG (xs.take i) (S.nds.map absN, ys)).1 xs[i] = -1)
    (D : Led h₀ h (F ++ (soLed w S ++ rest)))
    (q : ∀ nds' ys' u h' tk, (nds'.map absN, ys') = doneG xs (S.nds.map absN, ys) → nds'.map skel = S.nds.map skel →
      Led h₀ h' (F ++ (soLed w { S with nds := nds', rd := some (a, ys'), nf := S.nf + xs.length, nfT := u } ++ rest)) → R' (.ok (.ret .none)) ⟨h', g, d, tk, os⟩) :
    codeAny (model PR w) A (.call (.ref 127) ⟨.ref S.a :: vs, []⟩) R' ⟨h, g, d, t, os⟩ := by
  obtain ⟨sa, sd, sn, srd, np, npT, nf, nfT, nds0⟩ := S
  obtain rfl : srd = some (a, ys) := hr
  have hl := tx.len
  refine r_codeV (vs := vs) O (D.mid F) R.room (a := 127) (by rfl) (by rfl) (by rfl) (by rfl) (bind_done (w := w) (by rfl) (by rfl)) (by omega) (by decide) (fun T => locs rfl) ?_
  intro T L h₁ tk E' D2
  refine wpAny_execs_cons (wpAny_If (wpAny_isTrue_Compare1 (Attribute_Name_ (r_local D2 (by rfl) (getT O D2 2 3 rfl rfl (by rfl) (by kernel_rfl) rfl (q_none (is_none (wpAny_truthy_bool ?_))))))))
  refine wpAny_execs_nil ?_
  refine wpAny_execs_cons (wpAny_Assign_Name (Attribute_Name_ (r_local D2 (by rfl) (getT O D2 2 3 rfl rfl (by rfl) (by kernel_rfl) rfl (r_store D2 fun h4 D6 => ?_)))))
  refine wpAny_execs_cons (wpAny_For (r_local D6 (by rfl) (q_iterTup D6 1 rfl fun it h5 D7 => ?_)))
  refine r_for (nx_tup it T vs) (fun s : (Str → Option Value) × List Nd × List Str × Int × Tok => s.1)
    (fun s => (T, tpP vs) :: (soLed w ⟨sa, sd, sn, some (a, s.2.2.1), np, npT, s.2.2.2.1, s.2.2.2.2, s.2.1⟩ ++ (F ++ rest)))
    (fun i s => s.1 "self" = some (.ref sa) ∧ s.1 "n2i" = some (.ref sn) ∧ (s.2.1.map absN, s.2.2.1) = doneG (xs.take i) (nds0.map absN, ys) ∧ s.2.1.map skel = nds0.map skel ∧ s.2.2.1.length ≤ ys.length + B * i ∧ s.2.2.2.1 = nf + i)
    (_, nds0, ys, nf, nfT) R.hd D7 ⟨by rfl, by rfl, by rw [List.take_zero]; rfl, rfl, by simp, by simp⟩ (fun _ _ _ => ⟨0, rfl⟩) ?_ ?_
  · rintro i v ⟨m, nds, rd, nf', nfT'⟩ h6 t6 E6 hv ⟨j1, j2, j3, j4, j5, j6⟩ D9
    dsimp only at j1 j2 j3 j4 j5 j6 D9 ⊢
    have hvl : i < vs.length := by
      rw [List.getElem?_eq_some_iff] at hv; exact hv.1
    have hui : i < xs.length := by rw [← tx.len]; exact hvl
    obtain ⟨ty, hy⟩ := tx.at (i := i) (x := xs[i]) (by simp [hui])
    rw [hv] at hy
    obtain rfl := Option.some.inj hy
    refine hide fun K0 E0 hK0 => ?_
    refine wpAny_assign_Name (r_store D9 fun h7 D10 => hK0 _ _ ?_)
    refine hide fun K1 E1 hK1 => ?_
    have hm : xs[i] ∈ nds.map (·.name) := by rw [skel_names j4]; exact hx _ (List.getElem_mem hui)
    obtain ⟨p, nd, r, e, hn⟩ := nd_of hm
    have hN : (nds.map (·.name)).Nodup := (D10.mid [_, _, _]).names
    refine wpAny_execs_cons (wpAny_If (wpAny_isTrue_Compare1 (wpAny_NamedExpr (MethodCall_ (r_local D10 j2 (r_gmDict D10 5 rfl PySem.F.slot_dict_get PySem.F.type_dict_get ?_))))))
    refine q_dictGet D10 5 rfl (x := xs[i]) (u := ty) (fun Q' h' => r_local D10 (by rfl) h') rfl ?_
    have ev : valueAt (So.kvs ⟨sa, sd, sn, some (a, rd), np, npT, nf', nfT', nds⟩) xs[i] = some (.ref nd.i) := by rw [← hn]; exact valueAt_nd hN (by rw [e]; simp)
    rw [ev]
    refine wpAny_assign_Name (r_store D10 fun h8 D11 => ?_)
    refine q_none (is_none (wpAny_truthy_bool ?_))
    refine wpAny_execs_nil ?_
    refine wpAny_execs_cons (wpAny_Assign_Name (Attribute_Name_ (r_local D11 (by rfl) (getAt (F := [_, _, _]) O e D11 (r_store D11 fun h9 D12 => ?_)))))
    have hc : nd.cnt = -1 := by
      rw [← cnt_abs e hN, hn, show nds.map absN = _ from congrArg Prod.fst j3]
      exact hp i hui
    refine wpAny_execs_cons (wpAny_If (wpAny_isTrue_Compare1 (r_local D12 (by rfl) (r_global (v := .int (-1) 207) O D12 (by kernel_rfl) (PyProof.Rows.ne_int (wpAny_truthy_bool ?_))))))
    rw [hc]
    refine wpAny_execs_nil ?_
    refine wpAny_execs_cons (plainObj_wpAny_Assign_Attribute (r_global (v := .int (-2) 210) O D12 (by kernel_rfl) (r_local D12 (by rfl) (setAt' (F := [_, _, _]) O e D12 fun h10 he D13 => ?_))))
    have hndm : nd ∈ nds := by rw [e]; simp
    obtain ⟨ndo, hndo, hsk⟩ := skel_mem j4.symm hndm
    have hsuc : nd.suc = ndo.suc := (congrArg (fun x => x.2.2.2.2) hsk).symm
    have hsB : nd.suc.length ≤ B := by rw [hsuc]; exact hB _ hndo
    have hsN : ∀ s ∈ nd.suc, s ∈ nds0.map (·.name) := by rw [hsuc]; exact hs _ hndo
    refine wpAny_execs_cons (wpAny_For (Attribute_Name_ (r_local D13 (by rfl) (getSucAt (S := ⟨sa, sd, sn, some (a, rd), np, npT, nf', nfT', p ++ { nd with cnt := -2, ct := 210 } :: r⟩) (nd := { nd with cnt := -2, ct := 210 }) (F := [_, _, _]) O rfl D13
      (q_iterSt (xs := nd.suc) D13 (List.mem_append_right [_, _, _] (List.mem_append_left _ (suc_mem (nd := { nd with cnt := -2, ct := 210 }) (List.mem_append_right _ (List.Mem.head _))))) fun it2 h11 D14 => ?_)))))
    have hsk1 : (p ++ { nd with cnt := -2, ct := 210 } :: r).map skel = nds0.map skel := by rw [skel_set, ← e]; exact j4
    have hsuc2 : nd.suc = sucOf (nds.map absN) xs[i] := by rw [← hn]; exact (suc_abs e hN).symm
    refine r_forY (ny_st it2 nd.l nd.suc) (fun s : (Str → Option Value) × List Nd × List Str => s.1)
      (fun s => (it, tiP T (i + 1)) :: (T, tpP vs) :: (soLed w ⟨sa, sd, sn, some (a, s.2.2), np, npT, nf', nfT', s.2.1⟩ ++ (F ++ rest)))
      (fun j s => s.1 "self" = some (.ref sa) ∧ s.1 "n2i" = some (.ref sn) ∧ (s.2.1.map absN, s.2.2) = (nd.suc.take j).foldl dec1 (setc xs[i] (-2) (nds.map absN), rd) ∧ s.2.1.map skel = nds0.map skel)
      (_, p ++ { nd with cnt := -2, ct := 210 } :: r, rd) R.hd D14 ⟨j1, j2, by rw [List.take_zero, ← hn]; exact Prod.ext he rfl, hsk1⟩ ?_ ?_ ?_
    · rintro j ⟨m', nds', rd'⟩ ⟨k1, k2, k3, k4⟩
      obtain ⟨nd', hm1, hm2⟩ := skel_mem (k4.trans j4.symm) hndm
      have e1 : nd'.l = nd.l := congrArg (fun x => x.2.2.2.1) hm2
      have e2 : nd'.suc = nd.suc := congrArg (fun x => x.2.2.2.2) hm2
      have : (nd.l, stP nd.suc) ∈ soLed w ⟨sa, sd, sn, some (a, rd'), np, npT, nf', nfT', nds'⟩ := by rw [← e1, ← e2]; exact suc_mem hm1
      exact List.mem_iff_getElem?.mp (.tail _ (.tail _ (List.mem_append_left _ this)))
    · rintro j v ⟨m', nds', rd'⟩ h12 t12 E12 hj ⟨s, us, hs1, rfl⟩ ⟨k1, k2, k3, k4⟩ D15
      dsimp only at k1 k2 k3 k4 D15 ⊢
      refine hide fun K2 E2 hK2 => ?_
      refine wpAny_assign_Name (r_store D15 fun h13 D16 => hK2 _ _ ?_)
      refine hide fun K3 E3 hK3 => ?_
      have hm' : s ∈ nds'.map (·.name) := by rw [skel_names k4]; exact hsN _ (List.mem_of_getElem? hs1)
      obtain ⟨p', nd', r', e', hn'⟩ := nd_of hm'
      have hN' : (nds'.map (·.name)).Nodup := (D16.mid [_, _, _, _]).names
      refine wpAny_execs_cons (wpAny_Assign_Name (PyProof.Rows.Subscript_ (r_local D16 k2 (r_local D16 (by rfl) (q_dictItem D16 6 rfl (by rw [← hn']; exact valueAt_nd hN' (by rw [e']; simp)) (r_store D16 fun h14 D17 => ?_))))))
      refine wpAny_execs_cons (wpAny_AugAssign_AttributeAny (r_local D17 (by rfl) (getAt (F := [_, _, _, _]) O e' D17 (q_int (PySem.P.isub_int (setAt' (F := [_, _, _, _]) O e' D17 fun h15 he' D18 => ?_))))))
      refine wpAny_execs_cons (wpAny_If (wpAny_isTrue_Compare1 (Attribute_Name_ (r_local D18 (by rfl) (getAt (S := ⟨sa, sd, sn, some (a, rd'), np, npT, nf', nfT', p' ++ { nd' with cnt := nd'.cnt - 1, ct := _ } :: r'⟩) (nd := { nd' with cnt := nd'.cnt - 1, ct := _ }) (F := [_, _, _, _]) O rfl D18 (q_int (PyProof.Rows.eq_int (wpAny_truthy_bool ?_))))))))
      have hc' : cntOf (nds'.map absN) s = nd'.cnt := by rw [← hn']; exact cnt_abs e' hN'
      have hgo : ∀ rd2, rd2 = (if nd'.cnt - 1 = 0 then rd' ++ [s] else rd') → ∀ ct', ((p' ++ { nd' with cnt := nd'.cnt - 1, ct := ct' } :: r').map absN, rd2) = (nd.suc.take (j + 1)).foldl dec1 (setc xs[i] (-2) (nds.map absN), rd) ∧ (p' ++ { nd' with cnt := nd'.cnt - 1, ct := ct' } :: r').map skel = nds0.map skel := by
        intro rd2 h2 ct'
        refine ⟨?_, by rw [skel_set, ← e']; exact k4⟩
        have hja : nd.suc[j] = s := by rw [List.getElem?_eq_some_iff] at hs1; exact hs1.2
        rw [List.take_succ_eq_append_getElem hj, List.foldl_append, ← k3, hja]
        show _ = dec1 _ s
        unfold dec1
        dsimp only
        rw [hc', h2]
        refine Prod.ext ?_ rfl
        show _ = setc s (nd'.cnt - 1) (nds'.map absN)
        rw [← hn', ← he']
        simp [absN]
      by_cases hz0 : nd'.cnt - 1 = 0
      · rw [show ((nd'.cnt - 1 == 0) = true) from by simpa using hz0]
        refine wpAny_execs_cons (wpAny_Expr (MethodCall_ (Attribute_Name_ (r_local D18 k1 (getT O D18 4 5 rfl rfl (by rfl) (by kernel_rfl) rfl (r_gmSt D18 7 rfl PySem.F.slot_list_append PySem.F.type_list_append ?_))))))
        refine callWith_method1 (args_cons (r_local D18 (by rfl) (args_nil ?_)))
        have hlen : rd'.length ≤ 100000 := by
          have h1 := congrArg (fun x => x.2.length) k3
          have h2 := decs_len (nd.suc.take j) (setc xs[i] (-2) (nds.map absN), rd)
          have h3 : (nd.suc.take j).length ≤ nd.suc.length := by rw [List.length_take]; omega
          dsimp only at h1 h2
          have h4 : B * i + B ≤ B * xs.length := by
            have := Nat.mul_le_mul_left B (show i + 1 ≤ xs.length from hui)
            rwa [Nat.mul_add, Nat.mul_one] at this
          omega
        refine r_appendT (xs := rd') D18 7 rfl hlen fun h16 D19 => ?_
        refine wpAny_execs_nil ?_
        refine wpAny_execs_nil ?_
        refine hK3 _ _ ⟨(_, p' ++ { nd' with cnt := nd'.cnt - 1, ct := _ } :: r', rd' ++ [s]), h16, _, rfl, ?_, D19⟩
        exact ⟨k1, k2, hgo (rd' ++ [s]) (by rw [if_pos hz0]) _⟩
      · rw [show ((nd'.cnt - 1 == 0) = false) from by simpa using hz0]
        refine wpAny_execs_nil ?_
        refine wpAny_execs_nil ?_
        refine hK3 _ _ ⟨(_, p' ++ { nd' with cnt := nd'.cnt - 1, ct := _ } :: r', rd'), h15, _, rfl, ?_, D18⟩
        exact ⟨k1, k2, hgo rd' (by rw [if_neg hz0]) _⟩
    · rintro ⟨m', nds', rd'⟩ h12 t12 ⟨k1, k2, k3, k4⟩ D15
      dsimp only at k1 k2 k3 k4 D15 ⊢
      refine wpAny_execs_cons (wpAny_AugAssign_AttributeAny (r_local D15 k1 (getT O D15 3 4 rfl rfl (by rfl) (by kernel_rfl) rfl (q_int (PyProof.Rows.iadd_int (setT O D15 3 4 rfl rfl (by kernel_rfl) (Nat.le_of_ble_eq_true rfl) fun h13 D16 => ?_))))))
      refine wpAny_execs_nil ?_
      refine hK1 _ _ ⟨(_, nds', rd', nf' + 1, _), h13, _, rfl, ?_, D16⟩
      have h2 := decs_len nd.suc (setc xs[i] (-2) (nds.map absN), rd)
      rw [List.take_length] at k3
      have h1 := congrArg (fun x => x.2.length) k3
      dsimp only at h1 h2
      refine ⟨k1, k2, ?_, k4, ?_, ?_⟩
      · rw [k3, List.take_succ_eq_append_getElem hui, doneG, List.foldl_append]
        show _ = done1 (doneG (xs.take i) _) xs[i]
        rw [← j3]
        unfold done1
        dsimp only
        rw [← hsuc2]
      · show rd'.length ≤ ys.length + B * (i + 1)
        rw [Nat.mul_add, Nat.mul_one]; omega
      · show nf' + 1 = nf + ((i + 1 : Nat) : Int)
        rw [j6]; push_cast; omega
  · rintro ⟨m, nds, rd, nf', nfT'⟩ h6 t6 ⟨j1, j2, j3, j4, j5, j6⟩ D9
    dsimp only at j1 j2 j3 j4 j5 j6 D9 ⊢
    refine wpAny_execs_nil ?_
    refine q nds rd nfT' h6 _ ?_ j4 ?_
    · rw [j3, hl, List.take_length]
    · subst j6
      rw [hl] at D9
      exact D9.tail.tail.front F
end
end Mine
end

section
open PySem PySem.W PyProof.Rows PySem.Calls
namespace Mine
theorem li_getattribute : Slot "list_iterator" "__getattribute__" "object.__getattribute__" :=
  .of (owner := "object") (n := "__getattribute__") (by rw [typeLookup_type, builtinLookup_eq_fast]; kernel_rfl) (by decide +kernel) (by decide +kernel) (by decide +kernel)
    (by first | exact .inl (by decide +kernel) | exact .inr (by decide +kernel)) (by rw [isSubtype_type]; kernel_rfl)
theorem li_entry : entryFor table "object.__getattribute__" = some Builtin.«object.__getattribute__» := entryFor_of_tree (by kernel_rfl)
theorem li_args (a b : Value) : argsOk "object.__getattribute__" ⟨[a, b], []⟩ := by unfold argsOk; kernel_rfl
theorem li_getattr : typeLookup (.type "list_iterator") "__getattr__" = pure none := by rw [typeLookup_type, builtinLookup_eq_fast]; kernel_rfl
theorem li_next : typeLookup (.type "list_iterator") "__next__" = pure (some (.builtin "list_iterator.__next__")) := by rw [typeLookup_type, builtinLookup_eq_fast]; kernel_rfl
theorem li_nextT : typeOf (.builtin "list_iterator.__next__") = pure (.type "wrapper_descriptor") := by show builtinType _ = _; rw [builtinType_eq_fast]; kernel_rfl
theorem wd_get : Slot "wrapper_descriptor" "__get__" "wrapper_descriptor.__get__" :=
  .of (owner := "wrapper_descriptor") (n := "__get__") (by rw [typeLookup_type, builtinLookup_eq_fast]; kernel_rfl) (by decide +kernel) (by decide +kernel) (by decide +kernel)
    (by first | exact .inl (by decide +kernel) | exact .inr (by decide +kernel)) (by rw [isSubtype_type]; kernel_rfl)
theorem wd_entry : entryFor table "wrapper_descriptor.__get__" = some Builtin.«wrapper_descriptor.__get__» := entryFor_of_tree (by kernel_rfl)
theorem wd_args (a b c : Value) : argsOk "wrapper_descriptor.__get__" ⟨[a, b, c], []⟩ := by unfold argsOk; kernel_rfl
theorem wd_set : typeLookup (.type "wrapper_descriptor") "__set__" = pure none := by rw [typeLookup_type, builtinLookup_eq_fast]; kernel_rfl
theorem wd_del : typeLookup (.type "wrapper_descriptor") "__delete__" = pure none := by rw [typeLookup_type, builtinLookup_eq_fast]; kernel_rfl
theorem wd_look : typeLookup (.type "wrapper_descriptor") "__get__" = pure (some (.builtin "wrapper_descriptor.__get__")) := wd_get.lookup
theorem sub_li : isSubtype (.type "list_iterator") (.type "list_iterator") = pure true := by rw [isSubtype_type]; kernel_rfl
theorem mbound (it : Addr) : Meets (Builtin.«wrapper_descriptor.__get__» ⟨[.builtin "list_iterator.__next__", .ref it, .type "list_iterator"], []⟩) (fun _ R s => (∃ o, s.heap.get? it = some o ∧ o.cls = .type "list_iterator") ∧
    R (.ok (.ret (.ref s.heap.objs.size))) { s with heap := s.heap.push { cls := .type "method-wrapper", data := .fields #[.builtin "list_iterator.__next__", .ref it] } }) :=
  Meets.of_wp fun prog w A R s hs => by
    obtain ⟨hp, g, d, tk, os⟩ := s
    obtain ⟨⟨o, hx, hc⟩, hs⟩ := hs
    have hT : (⟨hp, g, d, tk, os⟩ : Shared).TypeIs (.ref it) "list_iterator" := ⟨_, hx, hc⟩
    unfold Builtin.«wrapper_descriptor.__get__»
    have f1 := sub_li
    refine wpAny_bind (wpAny_of_eq (a := (.builtin "list_iterator.__next__", some (.ref it), some (.type "list_iterator"))) (by first | rfl | kernel_rfl) ?_)
    refine wpAny_bind ?_
    refine wpAny_bind ?_
    refine wpAny_of_eq (a := (Str.ofString "__next__", .type "list_iterator")) (by first | rfl | kernel_rfl) ?_
    dsimp only
    refine wpAny_bind (wpAny_isInstance hT f1 ?_)
    refine wpAny_pure ?_
    refine wpAny_bind (wpAny_newObj_type (wpAny_pure ⟨_, rfl, hs⟩))

theorem mgetattr (it : Addr) (u : Tok) : Meets (Builtin.«object.__getattribute__» ⟨[.ref it, .str "__next__" u], []⟩) (fun _ R s => (∃ o, s.heap.get? it = some o ∧ o.cls = .type "list_iterator" ∧ o.dict = none ∧ ∃ vs, o.data = .fields vs) ∧
    R (.ok (.ret (.ref s.heap.objs.size))) { s with heap := s.heap.push { cls := .type "method-wrapper", data := .fields #[.builtin "list_iterator.__next__", .ref it] } }) :=
  Meets.of_wp fun prog w A R s hs => by
    obtain ⟨hp, g, d, tk, os⟩ := s
    obtain ⟨⟨o, hx, hc, hdc, vs, hdt⟩, hs⟩ := hs
    have hT : (⟨hp, g, d, tk, os⟩ : Shared).TypeIs (.ref it) "list_iterator" := ⟨_, hx, hc⟩
    obtain ⟨c, dct, dat, sl⟩ := o
    simp only at hc hdc hdt
    subst hc hdc hdt
    have f1 := li_next
    have f2 := li_nextT
    have f3 := wd_look
    have f4 := wd_set
    have f5 := wd_del
    unfold Builtin.«object.__getattribute__»
    repeat (any_goals (first | assumption | ((with_reducible show wpAny _ _ (call (Value.builtin "wrapper_descriptor.__get__") _ _) _ _ _); refine call_meets wd_get (show Shared.TypeIs _ (.builtin "list_iterator.__next__") "wrapper_descriptor" from f2) wd_entry (wd_args _ _ _) (mbound it) ⟨⟨_, hx, rfl⟩, ?_⟩) | wp_step))
    exact wpAny_pure ⟨_, rfl, hs⟩

theorem q_nextAttr {it : Addr} {Q : Value → Shared → Prop} {w : World} {A : Around} {E : Value → Shared → Prop} {hp : Heap} {g : Array GenState} {d : Drawn} {tk : Nat} {os : OsState} {vs : Array Value} {o : Obj} (hx : hp.get? it = some o) (hc : o.cls = .type "list_iterator") (hdc : o.dict = none) (hdt : o.data = .fields vs)
    (h : Q (.ref hp.objs.size) ⟨hp.push { cls := .type "method-wrapper", data := .fields #[.builtin "list_iterator.__next__", .ref it] }, g, d, tk + 1, os⟩) :
    wpAny (model PR w) A (getAttr (.ref it) "__next__" true) Q E ⟨hp, g, d, tk, os⟩ := by
  have hT : ∀ tk', (⟨hp, g, d, tk', os⟩ : Shared).TypeIs (.ref it) "list_iterator" := fun _ => ⟨_, hx, hc⟩
  obtain ⟨c, dct, dat, sl⟩ := o
  simp only at hc hdc hdt
  subst hc hdc hdt
  have f3 := li_getattribute.lookup
  have f4 := li_getattribute.bind (.ref it)
  have f5 := li_getattr
  unfold getAttr getAttrBy
  repeat (any_goals (first | assumption | exact hT _ | ((with_reducible show wpAny _ _ (call (Value.builtin "object.__getattribute__") _ _) _ _ _); refine call_meets li_getattribute (hT _) li_entry (li_args _ _) (mgetattr it _) ⟨⟨_, hx, rfl, rfl, _, rfl⟩, ?_⟩) | wp_step))
  show wpAny _ _ (handedOut (.ref _)) Q E _
  exact handed_on rfl h
end Mine
end

section
open PySem PySem.W PyProof.Rows PySem.Calls
namespace Mine
section
variable {w : World} {h₀ : Heap} {A : Around} {E : Value → Shared → Prop} {h : Heap} {g : Array GenState} {d : Drawn} {t : Nat} {os : OsState} {led rest : List (Addr × OP)}

/-- a set of texts -/
noncomputable def seP (w : World) (S : Str → Bool) (n : Nat) : OP := fun o => ∃ es ep t, o.ExactSet ∧ o.data = .set es ep t ∧ ElemsOf (PySem.strKind PR w) es.toList ∧ (∀ k, S k = true ↔ ∃ e ∈ es.toList, (PySem.strKind PR w).is k e.2 = true)
    ∧ es.size < scanBound ∧ t.fits es.size = true ∧ es.size = n
theorem seP_of {b : Addr} {S : Str → Bool} {n : Nat} {h : Heap} (x : h.SetOf (PySem.strKind PR w) b S n) : ∃ o, h.get? b = some o ∧ seP w S n o := by
  obtain ⟨o, es, ep, t, ho, r⟩ := x; exact ⟨o, ho, es, ep, t, r⟩
theorem Led.set {b : Addr} {S : Str → Bool} {n : Nat} {h : Heap} (D : Led h₀ h led) (i : Nat) (hi : led[i]? = some (b, seP w S n)) : h.SetOf (PySem.strKind PR w) b S n := by
  obtain ⟨o, ho, es, ep, t, r⟩ := D.at i hi; exact ⟨o, es, ep, t, ho, r⟩

theorem q_set0 {f : Addr × OP} {Q : Value → Shared → Prop} (D : Led h₀ h (f :: led)) (q : ∀ a h', Led h₀ h' (f :: (a, seP w (fun _ => false) 0) :: led) → Q (.ref a) ⟨h', g, d, t, os⟩) :
    wpAny (model PR w) A (call (.type "set") []) Q E ⟨h, g, d, t, os⟩ := by
  refine call_set_0 fun b => q _ _ (D.new1 _ ⟨#[], 0, _, ⟨rfl, rfl, rfl⟩, rfl, fun e he => by simp at he, fun k => by simp, by decide, ?_, rfl⟩)
  cases b <;> rfl
theorem q_inSet {a : Addr} {S : Str → Bool} {n : Nat} {x : Str} {u : Tok} {Q : Value → Shared → Prop} (D : Led h₀ h led) (i : Nat) (hi : led[i]? = some (a, seP w S n)) (q : Q (.bool (S x)) ⟨h, g, d, t + 1, os⟩) :
    wpAny (model PR w) A (compareOp .In (.str x u) (.ref a)) Q E ⟨h, g, d, t, os⟩ :=
  wpAny_inSet_of (knd := PySem.strKind PR w) (strKind_is _ _ _ _) rfl (D.set i hi) q
theorem q_setAdd {a : Addr} {S : Str → Bool} {n : Nat} {x : Str} {u : Tok} {Q : Value → Shared → Prop} (D : Led h₀ h led) (i : Nat) (hi : led[i]? = some (a, seP w S n)) (hx : S x = false) (hz : n + 1 < 1000)
    (q : ∀ h', Led h₀ h' (led.set i (a, seP w (fun k => S k || decide (k = x)) (n + 1))) → Q .none ⟨h', g, d, t + 1, os⟩) :
    wpAny (model PR w) A (call (.builtin "set.add") [.ref a, .str x u]) Q E ⟨h, g, d, t, os⟩ := by
  refine call_set_add (knd := PySem.strKind PR w) (strKind_is _ _ _ _) rfl (D.set i hi) (Nat.lt_of_lt_of_le hz (by decide)) fun h' hs hS => q h' (D.updI i hi hs ?_)
  rw [hx] at hS
  exact seP_of hS
theorem q_gmSet {a : Addr} {S : Str → Bool} {n : Nat} {pl : Sem Bool} {Q : Value × List Value → Shared → Prop} (D : Led h₀ h led) (i : Nat) (hi : led[i]? = some (a, seP w S n)) (q : Q (.builtin "set.add", [.ref a]) ⟨h, g, d, t, os⟩) :
    wpAny (model PR w) A (getMethod (.ref a) "add" pl) Q E ⟨h, g, d, t, os⟩ := getMethod_set_add (D.set i hi) q

theorem q_inDict {b : Addr} {kvs : List (Str × Value)} {x : Str} {u : Tok} {Q : Value → Shared → Prop} (D : Led h₀ h led) (i : Nat) (hi : led[i]? = some (b, dcP w kvs)) (q : Q (.bool (valueAt kvs x).isSome) ⟨h, g, d, t + 1, os⟩) :
    wpAny (model PR w) A (compareOp .In (.str x u) (.ref b)) Q E ⟨h, g, d, t, os⟩ :=
  wpAny_in_of (knd := PySem.strKind PR w) (strKind_is _ _ _ _) (D.noMod (List.mem_of_getElem? hi)) (D.dict i hi).mapOf q
theorem q_delItem {b : Addr} {kvs : List (Str × Value)} {x : Str} {u : Tok} {Q : Unit → Shared → Prop} (D : Led h₀ h led) (i : Nat) (hi : led[i]? = some (b, dcP w kvs)) (hz : kvs.length ≤ 1000) (hv : (valueAt kvs x).isSome = true)
    (q : ∀ h', Led h₀ h' (led.set i (b, dcP w (without kvs x))) → Q () ⟨h', g, d, t + 1, os⟩) : wpAny (model PR w) A (delItem (.ref b) (.str x u)) Q E ⟨h, g, d, t, os⟩ := by
  have hD := D.dict i hi
  unfold delItem
  try with_reducible refine wpAny_holding ?_
  refine wpAny_bind (wpAny_sequenceKey (s := ⟨h, g, d, t, os⟩) hD.typeIs (by decide) ?_)
  refine wpAny_bind (wpAny_callSpecial?_slot (s := ⟨h, g, d, t, os⟩) (name := Str.ofString "__delitem__") hD.typeIs PySem.F.slot_dict_delitem
    (call_meetsIn PySem.F.slot_dict_delitem (s := ⟨h, g, d, t, os⟩) hD.typeIs PySem.F.entry_dict_delitem (PySem.F.args_dict_delitem_2 _ _) (meets_dict_delitem_pairs (PySem.strKind PR w) b (strKind_is _ _ _ _)) ⟨kvs, hD, (by rw [sizeLine_eq]; omega), hv, fun h' hmm hs => ?_⟩))
  exact wpAny_pure (q h' (D.updI i hi hs (dcP_of hmm)))

/-- l.pop() -/
theorem q_pop {l : Addr} {vs : List Value} {v : Value} {Q : Value → Shared → Prop} (D : Led h₀ h led) (i : Nat) (hi : led[i]? = some (l, lsP (vs ++ [v]))) (hz : vs.length ≤ 1000)
    (q : ∀ h', Led h₀ h' (led.set i (l, lsP vs)) → Q v ⟨h', g, d, t, os⟩) : wpAny (model PR w) A (call (.builtin "list.pop") [.ref l]) Q E ⟨h, g, d, t, os⟩ := by
  obtain ⟨o, ho, n, rfl⟩ := D.at i hi
  refine wpAny_call_entry PySem.F.slot_list_pop ⟨_, ho, rfl⟩ PySem.F.entry_list_pop ?_ (PySem.F.args_list_pop_1 _)
  have e1 : (vs ++ [v]).toArray.isEmpty = false := by simp
  have e2 : seqIndex? (-1) (vs ++ [v]).toArray.size = some vs.length := by
    unfold seqIndex?
    simp
    omega
  unfold Builtin.«list.pop»
  refine wpAny_bind (wpAny_of_eq (a := (.ref l, [])) (by first | rfl | kernel_rfl) ?_)
  refine wpAny_bind (wpAny_pure ?_)
  show wpAny _ _ (Builtin.List.listItems (.ref l) >>= _) _ _ _
  refine wpAny_bind ?_
  unfold Builtin.List.listItems
  refine wpAny_bind (wpAny_seqItems ho rfl (wpAny_pure ?_))
  rw [if_neg (by rw [e1]; exact Bool.false_ne_true), e2]
  simp only [Option.bind_some]
  rw [show (vs ++ [v]).toArray[vs.length]? = some v by simp]
  refine wpAny_bind (m := updateSeq l (·.eraseIdxIfInBounds vs.length)) (wpAny_updateSeq ho rfl ?_ (by simp; rw [sizeLine_eq]; omega) (by simp [List.eraseIdx_append_of_length_le]; rw [sizeLine_eq]; omega))
  refine wpAny_pure ⟨v, rfl, q _ (D.updI i hi (Heap.SameBut.update ..) ⟨_, Heap.get?_update_self _ ho rfl, lsP_map ⟨_, rfl⟩ _ ?_⟩)⟩
  apply Array.ext'
  simp [Array.eraseIdxIfInBounds, List.eraseIdx_append_of_length_le]
end
end Mine
end

section
open PySem PySem.W PyProof.Rows PySem.Calls
namespace Mine
section
variable {w : World} {h₀ : Heap} {A : Around} {E : Value → Shared → Prop} {h h' : Heap} {g : Array GenState} {d : Drawn} {t : Nat} {os : OsState} {led rest : List (Addr × OP)} {env : Env} {outer : List Env}

/-- the frames of the calls that are open: each is in the ledger -/
noncomputable def Frs (outer : List Env) (led : List (Addr × OP)) : Prop := ∀ e ∈ outer, e.scope.kind ≠ .module ∧ ∃ L m, e.frame = some L ∧ (L, nsP m) ∈ led
theorem Frs.mono {led' : List (Addr × OP)} (x : Frs outer led) (h : ∀ p ∈ led, p ∈ led') : Frs outer led' := fun e he => by
  obtain ⟨hk, L, m, hf, hm⟩ := x e he; exact ⟨hk, L, m, hf, h _ hm⟩
theorem Frs.cons {L : Addr} {m : Str → Option Value} (x : Frs outer led) (hk : env.scope.kind ≠ .module) (hf : env.frame = some L) (hm : (L, nsP m) ∈ led) : Frs (env :: outer) led := fun e he => by
  rcases List.mem_cons.mp he with rfl | he
  · exact ⟨hk, L, m, hf, hm⟩
  · exact x e he
theorem Frs.at {L : Addr} (x : Frs outer led) (h : L ∈ outer.filterMap (·.frame)) : ∃ m, (L, nsP m) ∈ led := by
  obtain ⟨e, he, hf⟩ := List.mem_filterMap.mp h
  obtain ⟨_, L', m, hf', hm⟩ := x e he
  rw [hf] at hf'
  obtain rfl := Option.some.inj hf'
  exact ⟨m, hm⟩
theorem Led.inj {a : Addr} {P P' : OP} (D : Led h₀ h led) (h1 : (a, P) ∈ led) (h2 : (a, P') ∈ led) : P = P' := by
  have nd := D.nd
  clear D
  induction led with
  | nil => cases h1
  | cons p r ih =>
    rw [List.map_cons, List.nodup_cons] at nd
    rcases List.mem_cons.mp h1 with rfl | h1' <;> rcases List.mem_cons.mp h2 with h2e | h2'
    · exact (Prod.mk.inj h2e).2.symm
    · exact absurd (List.mem_map.mpr ⟨_, h2', rfl⟩) nd.1
    · subst h2e; exact absurd (List.mem_map.mpr ⟨_, h1', rfl⟩) nd.1
    · exact ih h1' h2' nd.2
theorem Led.fun (D : Led h₀ h led) (x : Frs outer led) : h.FunFrames h₀ outer := by
  induction outer with
  | nil => trivial
  | cons e r ih =>
    obtain ⟨hk, L, m, hf, hm⟩ := x e (.head _)
    obtain ⟨o, ho, es, ep, hd, _⟩ := D.get hm
    exact ⟨hk, ⟨L, o, hf, D.new hm, ho, fun vs => by rw [hd]; simp⟩, ih fun e he => x e (.tail _ he)⟩
theorem Led.slots (D : Led h₀ h led) (x : Frs outer led) (hs : Heap.SlotsOnly (outer.filterMap (·.frame)) h h') : Led h₀ h' led := by
  refine ⟨fun b o e => ?_, D.nd, fun p hp => ?_, D.base, D.high⟩
  · rw [hs.2.1 b fun hm => ?_]
    · exact D.keep b o e
    · obtain ⟨m, hm⟩ := x.at hm
      rw [D.new hm] at e; cases e
  · obtain ⟨h1, o, h2, h3⟩ := D.has p hp
    by_cases hm : p.1 ∈ outer.filterMap (·.frame)
    · obtain ⟨m, hm⟩ := x.at hm
      have e : p.2 = nsP m := D.inj (a := p.1) hp hm
      obtain ⟨sl, h4⟩ := hs.2.2 _ _ h2
      refine ⟨h1, _, h4, ?_⟩
      rw [e] at h3 ⊢
      exact h3
    · exact ⟨h1, o, (hs.2.1 _ hm).trans h2, h3⟩

/-- an exception with its traceback's head; a traceback's entry -/
noncomputable def exP (tb : Value) : OP := fun o => o.cls = .type "StopIteration" ∧ ∃ vs, o.data = .fields vs ∧ vs[1]? = some tb
noncomputable def tbP (f : Value) : OP := fun o => ∃ vs, o.data = .fields vs ∧ vs[3]? = some f

theorem note_new {L e : Addr} {Q : Unit → Shared → Prop} (D : Led h₀ h ((e, exP .none) :: led)) (hfr : A.frames = some (env :: outer)) (hF : Frs (env :: outer) led) (hf : env.frame = some L)
    (q : ∀ tb h', Led h₀ h' ((e, exP (.ref tb)) :: (tb, tbP (rawInt L)) :: led) → Q () ⟨h', g, d, t, os⟩) : wpAny (model PR w) A (noteFrame (.ref e) env) Q E ⟨h, g, d, t, os⟩ := by
  obtain ⟨oe, he, hc, vs, hd, h1⟩ := D.hd
  have hsz : 1 < vs.size := (Array.getElem?_eq_some_iff.mp h1).1
  unfold noteFrame
  simp only [hf]
  refine wpAny_bind (wpAny_field he hd h1 ?_)
  rw [if_neg (by decide)]
  have hF' : Frs (env :: outer) ((e, exP .none) :: led) := hF.mono fun p hp => .tail _ hp
  refine wpAny_bind (wpAny_frameOf_fun (s := ⟨h, g, d, t, os⟩) hfr (D.fun hF') hf fun h₁ hs₁ => ?_)
  refine wpAny_bind (wpAny_entryPlaceOf fun pl hpl => ?_)
  unfold EntryCells.newEntry newFields
  refine wpAny_bind (wpAny_newObj_type ?_ (hpl.sizeOk5 _ _ _ _ _))
  have D1 := D.slots hF' hs₁
  have D2 := D1.push (P := tbP (rawInt L)) { cls := .type "traceback", dict := none, data := .fields ([Value.none, .ref L, .none, rawInt L, .none] ++ (if pl.isEmpty then List.replicate 6 Value.none else pl)).toArray } ⟨_, rfl, by
    first | (simp; done) | (rcases hpl with rfl | ⟨_, _, _, _, _, _, _, rfl⟩ <;> simp)⟩
  have D3 := D2.swap
  obtain ⟨oe', he', hc', vs', hd', h1'⟩ := D3.hd
  have hsz' : 1 < vs'.size := (Array.getElem?_eq_some_iff.mp h1').1
  refine wpAny_setField he' hd' hsz' (q h₁.objs.size _ (D3.upd (Heap.SameBut.update ..) ?_))
  have hd₃ := Obj.data_mapFields hd' (·.setIfInBounds 1 (Value.ref h₁.objs.size))
  exact ⟨_, Heap.get?_update_self _ he' (Obj.isFreed_of_fields hd₃), (Obj.cls_mapFields ..).trans hc', _, hd₃, by simp [hsz']⟩

theorem flight_none {e tb : Addr} {f : Value} {Q : Unit → Shared → Prop} (D : Led h₀ h ((e, exP (.ref tb)) :: (tb, tbP f) :: led))
    (q : ∀ h', Led h₀ h' ((e, exP (.ref tb)) :: (tb, tbP .none) :: led) → Q () ⟨h', g, d, t, os⟩) : wpAny (model PR w) A (setFlight (.ref e) none) Q E ⟨h, g, d, t, os⟩ := by
  obtain ⟨oe, he, hc, vs, hd, h1⟩ := D.hd
  obtain ⟨ot, ht, ts, hdt, h3⟩ := D.tail.hd
  have hsz : 3 < ts.size := (Array.getElem?_eq_some_iff.mp h3).1
  refine wpAny_setFlight_none he hd h1 ht hdt hsz (q _ ((D.swap.upd (Heap.SameBut.update ..) ?_).swap))
  have hd₃ := Obj.data_mapFields hdt (·.setIfInBounds 3 Value.none)
  exact ⟨_, Heap.get?_update_self _ ht (Obj.isFreed_of_fields hd₃), _, hd₃, by simp [hsz]⟩

/-- try: body; except StopIteration: suite -/
theorem r_try {body : List Stmt} {b₀ : Stmt} {suite : List Stmt} {p1 p2 pos : Pos} {L : Addr} {Q : Flow → Shared → Prop} (O : Ok w h₀) (hfr : A.frames = some (env :: outer)) (hf : env.frame = some L)
    (hE : wpAny (model PR w) A (execs body env) (fun f s₁ => Q f s₁)
      (fun e s₁ => ∃ ea h1 t1 led1, e = .ref ea ∧ s₁ = ⟨h1, g, d, t1, os⟩ ∧ Led h₀ h1 ((ea, exP .none) :: led1) ∧ Frs (env :: outer) led1 ∧
        ∀ h2 t2 E2, Led h₀ h2 led1 → wpAny (model PR w) (A.mark (some (.ref ea))) (execs (b₀ :: suite) env) Q E2 ⟨h2, g, d, t2, os⟩) ⟨h, g, d, t, os⟩)
    (hl : env.kindOf "StopIteration" = some .globalImplicit := by rfl) (hk : env.scope.kind = .function := by rfl) (hg : env.globals = mainGlobals := by rfl) (hbn : env.builtins = builtinsNs := by rfl) :
    wpAny (model PR w) A (exec (.Try body [.ExceptHandler (some (.Name "StopIteration" p1)) none (b₀ :: suite) p2] [] [] pos) env) Q E ⟨h, g, d, t, os⟩ := by
  refine wpAny_Try_except (wpAny_mono hE (fun f s₁ q => ?_) fun e s₁ q => ?_)
  · cases f <;> first | exact wpAny_execs_nil q | exact q
  · obtain ⟨ea, h1, t1, led1, rfl, rfl, D, F, q⟩ := q
    refine note_new D hfr F hf fun tb h2 D2 => flight_none D2 fun h3 D3 => ?_
    refine wpAny_handleBy_builtin (T := "StopIteration") (X := "StopIteration") (b := true) (by rw [isSubtype_type]; kernel_rfl) (by rw [isSubtype_type]; kernel_rfl) (by rw [isSubtype_type]; kernel_rfl) ?_
    refine r_builtin (v := .type "StopIteration") O D3 (by kernel_rfl) (by kernel_rfl) ?_ (by decide) hk hl hg hbn
    obtain ⟨oe, he, hc, _⟩ := D3.hd
    refine ⟨rfl, ⟨oe, he, hc⟩, ?_⟩
    refine flight_none D3 fun h4 D4 => ?_
    exact q h4 t1 _ D4.tail.tail
end
end Mine
end

section
open PySem PySem.W PyProof.Rows PySem.Calls
namespace Mine
section
variable {w : World} {h₀ : Heap} {A : Around} {E : Value → Shared → Prop} {h h' : Heap} {g : Array GenState} {d : Drawn} {t : Nat} {os : OsState} {led rest : List (Addr × OP)} {env : Env} {outer : List Env}

/-- a list_iterator's bound __next__ -/
noncomputable def mwP (it : Addr) : OP := fun o => o.cls = .type "method-wrapper" ∧ o.data = .fields #[.builtin "list_iterator.__next__", .ref it]
noncomputable def anyP : OP := fun _ => True
/-- a list's iterator, with all that is known of it -/
noncomputable def ljP (T : Addr) (i : Nat) : OP := fun o => o.cls = .type "list_iterator" ∧ o.dict = none ∧ o.data = .fields #[.ref T, .int i 0]

theorem q_iterSj {T : Addr} {xs : List Str} {f : Addr × OP} {Q : Value → Shared → Prop} (D : Led h₀ h (f :: led)) (hm : (T, stP xs) ∈ f :: led)
    (q : ∀ it h', Led h₀ h' (f :: (it, ljP T 0) :: led) → Q (.ref it) ⟨h', g, d, t, os⟩) : wpAny (model PR w) A (call (.builtin "iter") [.ref T]) Q E ⟨h, g, d, t, os⟩ := by
  obtain ⟨o', ho', vs, ⟨n, rfl⟩, _⟩ := D.get hm
  refine call_function_entry (by decide +kernel) (by decide +kernel) kdk_entry_iter (kdk_args_iter _) ?_
  unfold Builtin.«iter»
  refine wpAny_bind (m := someArgs "iter" 1 2 _) (wpAny_of_eq (a := [Value.ref T]) (by first | rfl | kernel_rfl!) ?_)
  show wpAny _ _ (pyIter (.ref T) >>= _) _ _ _
  refine wpAny_bind (wpAny_pyIter_list (items := vs.toArray) ⟨_, ho', rfl, n, rfl⟩ ?_)
  exact wpAny_pure ⟨_, rfl, q _ _ (D.new1 _ ⟨rfl, rfl, rfl⟩)⟩
theorem q_bound {T it : Addr} {i : Nat} {f p : Addr × OP} {Q : Value → Shared → Prop} (D : Led h₀ h (f :: p :: led)) (hp : p = (it, ljP T i))
    (q : ∀ mw h', Led h₀ h' (f :: (mw, mwP it) :: p :: led) → Q (.ref mw) ⟨h', g, d, t + 1, os⟩) : wpAny (model PR w) A (getAttr (.ref it) "__next__" true) Q E ⟨h, g, d, t, os⟩ := by
  subst hp
  obtain ⟨o, ho, h1, h2, h3⟩ := D.at 1 rfl
  exact q_nextAttr ho h1 h2 h3 (q _ _ (D.new1 _ ⟨rfl, rfl⟩))

theorem q_callWithMw {pos : Pos} {x it : Addr} {Q : Value → Shared → Prop} (D : Led h₀ h led) (i : Nat) (hi : led[i]? = some (x, mwP it))
    (q : wpAny (model PR w) A (call (.ref x) []) Q E ⟨h, g, d, t, os⟩) : wpAny (model PR w) A (callWith pos (.ref x) [] (backTo pos (starEach [] env)) []) Q E ⟨h, g, d, t, os⟩ := by
  obtain ⟨o, ho, hc, hd⟩ := D.at i hi
  unfold callWith
  refine wpAny_bind (wpAny_holding (evalArgs_nil3 ?_))
  refine wpAny_bind (wpAny_standAt ?_)
  refine wpAny_bind (m := keeperOf (.ref x)) ?_
  unfold keeperOf
  refine wpAny_bind (wpAny_load ho ?_)
  rw [hd]
  dsimp only
  rw [hc]
  simp only [show (Value.type "method-wrapper" != Value.type "method") = true by decide, show (Value.type "method-wrapper" == Value.type "builtin_function_or_method" || Value.type "method-wrapper" == Value.type "method-wrapper") = true by decide, if_true]
  refine wpAny_pure ?_
  exact wpAny_bind (wpAny_mono q (fun r s₂ hr => wpAny_bind (wpAny_holding (wpAny_point (wpAny_pure hr)))) fun _ _ x => x)
theorem check_mw (it : Addr) : checkBoundCall "list_iterator.__next__" ⟨[.ref it], []⟩ = pure () := by first | kernel_rfl | rfl
theorem q_callMw {x it : Addr} {Q : Value → Shared → Prop} (D : Led h₀ h led) (i : Nat) (hi : led[i]? = some (x, mwP it))
    (q : wpAny (model PR w) A.in1 (Builtin.«list_iterator.__next__» ⟨[.ref it], []⟩) (fun fin s' => ∃ r, fin = .done (.ret r) ∧ Q r s') E ⟨h, g, d, t, os⟩) : wpAny (model PR w) A (call (.ref x) []) Q E ⟨h, g, d, t, os⟩ := by
  obtain ⟨o, ho, hc, hd⟩ := D.at i hi
  refine wpAny_call (codeAny_of_tree ?_)
  show wpAny _ A.in1 (callAny (.ref x) ⟨[], []⟩) _ _ _
  simp only [callAny]
  refine wpAny_bind (wpAny_load ho ?_)
  rw [hd]
  dsimp only
  rw [hc]
  simp only [show (Value.type "method-wrapper" == Value.type "method" || Value.type "method-wrapper" == Value.type "builtin_function_or_method" || Value.type "method-wrapper" == Value.type "method-wrapper") = true by decide, if_true]
  refine KFB.if_so (by decide) ?_
  refine wpAny_bind (wpAny_of_eq (a := ()) (check_mw it) ?_)
  refine wpAny_bind (wpAny_pure (wpAny_pure ?_))
  refine ⟨Code.quiet_builtin _ (by decide +kernel), codeAny_builtin entry_listiter_next ?_⟩
  rw [Around.under_plainId (by decide +kernel) _]
  refine wpAny_mono q (fun fin s' z => ?_) fun _ _ z => z
  obtain ⟨r, rfl, z⟩ := z
  exact z

theorem q_nextItem {x it T : Addr} {xs : List Str} {i : Nat} {Q : Value → Shared → Prop} (D : Led h₀ h led) (k j : Nat) (hk : led[k]? = some (x, mwP it)) (hj : led[j]? = some (it, ljP T i)) (hm : (T, stP xs) ∈ led) (hx : i < xs.length)
    (q : ∀ u h', Led h₀ h' (led.set j (it, ljP T (i + 1))) → Q (.str xs[i] u) ⟨h', g, d, t, os⟩) : wpAny (model PR w) A (call (.ref x) []) Q E ⟨h, g, d, t, os⟩ := by
  refine q_callMw D k hk ?_
  obtain ⟨o, ho, hc, hdc, hd⟩ := D.at j hj
  obtain ⟨ol, hol, vs, ⟨n, rfl⟩, tx⟩ := D.get hm
  obtain ⟨u, hu⟩ := tx.at (i := i) (x := xs[i]) (by simp [hx])
  show wpAny _ _ (field (.ref it) 0 >>= _) _ _ _
  refine wpAny_bind (wpAny_field ho hd (x := .ref T) rfl ?_)
  show wpAny _ _ (if (Value.ref T == Value.none) = true then _ else _) _ _ _
  rw [if_neg (show ¬ ((Value.ref T == Value.none) = true) from Bool.false_ne_true)]
  show wpAny _ _ (field (.ref it) 1 >>= _) _ _ _
  refine wpAny_bind (wpAny_field ho hd (x := .int i 0) rfl ?_)
  show wpAny _ _ (seqItems? (.ref T) >>= _) _ _ _
  refine wpAny_bind (wpAny_seqItems hol rfl ?_)
  simp only [Int.toNat_natCast]
  rw [show vs.toArray[i]? = some (.str xs[i] u) by simpa using hu]
  refine wpAny_bind (wpAny_setField ho hd (by simp) (wpAny_pure ⟨_, rfl, q u _ (D.updI j hj (Heap.SameBut.update ..) ?_)⟩))
  have hd₃ := Obj.data_mapFields hd (·.setIfInBounds 1 (rawInt ((i : Int) + 1)))
  refine ⟨_, Heap.get?_update_self _ ho (Obj.isFreed_of_fields hd₃), (Obj.cls_mapFields ..).trans hc, ?_, ?_⟩
  · obtain ⟨c1, c2, c3, c4⟩ := o; cases c3 <;> exact hdc
  · rw [hd₃]; simp [rawInt]

theorem q_nextStop {x it T : Addr} {xs : List Str} {i : Nat} {Q : Value → Shared → Prop} (D : Led h₀ h led) (k j : Nat) (hA : A.handled = none) (hk : led[k]? = some (x, mwP it)) (hj : led[j]? = some (it, ljP T i)) (hm : (T, stP xs) ∈ led) (hx : i = xs.length)
    (q : ∀ e h', Led h₀ h' ((e, exP .none) :: led.set j (it, anyP)) → E (.ref e) ⟨h', g, d, t, os⟩) : wpAny (model PR w) A (call (.ref x) []) Q E ⟨h, g, d, t, os⟩ := by
  refine q_callMw D k hk ?_
  obtain ⟨o, ho, hc, hdc, hd⟩ := D.at j hj
  obtain ⟨ol, hol, vs, ⟨n, rfl⟩, tx⟩ := D.get hm
  show wpAny _ _ (field (.ref it) 0 >>= _) _ _ _
  refine wpAny_bind (wpAny_field ho hd (x := .ref T) rfl ?_)
  show wpAny _ _ (if (Value.ref T == Value.none) = true then _ else _) _ _ _
  rw [if_neg (show ¬ ((Value.ref T == Value.none) = true) from Bool.false_ne_true)]
  show wpAny _ _ (field (.ref it) 1 >>= _) _ _ _
  refine wpAny_bind (wpAny_field ho hd (x := .int i 0) rfl ?_)
  show wpAny _ _ (seqItems? (.ref T) >>= _) _ _ _
  refine wpAny_bind (wpAny_seqItems hol rfl ?_)
  simp only [Int.toNat_natCast]
  rw [show vs.toArray[i]? = none by have := tx.len; simp; omega]
  refine wpAny_bind (wpAny_rule (wpAny_bind (wpAny_setField ho hd (by simp) ?_)))
  have hd₃ := Obj.data_mapFields hd (·.setIfInBounds 0 Value.none)
  have D1 := D.updI (P' := anyP) j hj (Heap.SameBut.update (a := it) (h := h) (f := Obj.mapFields (·.setIfInBounds 0 Value.none))) ⟨_, Heap.get?_update_self _ ho (Obj.isFreed_of_fields hd₃), trivial⟩
  show wpAny _ _ (newExc (.type "StopIteration") [] >>= _) _ _ _
  refine wpAny_bind ?_
  simp only [newExc, newTuple]
  refine wpAny_bind (wpAny_newObj_type ?_ (by size_fits))
  refine wpAny_bind (m := firstArgMember _ _) (wpAny_of_eq (a := Value.none) (by first | rfl | (simp only [firstArgMember]; rfl)) ?_)
  refine wpAny_newObj_type ?_ (by size_fits)
  simp only [raiseNew]
  refine wpAny_bind (wpAny_handled ?_)
  rw [show A.in1.handled = none from hA]
  refine wpAny_bind (wpAny_pure (wpAny_throw (q _ _ ((D1.push' _).push _ ⟨rfl, _, rfl, ?_⟩))))
  rfl

/-- the keys of a dict, one by one -/
noncomputable def dcE (w : World) (kvs : List (Str × Value)) (ep : Nat) : OP := fun o => ∃ es, o.ExactDict ∧ o.data = .dict es ep ∧ KeysOf (PySem.strKind PR w) es ∧ Pairs (PySem.strKind PR w) es.toList kvs ∧ (kvs.map (·.1)).Nodup
noncomputable def kiP (dd : Addr) (n ep i : Nat) : OP := fun o => o.cls = .type "dict_keyiterator" ∧ o.data = .fields #[.ref dd, .int i 0, .int n 0, .int ep 0]
theorem ny_keys (it dd : Addr) (kvs : List (Str × Value)) (ep : Nat) : Ny w it (kiP dd kvs.length ep) (dd, dcE w kvs ep) kvs.length (fun i v => ∃ x y u, kvs[i]? = some (x, y) ∧ v = .str x u) where
  item i k hi D hk q := by
    obtain ⟨o, ho, hc, hd⟩ := D.hd
    obtain ⟨o', ho', es, r⟩ := D.tail.at k hk
    refine wpAny_pyNext_dict_item (knd := PySem.strKind PR w) (kvs := kvs) (k := kvs[i].1) (v := kvs[i].2) ⟨o, ho, hc, hd⟩ ⟨_, es, ho', r⟩ (by simp [hi]) fun key h' hkey hi' hs => ?_
    obtain ⟨u, rfl⟩ := Value.isStrOf_shape hkey
    obtain ⟨o2, h2, hc2, hd2⟩ := hi'
    exact q _ h' _ ⟨kvs[i].1, kvs[i].2, u, by simp [hi], rfl⟩ (D.upd hs ⟨o2, h2, hc2, hd2⟩)
  stop k hh D hk q := by
    obtain ⟨o, ho, hc, hd⟩ := D.hd
    obtain ⟨o', ho', es, r⟩ := D.tail.at k hk
    exact wpAny_pyNext_dict_end (knd := PySem.strKind PR w) (kvs := kvs) hh ⟨o, ho, hc, hd⟩ ⟨_, es, ho', r⟩ (by simp) fun h' hs => q h' (D.extBut hs)
theorem q_iterKeys {dd : Addr} {kvs : List (Str × Value)} {ep : Nat} {f : Addr × OP} {Q : Value → Shared → Prop} (D : Led h₀ h (f :: led)) (k : Nat) (hk : (f :: led)[k]? = some (dd, dcE w kvs ep))
    (q : ∀ it h', Led h₀ h' (f :: (it, kiP dd kvs.length ep 0) :: led) → Q (.ref it) ⟨h', g, d, t, os⟩) : wpAny (model PR w) A (pyIter (.ref dd)) Q E ⟨h, g, d, t, os⟩ := by
  obtain ⟨o', ho', es, r⟩ := D.at k hk
  exact wpAny_pyIter_dict (knd := PySem.strKind PR w) (kvs := kvs) (D.noMod (List.mem_of_getElem? hk)) ⟨_, es, ho', r⟩ (q _ _ (D.new1 _ ⟨rfl, rfl⟩))
theorem Led.epoch {dd : Addr} {kvs : List (Str × Value)} (D : Led h₀ h led) (i : Nat) (hi : led[i]? = some (dd, dcP w kvs)) : ∃ ep, Led h₀ h (led.set i (dd, dcE w kvs ep)) := by
  obtain ⟨o, ho, es, ep, r⟩ := D.at i hi
  refine ⟨ep, D.reI i hi fun o2 ho2 _ => ?_⟩
  rw [ho] at ho2
  obtain rfl := Option.some.inj ho2
  exact ⟨es, r⟩
theorem Led.unepoch {dd : Addr} {kvs : List (Str × Value)} {ep : Nat} (D : Led h₀ h led) (i : Nat) (hi : led[i]? = some (dd, dcE w kvs ep)) : Led h₀ h (led.set i (dd, dcP w kvs)) :=
  D.reI i hi fun _ _ ⟨es, r⟩ => ⟨es, ep, r⟩
end
end Mine
end

section
open PySem PySem.W PyProof.Rows PySem.Calls
namespace Mine
structure Zt where
  mw : Addr
  it : Addr
  nd : Nd
  pos : Nat
noncomputable def stLed (z : Zt) : List (Addr × OP) := [(z.mw, mwP z.it), (z.it, ljP z.nd.l z.pos)]
noncomputable def fcL (w : World) (nk se ik sk : Addr) (kvs : List (Str × Value)) (Sf : Str → Bool) (n : Nat) (stk : List Zt) : List (Addr × OP) :=
  (nk, dcP w kvs) :: (se, seP w Sf n) :: (ik, lsP (stk.reverse.map fun z => .ref z.mw)) :: (sk, stP (stk.reverse.map fun z => z.nd.name)) :: stk.flatMap stLed
noncomputable def soLedE (w : World) (S : So) (ep : Nat) : List (Addr × OP) := (S.a, instP 144 S.d) :: (S.d, attP S.kv) :: (S.n2i, dcE w S.kvs ep) :: (rdLed S.rd ++ S.nds.flatMap ndLed)
noncomputable def rem1 (z : Zt) : Nat := z.nd.suc.length - z.pos + 1
noncomputable def mu (B : Nat) (names : List Str) (Sf : Str → Bool) (stk : List Zt) : Nat := (names.filter fun x => !Sf x).length * (B + 3) + (stk.map rem1).sum

/-- what holds of the walk's stack -/
structure Wk (lt : Str → Str → Prop) (S : So) (kvs : List (Str × Value)) (Sf : Str → Bool) (n : Nat) (stk : List Zt) : Prop where
  ch : stk.Pairwise fun a b => lt b.nd.name a.nd.name
  mem : ∀ z ∈ stk, z.nd ∈ S.nds
  pos : ∀ z ∈ stk, z.pos ≤ z.nd.suc.length
  key : kvs.map (·.1) = stk.reverse.map fun z => z.nd.name
  cnt : n = ((S.nds.map (·.name)).filter Sf).length

section
variable {w : World} {h₀ : Heap} {A : Around} {E : Value → Shared → Prop} {h h' : Heap} {g : Array GenState} {d : Drawn} {t : Nat} {os : OsState} {led rest : List (Addr × OP)} {env : Env} {outer : List Env}

theorem Led.mid1 {f : Addr × OP} (F : List (Addr × OP)) {l r : List (Addr × OP)} (D : Led h₀ h (f :: (F ++ (l ++ r)))) : Led h₀ h (f :: (l ++ (F ++ r))) := D.perm (List.Perm.cons _ (by
  rw [← List.append_assoc, ← List.append_assoc]; exact List.perm_append_comm.append_right r))
theorem TX.last {vs : List Value} {xs : List Str} {x : Str} (h : TX vs (xs ++ [x])) : ∃ us u, vs = us ++ [.str x u] ∧ TX us xs := by
  have hl := h.len
  rw [List.length_append, List.length_singleton] at hl
  obtain ⟨u, hu⟩ := h.at (i := xs.length) (x := x) (by simp)
  refine ⟨vs.take xs.length, u, ?_, ?_⟩
  · have : vs = vs.take xs.length ++ vs.drop xs.length := (List.take_append_drop ..).symm
    have h2 : vs.drop xs.length = [.str x u] := by
      rw [List.drop_eq_getElem_cons (by omega), List.drop_eq_nil_of_le (by omega)]
      rw [List.getElem?_eq_some_iff] at hu
      rw [hu.2]
    rw [h2] at this; exact this
  · unfold TX at h ⊢
    have := congrArg (List.take xs.length) h
    rw [← List.map_take, ← List.map_take, List.take_left'] at this
    · exact this
    · rfl
theorem q_popT {l : Addr} {xs : List Str} {x : Str} {Q : Value → Shared → Prop} (D : Led h₀ h led) (i : Nat) (hi : led[i]? = some (l, stP (xs ++ [x]))) (hz : xs.length ≤ 1000)
    (q : ∀ u h', Led h₀ h' (led.set i (l, stP xs)) → Q (.str x u) ⟨h', g, d, t, os⟩) : wpAny (model PR w) A (call (.builtin "list.pop") [.ref l]) Q E ⟨h, g, d, t, os⟩ := by
  obtain ⟨o, ho, vs, hvs, tx⟩ := D.at i hi
  obtain ⟨us, u, rfl, tx'⟩ := tx.last
  have D1 : Led h₀ h (led.set i (l, lsP (us ++ [.str x u]))) := D.reI i hi fun o2 ho2 _ => by
    rw [ho] at ho2; obtain rfl := Option.some.inj ho2; exact hvs
  have hlt : i < led.length := (List.getElem?_eq_some_iff.mp hi).1
  refine q_pop D1 i (List.getElem?_set_self hlt) (by rw [tx'.len]; exact hz) fun h2 D2 => q u h2 ?_
  have D3 := D2.reI (P' := stP xs) i (a := l) (P := lsP us) (by rw [List.set_set]; exact List.getElem?_set_self hlt) fun o2 _ h2 => ⟨us, h2, tx'⟩
  rwa [List.set_set, List.set_set] at D3
theorem q_truthyT {l : Addr} {xs : List Str} {Q : Bool → Shared → Prop} (D : Led h₀ h led) (i : Nat) (hi : led[i]? = some (l, stP xs)) (hz : xs.length ≤ 1000) (q : Q (!xs.isEmpty) ⟨h, g, d, t + 1 + 1, os⟩) :
    wpAny (model PR w) A (truthy (.ref l)) Q E ⟨h, g, d, t, os⟩ := by
  obtain ⟨o, ho, vs, ⟨n, rfl⟩, tx⟩ := D.at i hi
  have e := tx.len
  refine wpAny_truthy_list (items := vs.toArray) ⟨_, ho, rfl, n, rfl⟩ (by rw [List.size_toArray]; omega) ?_
  have e2 : vs.toArray.isEmpty = xs.isEmpty := by cases vs <;> cases xs <;> simp_all
  rw [e2]
  exact q
theorem q_lenT {l : Addr} {xs : List Str} {Q : Value → Shared → Prop} (D : Led h₀ h led) (i : Nat) (hi : led[i]? = some (l, stP xs)) (hz : xs.length ≤ 1000) (q : Q (.int xs.length (t + 1)) ⟨h, g, d, t + 1 + 1, os⟩) :
    wpAny (model PR w) A (call (.builtin "len") [.ref l]) Q E ⟨h, g, d, t, os⟩ := by
  obtain ⟨o, ho, vs, ⟨n, rfl⟩, tx⟩ := D.at i hi
  have e := tx.len
  refine PyProof.Rows.len_list (items := vs.toArray) ⟨_, ho, rfl, n, rfl⟩ (by rw [List.size_toArray]; omega) ?_
  rw [List.size_toArray, e]
  exact q
theorem q_lastItem {value slice : Expr} {l : Addr} {vs : List Value} {v : Value} {u : Tok} {Q : Value → Shared → Prop} (D : Led h₀ h led) (i : Nat) (hi : led[i]? = some (l, lsP (vs ++ [v]))) (q : Q v ⟨h, g, d, t, os⟩)
    (hs : subscripted slice false (.ref l) (.int (-1) u) = operate [.ref l, .int (-1) u] (getItem (.ref l) (.int (-1) u)) := by with_unfolding_all rfl) (hg : ∀ r, letTemporaryGo value (.ref l) r = pure () := by intro _; with_unfolding_all rfl) :
    wpAny (model PR w) A (subscriptTail value slice (.ref l) (.int (-1) u)) Q E ⟨h, g, d, t, os⟩ := by
  obtain ⟨o, ho, n, rfl⟩ := D.at i hi
  exact subscriptTail_builtin ⟨_, ho, rfl⟩ PySem.F.slot_list_getitem.lookup (wpAny_getItem_list_neg (items := (vs ++ [v]).toArray) ⟨_, ho, rfl, n, rfl⟩ (by decide) (by simp only [List.size_toArray, List.length_append, List.length_singleton]; omega) (by decide) (by
    rw [show ((-1 : Int) + ((vs ++ [v]).toArray.size : Nat)).toNat = vs.length by simp only [List.size_toArray, List.length_append, List.length_singleton]; omega]
    simp) q) hs hg
theorem lsP_app {l : Addr} {vs : List Value} {v : Value} {Q : Value → Shared → Prop} (D : Led h₀ h led) (i : Nat) (hi : led[i]? = some (l, lsP vs)) (hz : vs.length ≤ 1000)
    (q : ∀ h', Led h₀ h' (led.set i (l, lsP (vs ++ [v]))) → Q .none ⟨h', g, d, t, os⟩) : wpAny (model PR w) A (call (.builtin "list.append") [.ref l, v]) Q E ⟨h, g, d, t, os⟩ := r_append D i hi (by omega) q

theorem fcL_cons (nk se ik sk : Addr) (kvs : List (Str × Value)) (Sf : Str → Bool) (n : Nat) (z : Zt) (stk : List Zt) : fcL w nk se ik sk kvs Sf n (z :: stk) =
    (nk, dcP w kvs) :: (se, seP w Sf n) :: (ik, lsP ((stk.reverse.map fun z => .ref z.mw) ++ [.ref z.mw])) :: (sk, stP ((stk.reverse.map fun z => z.nd.name) ++ [z.nd.name])) :: (z.mw, mwP z.it) :: (z.it, ljP z.nd.l z.pos) :: stk.flatMap stLed := by
  simp [fcL, stLed]
noncomputable def Fm (S : So) (sk ik se nk : Addr) (m : Str → Option Value) : Prop := m "n2i" = some (.ref S.n2i) ∧ m "stack" = some (.ref sk) ∧ m "itstack" = some (.ref ik) ∧ m "seen" = some (.ref se) ∧ m "node2stacki" = some (.ref nk)
theorem nodup_len : ∀ {l l' : List Str}, l.Nodup → (∀ x ∈ l, x ∈ l') → l.length ≤ l'.length
  | [], _, _, _ => Nat.zero_le _
  | a :: r, l', hn, hs => by
    rw [List.nodup_cons] at hn
    have h1 : a ∈ l' := hs a (.head _)
    have h2 := nodup_len (l := r) (l' := l'.erase a) hn.2 fun x hx => by
      have hne : x ≠ a := fun e => hn.1 (e ▸ hx)
      exact (List.mem_erase_of_ne hne).mpr (hs x (.tail _ hx))
    rw [List.length_erase_of_mem h1] at h2
    have : 0 < l'.length := List.length_pos_of_mem h1
    rw [List.length_cons]; omega
theorem filter_or {l : List Str} {f : Str → Bool} {x : Str} (hn : l.Nodup) (hx : x ∈ l) (hf : f x = false) : (l.filter fun k => f k || decide (k = x)).length = (l.filter f).length + 1 := by
  induction l with
  | nil => cases hx
  | cons a r ih =>
    rw [List.nodup_cons] at hn
    rcases List.mem_cons.mp hx with rfl | hx
    · have : r.filter (fun k => f k || decide (k = x)) = r.filter f := by
        refine List.filter_congr fun k hk => ?_
        have : k ≠ x := fun e => hn.1 (e ▸ hk)
        simp [this]
      simp [hf, this]
    · have hne : a ≠ x := fun e => hn.1 (e ▸ hx)
      have ih := ih hn.2 hx
      simp only [List.filter_cons, hne, decide_false, Bool.or_false]
      split
      · simp only [List.length_cons]; omega
      · exact ih
theorem filter_nor {l : List Str} {f : Str → Bool} {x : Str} (hn : l.Nodup) (hx : x ∈ l) (hf : f x = false) : (l.filter fun k => !(f k || decide (k = x))).length + 1 = (l.filter fun k => !f k).length := by
  induction l with
  | nil => cases hx
  | cons a r ih =>
    rw [List.nodup_cons] at hn
    rcases List.mem_cons.mp hx with rfl | hx
    · have : r.filter (fun k => !(f k || decide (k = x))) = r.filter (fun k => !f k) := by
        refine List.filter_congr fun k hk => ?_
        have : k ≠ x := fun e => hn.1 (e ▸ hk)
        simp [this]
      rw [List.filter_cons, List.filter_cons]
      simp only [hf, decide_true, Bool.or_true, Bool.not_true, Bool.false_eq_true, if_false, Bool.not_false, if_true, List.length_cons, this]
    · have hne : a ≠ x := fun e => hn.1 (e ▸ hx)
      have ih := ih hn.2 hx
      simp only [List.filter_cons, hne, decide_false, Bool.or_false]
      split
      · simp only [List.length_cons]; omega
      · exact ih
theorem mu_push {a b B r s : Nat} (h : a + 1 = b) (h2 : r ≤ B + 1) : a * (B + 3) + (r + s) ≤ b * (B + 3) + s := by
  subst h; rw [Nat.add_mul]; omega
theorem wk_len {lt : Str → Str → Prop} {S : So} {kvs : List (Str × Value)} {Sf : Str → Bool} {n : Nat} {stk : List Zt} (W : Wk lt S kvs Sf n stk) (hNN : (S.nds.map (·.name)).Nodup) (hz : S.nds.length ≤ 900) (ir : ∀ a, ¬ lt a a) (tr : ∀ a b c, lt a b → lt b c → lt a c) : stk.length ≤ 900 := by
  have h1 : (stk.map fun z => z.nd.name).Nodup := by
    exact List.pairwise_map.mpr (W.ch.imp fun {a b} (h : lt b.nd.name a.nd.name) (e : a.nd.name = b.nd.name) => ir b.nd.name (by rw [e] at h; exact h))
  have h2 : (stk.map fun z => z.nd.name).length ≤ (S.nds.map (·.name)).length := by
    refine nodup_len h1 ?_
    intro x hx
    obtain ⟨z, hz, e⟩ := List.mem_map.mp hx
    exact List.mem_map.mpr ⟨z.nd, W.mem z hz, e⟩
  rw [List.length_map, List.length_map] at h2
  omega
theorem suc_memE {S : So} {nd : Nd} {ep : Nat} (h : nd ∈ S.nds) : (nd.l, stP nd.suc) ∈ soLedE w S ep := by
  unfold soLedE
  refine .tail _ (.tail _ (.tail _ (List.mem_append_right _ (List.mem_flatMap.mpr ⟨nd, h, ?_⟩))))
  exact .tail _ (.tail _ (.head _))
theorem Led.readS (X : List (Addr × OP)) {S : So} {ep : Nat} {Y : List (Addr × OP)} (D : Led h₀ h (X ++ (soLedE w S ep ++ Y))) : Led h₀ h (soLed w S ++ (X ++ Y)) :=
  (D.mid X).unepoch (w := w) (kvs := S.kvs) (dd := S.n2i) (ep := ep) 2 rfl

/-- sorter._find_cycle(): the steps go up, so there is none -/
theorem find_cycle_ {S : So} {F : List (Addr × OP)} {B : Nat} {lt : Str → Str → Prop} {Q : Value → Shared → Prop} (O : Ok w h₀) (R : Rm 2 A) (hfr : A.frames = some outer) (hF : Frs outer (F ++ rest))
    (hz : S.nds.length ≤ 900) (hB : ∀ nd ∈ S.nds, nd.suc.length ≤ B) (hs : ∀ nd ∈ S.nds, ∀ s ∈ nd.suc, s ∈ S.nds.map (·.name)) (hlt : ∀ nd ∈ S.nds, ∀ s ∈ nd.suc, lt nd.name s)
    (tr : ∀ a b c, lt a b → lt b c → lt a c) (ir : ∀ a, ¬ lt a a)
    (D : Led h₀ h (F ++ (soLed w S ++ rest)))
    (q : ∀ h' tk, Led h₀ h' (F ++ (soLed w S ++ rest)) → Q .none ⟨h', g, d, tk, os⟩) :
    wpAny (model PR w) A (call (.ref 134) [.ref S.a]) Q E ⟨h, g, d, t, os⟩ := by
  refine r_call O (D.mid F) R.room (a := 134) (by rfl) (by rfl) (by rfl) (by rfl) (BindsTo.of_eq (by rfl)) (by decide) (locs rfl) ?_
  intro L h₁ tk E' D2
  refine wpAny_execs_cons (wpAny_Assign_Name (Attribute_Name_ (r_local D2 (by rfl) (getT O D2 1 2 rfl rfl (by rfl) (by kernel_rfl) rfl (r_store D2 fun h3 D3 => ?_)))))
  refine wpAny_execs_cons (wpAny_Assign_Name (q_list0 D3 fun sk h4 D4 => r_store D4 fun h5 D5 => ?_))
  refine wpAny_execs_cons (wpAny_Assign_Name (q_list0 D5 fun ik h6 D6 => r_store D6 fun h7 D7 => ?_))
  refine wpAny_execs_cons (wpAny_Assign_Name (Call_ (r_builtin (v := .type "set") O D7 (by kernel_rfl) (by kernel_rfl) (PyProof.Rows.callWith_type0 (q_set0 D7 fun se h8 D8 => r_store D8 fun h9 D9 => ?_)))))
  refine wpAny_execs_cons (wpAny_Assign_Name (q_dict0 D9 fun nk h10 D10 => r_store D10 fun h11 D11 => ?_))
  have D12 := D11.reI (P' := stP []) 4 rfl fun o _ ho => stP_nil o ho
  obtain ⟨ep, D13⟩ := D12.epoch (w := w) (kvs := S.kvs) (dd := S.n2i) 7 rfl
  refine wpAny_execs_cons (wpAny_For (r_local D13 (by rfl) (q_iterKeys D13 7 rfl fun it h12 D14 => ?_)))
  refine r_forY (ny_keys it S.n2i S.kvs ep) (fun s : (Str → Option Value) × (Str → Bool) × Nat => s.1) (fun s => fcL w nk se ik sk [] s.2.1 s.2.2 [] ++ (soLedE w S ep ++ (F ++ rest)))
    (fun i s => s.1 "n2i" = some (.ref S.n2i) ∧ s.1 "stack" = some (.ref sk) ∧ s.1 "itstack" = some (.ref ik) ∧ s.1 "seen" = some (.ref se) ∧ s.1 "node2stacki" = some (.ref nk) ∧ Wk lt S [] s.2.1 s.2.2 [])
    (_, fun _ => false, 0) R.hd D14 ⟨by rfl, by rfl, by rfl, by rfl, by rfl, .nil, by simp, by simp, rfl, by rw [List.filter_eq_nil_iff.mpr (by simp)]; rfl⟩ (fun _ _ _ => ⟨6, rfl⟩) ?_ ?_
  · rintro i v ⟨m, Sf, n⟩ h13 t13 E13 hi ⟨x, y, u, hx, rfl⟩ ⟨j1, j2, j3, j4, j5, W⟩ D15
    dsimp only at j1 j2 j3 j4 j5 W D15 ⊢
    refine hide fun K0 E0 hK0 => ?_
    refine wpAny_assign_Name (r_store D15 fun h14 D16 => hK0 _ _ ?_)
    refine hide fun K1 E1 hK1 => ?_
    have hxn : x ∈ S.nds.map (·.name) := by
      have h1 : (x, y) ∈ S.kvs := List.mem_of_getElem? hx
      unfold So.kvs at h1
      obtain ⟨nd, hm, e⟩ := List.mem_map.mp h1
      exact List.mem_map.mpr ⟨nd, hm, congrArg Prod.fst e⟩
    have hNN : (S.nds.map (·.name)).Nodup := (D.mid F).names
    refine wpAny_execs_cons (wpAny_If (wpAny_isTrue_Compare1 (r_local D16 (by rfl) (r_local D16 j4 (q_inSet D16 3 rfl (wpAny_truthy_bool ?_))))))
    by_cases hSx : Sf x = true
    · rw [hSx]
      refine wpAny_execs_cons (wpAny_Continue ?_)
      refine hK1 _ _ ⟨(_, Sf, n), h14, _, rfl, ?_, D16⟩
      exact ⟨j1, j2, j3, j4, j5, W⟩
    rw [Bool.eq_false_iff.mpr hSx]
    refine wpAny_execs_nil ?_
    refine wpAny_execs_cons (wpAny_While (codeAny_whileLoop (fun k s => ∃ m x u kvs Sf n stk h t, s = ⟨h, g, d, t, os⟩ ∧ Fm S sk ik se nk m ∧ m "node" = some (.str x u) ∧ x ∈ S.nds.map (·.name) ∧ Wk lt S kvs Sf n stk ∧
      (∀ z ∈ stk, lt z.nd.name x) ∧ k = mu B (S.nds.map (·.name)) Sf stk ∧ Led h₀ h ((L, nsP m) :: (it, kiP S.n2i S.kvs.length ep (i + 1)) :: (fcL w nk se ik sk kvs Sf n stk ++ (soLedE w S ep ++ (F ++ rest))))) ?_ (mu B (S.nds.map (·.name)) Sf []) ?init))
    case init =>
      refine ⟨_, x, u, [], Sf, n, [], h14, _, rfl, ?_, ?_, hxn, W, by simp, rfl, D16⟩
      · exact ⟨j1, j2, j3, j4, j5⟩
      · rfl
    rintro k s ⟨m, x, u, kvs, Sf, n, stk, h15, t15, rfl, fm, hn, hxn, W, hlx, rfl, D17⟩
    refine hide fun K2 E2 hK2 => ?_
    refine isTrue_plain (q_bool (wpAny_truthy_bool ?_))
    refine hK2 _ _ ?_
    show wpAny _ _ _ _ _ _
    refine hide fun K3 E3 hK3 => ?_
    refine wpAny_execs_cons (wpAny_mono (Q := fun f s => f = .next ∧ ∃ m kvs Sf' n stk' h t, s = ⟨h, g, d, t, os⟩ ∧ Fm S sk ik se nk m ∧ Wk lt S kvs Sf' n stk' ∧ mu B (S.nds.map (·.name)) Sf' stk' ≤ mu B (S.nds.map (·.name)) Sf stk ∧
      Led h₀ h ((L, nsP m) :: (it, kiP S.n2i S.kvs.length ep (i + 1)) :: (fcL w nk se ik sk kvs Sf' n stk' ++ (soLedE w S ep ++ (F ++ rest))))) ?_ ?_ fun _ _ z => z)
    · refine hide fun K4 E4 hK4 => ?_
      refine wpAny_If (wpAny_isTrue_Compare1 (r_local D17 hn (r_local D17 fm.2.2.2.1 (q_inSet D17 3 rfl (wpAny_truthy_bool ?_)))))
      by_cases hSx : Sf x = true
      · rw [hSx]
        refine wpAny_execs_cons (wpAny_If (wpAny_isTrue_Compare1 (r_local D17 hn (r_local D17 fm.2.2.2.2 (q_inDict D17 2 rfl (wpAny_truthy_bool ?_))))))
        have hv : valueAt kvs x = none := by
          refine valueAt_none_of_not_mem ?_
          rw [W.key]
          intro hm
          obtain ⟨z, hz1, hz2⟩ := List.mem_map.mp hm
          have := hlx z (List.mem_reverse.mp hz1)
          rw [hz2] at this
          exact ir _ this
        rw [hv]
        refine wpAny_execs_nil (wpAny_execs_nil ?_)
        exact hK4 _ _ ⟨rfl, m, kvs, Sf, n, stk, h15, _, rfl, fm, W, Nat.le_refl _, D17⟩
      · have hSx' : Sf x = false := Bool.eq_false_iff.mpr hSx
        rw [hSx']
        obtain ⟨p, nd, r, e, hnx⟩ := nd_of hxn
        subst hnx
        have hndm : nd ∈ S.nds := by rw [e]; simp
        have hlen : stk.length ≤ 900 := wk_len W hNN hz ir tr
        have hnl : n ≤ 900 := by
          rw [W.cnt]; refine Nat.le_trans (List.length_filter_le _ _) ?_; rw [List.length_map]; exact hz
        refine wpAny_execs_cons (wpAny_Expr (MethodCall_ (r_local D17 fm.2.2.2.1 (q_gmSet D17 3 rfl (callWith_method1 (args_cons (r_local D17 hn (args_nil (q_setAdd D17 3 rfl hSx' (by omega) fun h16 D18 => ?_)))))))))
        have D18r := D18.readS ([_, _] ++ fcL w nk se ik sk kvs (fun k => Sf k || decide (k = nd.name)) (n + 1) stk)
        refine wpAny_execs_cons (wpAny_Expr (MethodCall_ (r_local D18 fm.2.2.1 (r_gmList D18 4 rfl PySem.F.slot_list_append PySem.F.type_list_append (callWith_method1 (args_cons (Attribute_any_ (Call_ (r_builtin (v := .builtin "iter") O D18 (by kernel_rfl) (by kernel_rfl) ?_)))))))))
        refine PyProof.Rows.callWith_builtin1 (args_cons (Attribute_any_ (PyProof.Rows.Subscript_ (r_local D18 fm.1 (r_local D18 hn (q_dictItem D18r 2 rfl (valueAt_nd hNN hndm) (getSucAt (F := []) O e D18r (args_nil ?_))))))))
        refine q_iterSj (xs := nd.suc) D18 (List.mem_append_right ([_, _] ++ fcL w nk se ik sk kvs (fun k => Sf k || decide (k = nd.name)) (n + 1) stk) (List.mem_append_left _ (suc_memE hndm))) fun it' h17 D19 => ?_
        refine q_bound D19 rfl fun mw h18 D20 => args_nil ?_
        refine lsP_app D20 6 rfl (by simp; omega) fun h19 D21 => ?_
        refine wpAny_execs_cons (wpAny_Assign_Subscript (Call_ (r_builtin (v := .builtin "len") O D21 (by kernel_rfl) (by kernel_rfl) (PyProof.Rows.callWith_builtin1 (args_cons (r_local D21 fm.2.1 (args_nil (q_lenT D21 7 rfl (by simp; omega) ?_))))))))
        have hv : valueAt kvs nd.name = none := by
          refine valueAt_none_of_not_mem ?_
          rw [W.key]
          intro hm
          obtain ⟨z, hz1, hz2⟩ := List.mem_map.mp hm
          have := hlx z (List.mem_reverse.mp hz1)
          rw [hz2] at this
          exact ir _ this
        have hkl : kvs.length ≤ 900 := by
          have := congrArg List.length W.key
          simp only [List.length_map, List.length_reverse] at this
          omega
        refine r_local D21 fm.2.2.2.2 (r_local D21 hn (q_setItem D21 4 rfl (by omega) (stored_absent hv _) fun h20 D22 => ?_))
        refine wpAny_execs_cons (wpAny_Expr (MethodCall_ (r_local D22 fm.2.1 (r_gmSt D22 7 rfl PySem.F.slot_list_append PySem.F.type_list_append (callWith_method1 (args_cons (r_local D22 hn (args_nil (r_appendT D22 7 rfl (by simp; omega) fun h21 D23 => ?_)))))))))
        refine wpAny_execs_nil ?_
        have D24 := D23.mid1 (l := [_, _, _, _, _]) [_, _]
        obtain ⟨v, D25⟩ : ∃ v, Led h₀ h21 ((L, nsP m) :: (it, kiP S.n2i S.kvs.length ep (i + 1)) :: (fcL w nk se ik sk (kvs ++ [(nd.name, v)]) (fun k => Sf k || decide (k = nd.name)) (n + 1) (⟨mw, it', nd, 0⟩ :: stk) ++ (soLedE w S ep ++ (F ++ rest)))) :=
          ⟨_, by rw [fcL_cons]; exact D24⟩
        refine hK4 _ _ ⟨rfl, m, _, _, n + 1, _, h21, _, rfl, fm, ?_, ?_, D25⟩
        · refine ⟨?_, ?_, ?_, ?_, ?_⟩
          · exact List.pairwise_cons.mpr ⟨fun z hz => hlx z hz, W.ch⟩
          · intro z hz
            rcases List.mem_cons.mp hz with rfl | hz
            · exact hndm
            · exact W.mem z hz
          · intro z hz
            rcases List.mem_cons.mp hz with rfl | hz
            · exact Nat.zero_le _
            · exact W.pos z hz
          · rw [List.map_append, W.key]; simp
          · rw [W.cnt]; exact (filter_or hNN hxn hSx').symm
        · unfold mu
          have h1 := filter_nor hNN hxn hSx'
          have h2 : rem1 ⟨mw, it', nd, 0⟩ ≤ B + 1 := by unfold rem1; have := hB nd hndm; show nd.suc.length - 0 + 1 ≤ B + 1; omega
          rw [List.map_cons, List.sum_cons]
          exact mu_push h1 h2
    · rintro f s ⟨rfl, m, kvs, Sf', n, stk', h16, t16, rfl, fm, W, hmu, D18⟩
      refine wpAny_execs_cons (wpAny_While (codeAny_whileLoop (fun k s => ∃ m kvs stk h t, s = ⟨h, g, d, t, os⟩ ∧ Fm S sk ik se nk m ∧ Wk lt S kvs Sf' n stk ∧ mu B (S.nds.map (·.name)) Sf' stk ≤ mu B (S.nds.map (·.name)) Sf' stk' ∧ k = stk.length ∧
        Led h₀ h ((L, nsP m) :: (it, kiP S.n2i S.kvs.length ep (i + 1)) :: (fcL w nk se ik sk kvs Sf' n stk ++ (soLedE w S ep ++ (F ++ rest))))) ?_ stk'.length ?init))
      case init => exact ⟨m, kvs, stk', h16, _, rfl, fm, W, Nat.le_refl _, rfl, D18⟩
      rintro k s ⟨m, kvs, stk2, h17, t17, rfl, fm, W, hmu2, rfl, D19⟩
      have hlen : stk2.length ≤ 900 := wk_len W hNN hz ir tr
      refine hide fun K5 E5 hK5 => ?_
      refine isTrue_plain (r_local D19 fm.2.1 (q_truthyT D19 5 rfl (by simp; omega) ?_))
      cases stk2 with
      | nil =>
        refine hK5 _ _ ?_
        show wpAny _ _ _ _ _ _
        refine wpAny_execs_cons (wpAny_Break ?_)
        refine hK3 _ _ ?_
        refine wpAny_execs_nil ?_
        have e0 : kvs = [] := by have := W.key; simpa using this
        subst e0
        exact hK1 _ _ ⟨(m, Sf', n), h17, _, rfl, ⟨fm.1, fm.2.1, fm.2.2.1, fm.2.2.2.1, fm.2.2.2.2, W⟩, D19⟩
      | cons z tl =>
        have e1 : (!((z :: tl).reverse.map fun z => z.nd.name).isEmpty) = true := by simp
        rw [e1]
        refine hK5 _ _ ?_
        show wpAny _ _ _ _ _ _
        refine hide fun K6 E6 hK6 => ?_
        have hzm : z.nd ∈ S.nds := W.mem z (.head _)
        have hzp : z.pos ≤ z.nd.suc.length := W.pos z (.head _)
        rw [fcL_cons] at D19
        have hTm : (z.nd.l, stP z.nd.suc) ∈ ((L, nsP m) :: (it, kiP S.n2i S.kvs.length ep (i + 1)) :: ((nk, dcP w kvs) :: (se, seP w Sf' n) :: (ik, lsP ((tl.reverse.map fun z => .ref z.mw) ++ [.ref z.mw])) :: (sk, stP ((tl.reverse.map fun z => z.nd.name) ++ [z.nd.name])) :: (z.mw, mwP z.it) :: (z.it, ljP z.nd.l z.pos) :: tl.flatMap stLed ++ (soLedE w S ep ++ (F ++ rest)))) :=
          List.mem_append_right ([_, _, _, _, _, _, _, _] ++ tl.flatMap stLed) (List.mem_append_left _ (suc_memE hzm))
        refine wpAny_execs_cons (r_try (env := callEnv _ L 134) O (by show (A.frames.map _) = _; rw [hfr]; rfl) rfl (wpAny_execs_cons (wpAny_Assign_Name (Call_ (PyProof.Rows.Subscript_ (r_local D19 fm.2.2.1 (PyProof.Rows.UnaryOp_ (q_int (PySem.P.neg_int (q_lastItem D19 4 rfl (q_callWithMw D19 6 rfl ?_)))))))))))
        by_cases hp : z.pos < z.nd.suc.length
        · refine q_nextItem D19 6 7 rfl rfl hTm hp fun u' h18 D20 => r_store D20 fun h19 D21 => ?_
          refine wpAny_execs_cons (wpAny_Break ?_)
          refine hK6 _ _ ?_
          refine wpAny_execs_nil ?_
          have hch := List.pairwise_cons.mp W.ch
          have hsm : z.nd.suc[z.pos] ∈ z.nd.suc := List.getElem_mem hp
          have hzl : lt z.nd.name z.nd.suc[z.pos] := hlt _ hzm _ hsm
          have hl0 : ∀ z' ∈ z :: tl, lt z'.nd.name z.nd.suc[z.pos] := by
            intro z' hz'
            rcases List.mem_cons.mp hz' with rfl | hz'
            · exact hzl
            · exact tr _ _ _ (hch.1 z' hz') hzl
          refine hK3 _ _ ⟨mu B (S.nds.map (·.name)) Sf' ({ z with pos := z.pos + 1 } :: tl), ?_, (fun y => if y = ("node" : Str) then some (.str z.nd.suc[z.pos] u') else m y), z.nd.suc[z.pos], u', kvs, Sf', n, { z with pos := z.pos + 1 } :: tl, h19, _, rfl, ?_, ?_, hs _ hzm _ hsm, ?_, ?_, rfl, ?D⟩
          case D => rw [fcL_cons]; exact D21
          · refine Nat.lt_of_lt_of_le (Nat.lt_of_lt_of_le ?_ hmu2) hmu
            unfold mu
            rw [List.map_cons, List.sum_cons, List.map_cons, List.sum_cons]
            have : rem1 { z with pos := z.pos + 1 } < rem1 z := by
              show z.nd.suc.length - (z.pos + 1) + 1 < z.nd.suc.length - z.pos + 1
              omega
            omega
          · exact fm
          · rfl
          · refine ⟨List.pairwise_cons.mpr ⟨hch.1, hch.2⟩, ?_, ?_, ?_, W.cnt⟩
            · intro z' hz'
              rcases List.mem_cons.mp hz' with rfl | hz'
              · exact hzm
              · exact W.mem z' (.tail _ hz')
            · intro z' hz'
              rcases List.mem_cons.mp hz' with rfl | hz'
              · exact hp
              · exact W.pos z' (.tail _ hz')
            · rw [W.key]; simp
          · intro z' hz'
            rcases List.mem_cons.mp hz' with rfl | hz'
            · exact hzl
            · exact hl0 z' (.tail _ hz')
        · refine q_nextStop D19 6 7 R.hd rfl rfl hTm (by omega) fun ea h18 D20 => ?_
          refine ⟨ea, h18, _, _, rfl, rfl, D20, ?_, ?_⟩
          · refine Frs.cons (L := L) (m := m) (hF.mono fun p hp => ?_) (by intro e; cases e) rfl (.head _)
            exact List.mem_append_right ([_, _, _, _, _, _, _, _] ++ tl.flatMap stLed) (List.mem_append_right _ hp)
          · intro h19 t19 E19 D21
            have hkk := W.key
            rw [List.reverse_cons, List.map_append] at hkk
            have hch := List.pairwise_cons.mp W.ch
            have hkl : kvs.length ≤ 900 := by
              have := congrArg List.length W.key
              simp only [List.length_map, List.length_reverse] at this
              omega
            have htl : tl.length ≤ 900 := by rw [List.length_cons] at hlen; omega
            have hv : (valueAt kvs z.nd.name).isSome = true := by
              rw [valueAt_isSome_eq_any, List.any_eq_true]
              have : z.nd.name ∈ kvs.map (·.1) := by rw [hkk]; simp
              obtain ⟨kv, h1, h2⟩ := List.mem_map.mp this
              exact ⟨kv, h1, by simpa using h2⟩
            refine wpAny_execs_cons (wpAny_Delete (wpAny_deleteEach_cons (PyProof.Rows.delete_Subscript (r_local D21 fm.2.2.2.2 (MethodCall_ (r_local D21 fm.2.1 (r_gmSt D21 5 rfl PySem.F.slot_list_pop PySem.F.type_list_pop (callWith_method0 (q_popT D21 5 rfl (by simp; omega) fun up h20 D22 => q_delItem D22 2 rfl (by omega) hv fun h21 D23 => wpAny_deleteEach_nil ?_)))))))))
            refine wpAny_execs_cons (wpAny_Expr_any (MethodCall_ (r_local D23 fm.2.2.1 (r_gmList D23 4 rfl PySem.F.slot_list_pop PySem.F.type_list_pop (callWith_method0 (q_pop D23 4 rfl (by simp; omega) fun h22 D24 => ?_))))))
            refine wpAny_execs_nil (wpAny_execs_nil ?_)
            refine hK6 _ _ ⟨tl.length, by simp, m, without kvs z.nd.name, tl, h22, _, rfl, fm, ?_, ?_, rfl, ?D⟩
            case D => exact D24.sub (.cons_cons _ (.cons_cons _ (.cons_cons _ (.cons_cons _ (.cons_cons _ (.cons_cons _ (.cons _ (.cons _ (List.Sublist.refl _)))))))))
            · refine ⟨hch.2, fun z' hz' => W.mem z' (.tail _ hz'), fun z' hz' => W.pos z' (.tail _ hz'), ?_, W.cnt⟩
              have e2 : (without kvs z.nd.name).map (·.1) = (kvs.map (·.1)).filter fun k => decide (k ≠ z.nd.name) := by
                unfold without
                rw [List.filter_map]; rfl
              rw [e2, hkk, List.filter_append]
              have e3 : (tl.reverse.map fun z => z.nd.name).filter (fun k => decide (k ≠ z.nd.name)) = tl.reverse.map fun z => z.nd.name := by
                rw [List.filter_eq_self]
                intro k hk
                obtain ⟨z', hz', rfl⟩ := List.mem_map.mp hk
                have := hch.1 z' (List.mem_reverse.mp hz')
                simp only [decide_eq_true_eq]
                intro e
                rw [e] at this
                exact ir _ this
              rw [e3]
              simp
            · refine Nat.le_trans ?_ hmu2
              unfold mu
              rw [List.map_cons, List.sum_cons]
              omega
  · rintro ⟨m, Sf, n⟩ h13 t13 ⟨j1, j2, j3, j4, j5, W⟩ D15
    refine wpAny_execs_cons (wpAny_Return_some (q_none ?_))
    have D16 : Led h₀ h13 (_ :: (fcL w nk se ik sk [] Sf n [] ++ (soLedE w S ep ++ (F ++ rest)))) := D15
    have D17 := D16.unepoch (w := w) (kvs := S.kvs) (dd := S.n2i) (ep := ep) 7 rfl
    have D18 : Led h₀ h13 (([_, _, _, _, _] : List (Addr × OP)) ++ (soLed w S ++ (F ++ rest))) := D17
    exact q h13 _ ((D18.sub (List.sublist_append_right _ _)).front F)
end
end Mine
end

section
open PySem PySem.W PyProof.Rows PySem.Calls
namespace Mine
/-- an iterator that gives itself back when asked for an iterator -/
structure Nz (w : World) (it : Addr) (ip : Nat → OP) (src : Addr × OP) (n : Nat) (VP : Nat → Value → Prop) : Prop extends Ny w it ip src n VP where
  self : ∀ {h₀ h : Heap} {A : Around} {E : Value → Shared → Prop} {g : Array GenState} {d : Drawn} {t : Nat} {os : OsState} {led : List (Addr × OP)} {Q : Value → Shared → Prop},
    Led h₀ h ((it, ip 0) :: led) → Q (.ref it) ⟨h, g, d, t, os⟩ → wpAny (model PR w) A (pyIter (.ref it)) Q E ⟨h, g, d, t, os⟩

section
variable {w : World} {h₀ : Heap} {A : Around} {E : Value → Shared → Prop} {h h' : Heap} {g : Array GenState} {d : Drawn} {t : Nat} {os : OsState} {led rest : List (Addr × OP)} {env : Env} {outer : List Env}

theorem nz_st (it T : Addr) (xs : List Str) : Nz w it (liP T) (T, stP xs) xs.length (fun i v => ∃ x u, xs[i]? = some x ∧ v = .str x u) where
  toNy := ny_st it T xs
  self D q := by
    obtain ⟨o, ho, hc, hd⟩ := D.hd
    exact wpAny_pyIter_listiter (l := T) (i := 0) ⟨o, ho, hc, hd⟩ q

/-- the values of a dict, one by one -/
noncomputable def viP (dd : Addr) (n ep i : Nat) : OP := fun o => o.cls = .type "dict_valueiterator" ∧ o.data = .fields #[.ref dd, .int i 0, .int n 0, .int ep 0]
noncomputable def vvP (dd : Addr) : OP := fun o => o.cls = .type "dict_values" ∧ o.data = .fields #[.ref dd]
theorem nz_vals (it dd : Addr) (kvs : List (Str × Value)) (ep : Nat) : Nz w it (viP dd kvs.length ep) (dd, dcE w kvs ep) kvs.length (fun i v => ∃ x, kvs[i]? = some (x, v)) where
  item i k hi D hk q := by
    obtain ⟨o, ho, hc, hd⟩ := D.hd
    obtain ⟨o', ho', es, r⟩ := D.tail.at k hk
    refine wpAny_pyNext_values_item (knd := PySem.strKind PR w) (kvs := kvs) (k := kvs[i].1) (v := kvs[i].2) ⟨o, ho, hc, hd⟩ ⟨_, es, ho', r⟩ (by simp [hi]) fun h' hi' hs => ?_
    obtain ⟨o2, h2, hc2, hd2⟩ := hi'
    exact q _ h' _ ⟨kvs[i].1, by simp [hi]⟩ (D.upd hs ⟨o2, h2, hc2, hd2⟩)
  stop k hh D hk q := by
    obtain ⟨o, ho, hc, hd⟩ := D.hd
    obtain ⟨o', ho', es, r⟩ := D.tail.at k hk
    exact wpAny_pyNext_values_end (knd := PySem.strKind PR w) (kvs := kvs) hh ⟨o, ho, hc, hd⟩ ⟨_, es, ho', r⟩ (by simp) fun h' hs => q h' (D.extBut hs)
  self D q := by
    obtain ⟨o, ho, hc, hd⟩ := D.hd
    exact wpAny_pyIter_valiter (d := dd) (i := 0) (n := kvs.length) (ep := ep) ⟨o, ho, hc, hd⟩ q
theorem q_values {dd : Addr} {kvs : List (Str × Value)} {f : Addr × OP} {Q : Value → Shared → Prop} (D : Led h₀ h (f :: led)) (k : Nat) (hk : (f :: led)[k]? = some (dd, dcP w kvs))
    (q : ∀ v h', Led h₀ h' (f :: (v, vvP dd) :: led) → Q (.ref v) ⟨h', g, d, t, os⟩) : wpAny (model PR w) A (call (.builtin "dict.values") [.ref dd]) Q E ⟨h, g, d, t, os⟩ := by
  refine call_meetsIn PySem.F.slot_dict_values (s := ⟨h, g, d, t, os⟩) (D.dict k hk).typeIs PySem.F.entry_dict_values (PySem.F.args_dict_values_1 _) (meets_dict_values (PySem.strKind PR w) dd (D.noMod (List.mem_of_getElem? hk))) ⟨⟨kvs, D.dict k hk⟩, ?_⟩
  exact q _ _ (D.new1 _ ⟨rfl, rfl⟩)
theorem q_iterVals {dd v : Addr} {kvs : List (Str × Value)} {ep : Nat} {f : Addr × OP} {Q : Value → Shared → Prop} (D : Led h₀ h (f :: led)) (j k : Nat) (hj : (f :: led)[j]? = some (v, vvP dd)) (hk : (f :: led)[k]? = some (dd, dcE w kvs ep))
    (q : ∀ it h', Led h₀ h' (f :: (it, viP dd kvs.length ep 0) :: led) → Q (.ref it) ⟨h', g, d, t, os⟩) : wpAny (model PR w) A (pyIter (.ref v)) Q E ⟨h, g, d, t, os⟩ := by
  obtain ⟨o', ho', es, r⟩ := D.at k hk
  obtain ⟨ov, hov, h1, h2⟩ := D.at j hj
  exact wpAny_pyIter_values (knd := PySem.strKind PR w) (kvs := kvs) ⟨_, hov, h1, h2⟩ ⟨_, es, ho', r⟩ (q _ _ (D.new1 _ ⟨rfl, rfl⟩))

theorem r_listComp {elt iter target : Expr} {ifs : List Expr} {more : List Comprehension} {scope : Scope} {cl : List (Str × Addr)} {pos : Pos} {Q : Value → Shared → Prop} {s : Shared}
    (hclos : closureFor scope env = pure cl) (hkind : scope.kind = .function) (hnames : ∀ y ∈ scope.names, y.2 = .local → scope.names.lookup y.1 = some .local)
    (h : wpAny (model PR w) A (eval iter env) (fun xv s₁ => wpAny (model PR w) A (pyIter xv) (fun it s₂ => wpAny (model PR w) A (newList []) (fun acc s₃ =>
      wpAny (model PR w) A (newFunctionEnv scope env.globals cl [] env.qual none .none (some env)) (fun cenv s₄ =>
        codeAny (model PR w) A (.compStart (.ListComp elt (⟨target, iter, ifs, 0⟩ :: more) scope pos) 0 it acc { cenv with scope := relabel scope env }) (compPost (model PR w) A E none Q acc cenv.locals) s₄) E s₃) E s₂) E s₁) E s)
    (hs : ∀ x, foldedSetIterable iter env x = pure x := by intro _; rfl) :
    wpAny (model PR w) A (eval (.ListComp elt (⟨target, iter, ifs, 0⟩ :: more) scope pos) env) Q E s := by
  rw [eval_ListComp]
  exact wpAny_comprehension_free (use := none) rfl hs hclos hkind hnames h

/-- the start of a comprehension: a new list, a frame of its own -/
theorem r_compBlock {e : Expr} {it : Value} {scope : Scope} {cl : List (Str × Addr)} {Q : Value → Shared → Prop} (D : Led h₀ h led) (hcell : ∀ y ∈ scope.names, y.2 ≠ .cell) (hkind : scope.kind = .function)
    (q : ∀ C a h₁ R, Led h₀ h₁ ((C, nsP (fun _ => none)) :: (a, lsP []) :: led) →
      (∀ ys led' m h' t', Led h₀ h' ((C, nsP m) :: (a, lsP ys) :: led') → (∀ h'', Led h₀ h'' ((a, lsP ys) :: led') → Q (.ref a) ⟨h'', g, d, t', os⟩) → R (.ok .next) ⟨h', g, d, t', os⟩) →
      codeAny (model PR w) A (.compStart e 0 it (.ref a) (compEnvC scope cl C env)) R ⟨h₁, g, d, t, os⟩) :
    wpAny (model PR w) A (newList []) (fun acc s₃ => wpAny (model PR w) A (newFunctionEnv scope env.globals cl [] env.qual none .none (some env)) (fun cenv s₄ =>
      codeAny (model PR w) A (.compStart e 0 it acc { cenv with scope := relabel scope env }) (compPost (model PR w) A E none Q acc cenv.locals) s₄) E s₃) E ⟨h, g, d, t, os⟩ := by
  have D1 := D.push (P := lsP []) { cls := .type "list", data := .seq ([] : List Value).toArray } ⟨0, rfl⟩
  refine wpAny_newObj_type (wpAny_newFunctionEnv hcell (by intro y hy; simp at hy) (fun h₁ hns₁ hsb₁ => ?_) hkind)
  have D2 := D1.frame hns₁ fun b o e => hsb₁.extBut b o (Nat.ne_of_lt (Heap.lt_size e)) (Heap.get?_push_of_some _ e)
  refine q _ _ h₁ _ D2 fun ys led' m h' t' D3 k => ?_
  exact ⟨m, D3.ns (.head _), fun h'' hs'' => k h'' (D3.extBut hs''.extBut)⟩

/-- a comprehension's loop over one iterator -/
theorem r_comp {σ : Type} {it : Addr} {ip : Nat → OP} {src : Addr × OP} {n : Nat} {VP : Nat → Value → Prop} {elt iter target : Expr} {ifs : List Expr} {scope : Scope} {cl : List (Str × Addr)} {pos : Pos} {Q : Value → Shared → Prop} (N : Nz w it ip src n VP)
    (ysf : σ → List Value) (ledf : σ → List (Addr × OP)) (J : Nat → σ → Prop) (σ₀ : σ) (hA : A.handled = none) (hcell : ∀ y ∈ scope.names, y.2 ≠ .cell) (hkind : scope.kind = .function)
    (D : Led h₀ h ((it, ip 0) :: ledf σ₀)) (h0 : ysf σ₀ = []) (j0 : J 0 σ₀) (hsrc : ∀ i s, J i s → ∃ k : Nat, (ledf s)[k]? = some src) (hlen : ∀ i s, J i s → (ysf s).length ≤ 90000)
    (turn : ∀ C a i v s m h t E, i < n → VP i v → J i s → Led h₀ h ((C, nsP m) :: (a, lsP (ysf s)) :: (it, ip (i + 1)) :: ledf s) →
      wpAny (model PR w) A (assign target (compEnvC scope cl C env) v) (fun _ s₂ =>
        wpAny (model PR w) A (forIn ifs true fun c r => if r = true then do let ok ← isTrue c (compEnvC scope cl C env) (eval c (compEnvC scope cl C env)); pure (ForInStep.yield ok) else pure (ForInStep.yield r)) (fun ok s₃ =>
          if ok = true then wpAny (model PR w) A (eval elt (compEnvC scope cl C env)) (fun x s₄ => ∃ s' h' t' m', s₄ = ⟨h', g, d, t', os⟩ ∧ J (i + 1) s' ∧ ysf s' = ysf s ++ [x] ∧ Led h₀ h' ((C, nsP m') :: (a, lsP (ysf s)) :: (it, ip (i + 1)) :: ledf s')) E s₃
          else ∃ s' h' t' m', s₃ = ⟨h', g, d, t', os⟩ ∧ J (i + 1) s' ∧ ysf s' = ysf s ∧ Led h₀ h' ((C, nsP m') :: (a, lsP (ysf s)) :: (it, ip (i + 1)) :: ledf s')) E s₂) E ⟨h, g, d, t, os⟩)
    (fin : ∀ s a h t, J n s → Led h₀ h ((a, lsP (ysf s)) :: ledf s) → Q (.ref a) ⟨h, g, d, t, os⟩)
    (ht : ∀ v, letOwnedTupleGo target (.ref it) v = pure () := by intro _; rfl) :
    wpAny (model PR w) A (newList []) (fun acc s₃ => wpAny (model PR w) A (newFunctionEnv scope env.globals cl [] env.qual none .none (some env)) (fun cenv s₄ =>
      codeAny (model PR w) A (.compStart (.ListComp elt [⟨target, iter, ifs, 0⟩] scope pos) 0 (.ref it) acc { cenv with scope := relabel scope env }) (compPost (model PR w) A E none Q acc cenv.locals) s₄) E s₃) E ⟨h, g, d, t, os⟩ := by
  refine r_compBlock D hcell hkind fun C a h₁ R D1 hR => ?_
  have loop : codeAny (model PR w) A (.compLoop (.ListComp elt [⟨target, iter, ifs, 0⟩] scope pos) 0 (.ref it) (.ref a) (compEnvC scope cl C env)) R ⟨h₁, g, d, t, os⟩ := by
    refine codeAny_compLoop_tests (fun k s => ∃ i st m h' t', k + i = n ∧ s = ⟨h', g, d, t', os⟩ ∧ J i st ∧ Led h₀ h' ((C, nsP m) :: (a, lsP (ysf st)) :: (it, ip i) :: ledf st)) ?_ n ⟨0, σ₀, _, h₁, t, rfl, rfl, j0, by rw [h0]; exact D1⟩ ht
    rintro k s ⟨i, st, m, h', t', e, rfl, j, D'⟩
    obtain ⟨kk, hk⟩ := hsrc i st j
    have D'' : Led h₀ h' ((it, ip i) :: (C, nsP m) :: (a, lsP (ysf st)) :: ledf st) := (D'.pick 2 rfl)
    cases k with
    | zero =>
      have e' : i = n := by omega
      subst e'
      refine N.stop (kk + 2) hA D'' (by simpa using hk) fun h2 D2 => ?_
      exact hR _ _ _ _ _ D2 fun h3 D3 => fin st a h3 _ j D3
    | succ k =>
      have hi : i < n := by omega
      refine N.item i (kk + 2) hi D'' (by simpa using hk) fun v h2 t2 hv D2 => ?_
      refine wpAny_mono (turn C a i v st m h2 t2 _ hi hv j (D2.perm (List.Perm.symm ((List.Perm.cons _ (List.Perm.swap ..)).trans (List.Perm.swap ..))))) (fun _ s₂ h₂ => wpAny_mono h₂ (fun ok s₃ h₃ => ?_) fun _ _ z => z) fun _ _ z => z
      cases ok with
      | false =>
        obtain ⟨s', h', t', m', e3, j', e4, D3⟩ := h₃
        rw [if_neg Bool.false_ne_true]
        exact ⟨k, by omega, i + 1, s', m', h', t', by omega, e3, j', by rw [e4]; exact D3⟩
      | true =>
        rw [if_pos rfl] at h₃ ⊢
        refine wpAny_mono h₃ (fun x s₄ h₄ => ?_) fun _ _ z => z
        obtain ⟨s', h', t', m', rfl, j', e4, D3⟩ := h₄
        refine r_append D3 1 rfl (by have := hlen i st j; omega) fun h5 D4 => ?_
        exact ⟨k, by omega, i + 1, s', m', h5, t', by omega, rfl, j', by rw [e4]; exact D4⟩
  refine codeAny_compStart_list loop (N.self (led := (C, nsP (fun _ => none)) :: (a, lsP []) :: ledf σ₀) (D1.pick 2 rfl) loop)
end
end Mine
end

section
open PySem PySem.W PyProof.Rows PySem.Calls
namespace Mine
section
variable {w : World} {h₀ : Heap} {A : Around} {E : Value → Shared → Prop} {h h' : Heap} {g : Array GenState} {d : Drawn} {t : Nat} {os : OsState} {led rest : List (Addr × OP)} {env : Env} {outer : List Env}

theorem q_truthyNone {Q : Bool → Shared → Prop} (q : Q false ⟨h, g, d, t, os⟩) : wpAny (model PR w) A (truthy .none) Q E ⟨h, g, d, t, os⟩ := fun _ _ _ => q

/-- the texts without a text ahead -/
noncomputable def ready0 (G : List GN) : List Str := (G.filter fun n => n.2.1 = 0).map (·.1)

/-- sorter.prepare() -/
theorem prepare_ {S : So} {F : List (Addr × OP)} {B : Nat} {lt : Str → Str → Prop} {Q : Value → Shared → Prop} (O : Ok w h₀) (R : Rm 4 A) (hfr : A.frames = some outer) (hF : Frs outer (F ++ rest)) (hr : S.rd = none)
    (hz : S.nds.length ≤ 900) (hB : ∀ nd ∈ S.nds, nd.suc.length ≤ B) (hs : ∀ nd ∈ S.nds, ∀ s ∈ nd.suc, s ∈ S.nds.map (·.name)) (hlt : ∀ nd ∈ S.nds, ∀ s ∈ nd.suc, lt nd.name s)
    (tr : ∀ a b c, lt a b → lt b c → lt a c) (ir : ∀ a, ¬ lt a a)
    (D : Led h₀ h (F ++ (soLed w S ++ rest)))
    (q : ∀ a h' tk, Led h₀ h' (F ++ (soLed w { S with rd := some (a, ready0 (S.nds.map absN)) } ++ rest)) → Q .none ⟨h', g, d, tk, os⟩) :
    wpAny (model PR w) A (call (.ref 99) [.ref S.a]) Q E ⟨h, g, d, t, os⟩ := by
  obtain ⟨sa, sd, sn, srd, np, npT, nf, nfT, nds⟩ := S
  obtain rfl : srd = none := hr
  refine r_call O (D.mid F) R.room (a := 99) (by rfl) (by rfl) (by rfl) (by rfl) (BindsTo.of_eq (by rfl)) (by decide) (locs rfl) ?_
  intro L h₁ tk E' D2
  refine wpAny_execs_cons (wpAny_If (wpAny_isTrue_Compare1 (Attribute_Name_ (r_local D2 (by rfl) (getT O D2 1 2 rfl rfl (by rfl) (by kernel_rfl) rfl (q_none (isNot_none (wpAny_truthy_bool ?_))))))))
  refine wpAny_execs_nil ?_
  refine wpAny_execs_cons (plainObj_wpAny_Assign_Attribute (r_listComp (cl := []) (by rfl) (by rfl) (by decide) (MethodCall_ (Attribute_Name_ (r_local D2 (by rfl) (getT O D2 1 2 rfl rfl (by rfl) (by kernel_rfl) rfl (r_gmDict D2 3 rfl PySem.F.slot_dict_values PySem.F.type_dict_values (callWith_method0 (q_values D2 3 rfl fun v h3 D3 => ?_)))))))))
  obtain ⟨ep, D4⟩ := D3.epoch (w := w) (kvs := So.kvs ⟨sa, sd, sn, none, np, npT, nf, nfT, nds⟩) (dd := sn) 4 rfl
  refine q_iterVals D4 1 4 rfl rfl fun it h5 D5 => ?_
  have hN : (nds.map (·.name)).Nodup := (D.mid F).names
  refine r_comp (nz_vals it sn (So.kvs ⟨sa, sd, sn, none, np, npT, nf, nfT, nds⟩) ep) (fun s : List Value => s) (fun _ => (L, nsP _) :: (v, vvP sn) :: (soLedE w ⟨sa, sd, sn, none, np, npT, nf, nfT, nds⟩ ep ++ (F ++ rest)))
    (fun i s => TX s (((nds.take i).filter fun nd => nd.cnt = 0).map (·.name))) [] R.hd (by decide) (by rfl) D5.swap rfl rfl (fun _ _ _ => ⟨4, rfl⟩) ?_ ?_ ?_
  · intro i s j
    have := j.len
    rw [this, List.length_map]
    refine Nat.le_trans (List.length_filter_le _ _) ?_
    rw [List.length_take]
    have : nds.length ≤ 900 := hz
    omega
  · rintro C a i v' s m h6 t6 E6 hi ⟨x, hx⟩ j D6
    have hi' : i < nds.length := by have : i < (So.kvs ⟨sa, sd, sn, none, np, npT, nf, nfT, nds⟩).length := hi; unfold So.kvs at this; rwa [List.length_map] at this
    have hv' : v' = .ref nds[i].i := by
      unfold So.kvs at hx
      rw [List.getElem?_map, List.getElem?_eq_getElem hi'] at hx
      exact (congrArg Prod.snd (Option.some.inj hx)).symm
    subst hv'
    obtain ⟨p, r, e⟩ := List.append_of_mem (List.getElem_mem hi')
    refine wpAny_assign_Name (r_store D6 fun h7 D7 => ?_)
    have D7r := D7.readS [_, _, _, _, _]
    refine wpAny_tests_one (wpAny_isTrue_Compare1 (Attribute_Name_ (r_local D7 (by rfl) (getAt (F := []) O e D7r (q_int (PyProof.Rows.eq_int (wpAny_truthy_bool ?_)))))))
    have ht : ((nds.take (i + 1)).filter fun nd => nd.cnt = 0).map (·.name) = ((nds.take i).filter fun nd => nd.cnt = 0).map (·.name) ++ (if nds[i].cnt = 0 then [nds[i].name] else []) := by
      rw [List.take_succ_eq_append_getElem hi', List.filter_append, List.map_append]
      congr 1
      by_cases hc : nds[i].cnt = 0 <;> simp [hc]
    by_cases hc : nds[i].cnt = 0
    · rw [show ((nds[i].cnt == 0) = true) from by simpa using hc, if_pos rfl]
      refine Attribute_Name_ (r_local D7 (by rfl) (getNodeAt (F := []) O e D7r ?_))
      refine ⟨s ++ [.str nds[i].name nds[i].nt], h7, _, _, rfl, ?_, rfl, D7⟩
      rw [ht, if_pos hc]
      exact j.snoc _ _
    · rw [show ((nds[i].cnt == 0) = false) from by simpa using hc, if_neg Bool.false_ne_true]
      refine ⟨s, h7, _, _, rfl, ?_, rfl, D7⟩
      rw [ht, if_neg hc, List.append_nil]
      exact j
  · intro s a h6 t6 j D6
    have hl : (So.kvs ⟨sa, sd, sn, none, np, npT, nf, nfT, nds⟩).length = nds.length := by unfold So.kvs; rw [List.length_map]
    rw [hl, List.take_length] at j
    have D7 := D6.unepoch (w := w) (kvs := So.kvs ⟨sa, sd, sn, none, np, npT, nf, nfT, nds⟩) (dd := sn) (ep := ep) 5 rfl
    have D8 := D7.reI (P' := stP (ready0 (nds.map absN))) 0 rfl fun o _ ho => ⟨s, ho, by
      have e : ready0 (nds.map absN) = (nds.filter fun nd => nd.cnt = 0).map (·.name) := by
        unfold ready0
        rw [List.filter_map, List.map_map]; rfl
      rw [e]; exact j⟩
    refine r_local (D8.pick 1 rfl) (by rfl) (setT O D8 3 4 rfl rfl (by kernel_rfl) (Nat.le_of_ble_eq_true rfl) fun h7 D9 => ?_)
    have D10 : Led h₀ h7 ((L, nsP _) :: (v, vvP sn) :: (soLed w ⟨sa, sd, sn, some (a, ready0 (nds.map absN)), np, npT, nf, nfT, nds⟩ ++ (F ++ rest))) := D9.mid (l := [_, _, _, _, _]) [_]
    refine wpAny_execs_cons (wpAny_Assign_Name (MethodCall_ (r_local D10 (by rfl) (gm O (F := [_, _]) D10 rfl (f := 134) (by kernel_rfl) (by kernel_rfl) (by kernel_rfl) (by rfl) ?_))))
    refine q_call0 O D10 (by kernel_rfl) ?_
    refine find_cycle_ (F := [_, _]) (B := B) (lt := lt) O ((R.deeper _).less) (outer := callEnv _ L 99 :: outer) (by show (A.frames.map _) = _; rw [hfr]; rfl) ?_ hz hB hs hlt tr ir D10 fun h8 t8 D11 => ?_
    · refine Frs.cons (L := L) (hF.mono fun p hp => ?_) (by intro e; cases e) rfl (.head _)
      exact .tail _ (.tail _ hp)
    refine r_store D11 fun h9 D12 => ?_
    refine wpAny_execs_cons (wpAny_If (isTrue_plain (r_local D12 (by rfl) (q_truthyNone ?_))))
    refine wpAny_execs_nil ?_
    refine wpAny_execs_nil ?_
    exact q a h9 _ (D12.tail.tail.front F)
end
end Mine
end

section
open PySem PySem.W PyProof.Rows PySem.Calls
namespace Mine
open PySem.W.X
section
variable {w : World} {A : Around} {c : Code} {fs : List Frame} {P : End → Shared → Prop} {s : Shared} {env : Env} {K : Flow → Sem Fin} {H : Value → Sem Fin} {gd : Bool → Bool} {lv : List Value → List Value}

theorem sx_wrap {α : Type} {m : Sem α} {K : α → Sem Fin} {H : Value → Sem Fin} {gd lv} (h : wpAny (model PR w) (A.over c fs) m (fun a s' => SegX (model PR w) A c (K a) fs s' P) (fun x s' => SegX (model PR w) A c (H x) fs s' P) s) :
    SegX (model PR w) A c (m.wrap K H gd lv) fs s P := by
  rintro Γ p rfl hΓ
  obtain ⟨e, s', hr, hq⟩ := runs_wrap_of_wp (Φ := fun e s' => e.quiet = true ∧ P e s') K H gd lv m (h (Γ.over fs) p (hΓ.over fs)) (fun a p' s' h' => h' Γ p' rfl hΓ) (fun x p' s' h' => h' Γ p' rfl hΓ)
  exact ⟨e, s', hr, hq⟩
theorem sx_bind {α : Type} {m : Sem α} {K : α → Sem Fin} (h : wpAny (model PR w) (A.over c fs) m (fun a s' => SegX (model PR w) A c (K a) fs s' P) (fun x s' => SegX (model PR w) A c (.raise x) fs s' P) s) :
    SegX (model PR w) A c (m >>= K) fs s P := by rw [Sem.bind_eq_wrap']; exact sx_wrap h
theorem sx_at {p' : Pos} {k : Unit → Sem Fin} (h : SegX (model PR w) A c (k ()) fs s P) : SegX (model PR w) A c (.at p' k) fs s P :=
  sx_wrap (m := standAt p') (K := k) (H := .raise) (gd := id) (lv := id) (wpAny_standAt h)
theorem sx_point {l : List Value} {k : Unit → Sem Fin} (h : SegX (model PR w) A c (k ()) fs s P) : SegX (model PR w) A c (.point l k) fs s P :=
  sx_wrap (m := point) (K := k) (H := .raise) (gd := id) (lv := fun _ => l) (wpAny_point h)
theorem sx_call {c' : Code} {h g l} {k : Result → Sem Fin} (hc : ∀ p, SegX (model PR w) A c' ((model PR w).den c') (.ret k h g l c p [] :: fs) s P) : SegX (model PR w) A c (.call c' h g l k) fs s P := s_call PR w A c fs P s c' h g l k hc
theorem sx_leaf {k h g l c₁ p₁ kp} (r : Result) (hk : SegX (model PR w) A c₁ (k r) fs s P) : SegX (model PR w) A c (leafOf r) (.ret k h g l c₁ p₁ kp :: fs) s P := s_pop PR w A c fs P s r _ rfl k h g l c₁ p₁ kp hk
theorem sx_again {c' : Code} (hq : c'.quiet = true) (hc : SegX (model PR w) A c' ((model PR w).den c') fs s P) : SegX (model PR w) A c (.pure (.again c')) fs s P := s_again PR w A c fs P s c' hq hc

theorem sx_execs_cons {st : Stmt} {rest : List Stmt} (h : SegX (model PR w) A c ((exec st env).wrap (fun f => match f with | .next => (execs rest env).wrap K H gd lv | f => K f) H gd lv) fs s P) :
    SegX (model PR w) A c ((execs (st :: rest) env).wrap K H gd lv) fs s P := by rw [execs_cons_wrap]; exact h
theorem sx_While {test : Expr} {body orelse : List Stmt} {pos : Pos}
    (h : ∀ p, SegX (model PR w) A (.whileLoop test body orelse env) ((model PR w).den (.whileLoop test body orelse env))
      (.ret (fun r => ((match r with | .ok f => (.pure f : Sem Flow) | .error e => .raise e).onRaise fun (x : Value) => do
        if (← field x 1) == Value.none then unsupported "frame.own-activation:exception-without-traceback"
        setFlight x env.frame).wrap K H gd lv) none (gd false) (lv []) c p [] :: fs) s P) :
    SegX (model PR w) A c ((exec (.While test body orelse pos) env).wrap K H gd lv) fs s P := sx_at (sx_call h)
theorem sx_whileLoop {test : Expr} {body orelse : List Stmt}
    (h : wpAny (model PR w) (A.over (.whileLoop test body orelse env) fs) (isTrue test env (eval test env)) (fun b s' =>
        if b = true then
          SegX (model PR w) A (.whileLoop test body orelse env) ((execs body env).wrap (fun f => match f with
            | .next | .cont => .pure (.again (.whileLoop test body orelse env))
            | .brk => .pure (.done .next)
            | .ret v => .pure (.done (.ret v))) (fun e => (do noteFrame e env; theTreesLotGoes e : Sem Unit).wrap (fun _ => .raise e) .raise id id) id id) fs s' P
        else SegX (model PR w) A (.whileLoop test body orelse env) ((execs orelse env).wrap (fun f => .pure (.done f)) (fun e => (do noteFrame e env; theTreesLotGoes e : Sem Unit).wrap (fun _ => .raise e) .raise id id) id id) fs s' P)
      (fun x s' => SegX (model PR w) A (.whileLoop test body orelse env) ((do noteFrame x env; theTreesLotGoes x : Sem Unit).wrap (fun _ => .raise x) .raise id id) fs s' P) s) :
    SegX (model PR w) A (.whileLoop test body orelse env) ((model PR w).den (.whileLoop test body orelse env)) fs s P := by
  show SegX _ A _ ((whileTurn test body orelse env).onRaise (fun x => do noteFrame x env; theTreesLotGoes x)) fs s P
  unfold whileTurn
  rw [Sem.onRaise_eq_wrap, Sem.bind_eq_wrap', Sem.wrap_wrap]
  refine sx_wrap (wpAny_mono h (fun b s' hb => ?_) fun x s' hx => ?_)
  · cases b with
    | true =>
      rw [if_pos rfl] at hb
      show SegX _ A _ (Sem.wrap _ _ _ _ (if true = true then _ else _)) fs s' P
      rw [if_pos rfl, Sem.bind_eq_wrap', Sem.wrap_wrap]
      rw [Sem.wrap_congr (execs body env) _ _ (K' := fun f => match f with
            | .next | .cont => .pure (.again (.whileLoop test body orelse env))
            | .brk => .pure (.done .next)
            | .ret v => .pure (.done (.ret v))) (H' := (fun e => (do noteFrame e env; theTreesLotGoes e : Sem Unit).wrap (fun _ => .raise e) .raise id id))
        (fun f => by cases f <;> rfl)
        (fun e => by first | exact Sem.bind_eq_wrap _ _ | (show (do noteFrame e env; theTreesLotGoes e : Sem Unit).bind (fun _ => .raise e) = _; rw [Sem.bind_eq_wrap]))]
      exact hb
    | false =>
      rw [if_neg Bool.false_ne_true] at hb
      show SegX _ A _ (Sem.wrap _ _ _ _ (if false = true then _ else _)) fs s' P
      rw [if_neg Bool.false_ne_true, Sem.bind_eq_wrap', Sem.wrap_wrap]
      rw [Sem.wrap_congr (execs orelse env) _ _ (K' := fun f => (.pure (.done f) : Sem Fin)) (H' := (fun e => (do noteFrame e env; theTreesLotGoes e : Sem Unit).wrap (fun _ => .raise e) .raise id id))
        (fun f => by rfl)
        (fun e => by first | exact Sem.bind_eq_wrap _ _ | (show (do noteFrame e env; theTreesLotGoes e : Sem Unit).bind (fun _ => .raise e) = _; rw [Sem.bind_eq_wrap]))]
      exact hb
  · first
      | (rw [← Sem.bind_eq_wrap] at hx; exact hx)
      | (show SegX _ A _ ((do noteFrame x env; theTreesLotGoes x : Sem Unit).bind fun _ => .raise x) fs s' P; rw [Sem.bind_eq_wrap]; exact hx)
theorem sx_func {body : List Stmt}
    (h : SegX (model PR w) A (.func body env) ((execs body env).wrap (fun f => .pure (.done (.ret (match f with | .ret v => v | _ => .none))))
      (fun e => (leaving env e).wrap (fun _ => .raise e) .raise id id) id id) fs s P) :
    SegX (model PR w) A (.func body env) ((model PR w).den (.func body env)) fs s P := by
  show SegX _ A _ (.point [] fun _ => ((execs body env).onRaise (leaving env)) >>= _) fs s P
  refine sx_point ?_
  rw [Sem.onRaise_eq_wrap, Sem.bind_eq_wrap', Sem.wrap_wrap]
  rw [Sem.wrap_congr (execs body env) _ _ (K' := fun f => .pure (.done (.ret (match f with | .ret v => v | _ => .none))))
    (H' := fun e => (leaving env e).wrap (fun _ => .raise e) .raise id id) (fun f => by cases f <;> rfl)
    (fun e => by rw [Sem.bind_eq_wrap, Sem.wrap_wrap]; rfl)]
  exact h

/-- yield from, over a tuple: the delegate's code takes over -/
theorem sx_YieldFrom {e : Expr} {ypos pos : Pos}
    (h : wpAny (model PR w) (A.over c fs) (eval e env) (fun v s' => ∃ T o, v = .ref T ∧ s'.heap.get? T = some o ∧ o.cls = .type "tuple" ∧ wpAny (model PR w) (A.over c fs) (pyIter v) (fun it s'' =>
        ∀ p, SegX (model PR w) A (.builtin "proto.yield_from" ⟨[it, .bool false, .none], []⟩) ((model PR w).den (.builtin "proto.yield_from" ⟨[it, .bool false, .none], []⟩))
          (.ret (fun r => ((match r with | .ok f => (.pure f : Sem Flow) | .error e => .raise e) >>= fun f => match f with | .ret v => (pure v : Sem Value) | _ => unsupported "internal:call-without-return-value").wrap
            (fun x => (dropValue (.YieldFrom e ypos) pos x).wrap K H gd lv) H gd lv) none (gd false) (lv []) c p [] :: fs) s'' P)
        (fun x s' => SegX (model PR w) A c (H x) fs s' P) s')
      (fun x s' => SegX (model PR w) A c (H x) fs s' P) s) (hi : interactive env = false := by rfl) :
    SegX (model PR w) A c ((exec (.Expr (.YieldFrom e ypos) pos) env).wrap K H gd lv) fs s P := by
  rw [exec_Expr env _ pos hi rfl]
  show SegX _ A c (.at pos fun _ => ((eval e env >>= fun v => (standAt ypos >>= fun _ => yieldFrom env v)) >>= fun x => dropValue (.YieldFrom e ypos) pos x).wrap K H gd lv) fs s P
  refine sx_at ?_
  rw [Sem.bind_eq_wrap', Sem.bind_eq_wrap', Sem.wrap_wrap, Sem.wrap_wrap]
  refine sx_wrap (wpAny_mono h (fun v s' h' => ?_) fun _ _ x => x)
  obtain ⟨T, o, rfl, ho, hc, h'⟩ := h'
  refine sx_at ?_
  show SegX _ A c (Sem.wrap _ _ _ _ (typeOf (.ref T) >>= fun t => _)) fs s' P
  rw [Sem.bind_eq_wrap', Sem.wrap_wrap]
  refine sx_wrap (wpAny_typeOf ⟨o, ho, hc⟩ ?_)
  dsimp only
  rw [if_neg (by decide), Sem.bind_eq_wrap', Sem.wrap_wrap]
  refine sx_wrap (wpAny_holding (wpAny_mono h' (fun it s'' h'' => ?_) fun _ _ x => x))
  exact sx_call h''
end
end Mine
end

section
open PySem PySem.W PyProof.Rows PySem.Calls
namespace Mine
open PySem.W.X
section
variable {w : World} {h₀ : Heap} {A : Around} {h : Heap} {g : Array GenState} {d : Drawn} {t : Nat} {os : OsState} {led rest : List (Addr × OP)} {c : Code} {fs : List Frame} {P : End → Shared → Prop} {s : Shared}

noncomputable def yfC (it : Addr) : Code := .builtin "proto.yield_from" ⟨[.ref it, .bool false, .none], []⟩
theorem entry_yf : entryFor table "proto.yield_from" = some Builtin.«proto.yield_from» := entryFor_of_tree (by kernel_rfl)
theorem den_builtin {id : String} {args : Args} {b : Builtin} (h : entryFor table id = some b) : (model PR w).den (.builtin id args) = b args := by
  have e : ∀ x, (model PR w).den x = denote table x := fun _ => rfl
  rw [e]
  simp only [denote, h]
theorem den_yf (it : Addr) : (model PR w).den (yfC it) = Builtin.«proto.yield_from» ⟨[.ref it, .bool false, .none], []⟩ := den_builtin entry_yf
theorem wp_slept {it : Addr} {o : Obj} {b : Bool} {E : Value → Shared → Prop} {Q : Unit → Shared → Prop} (ho : s.heap.get? it = some o) (hc : o.cls = .type "tuple_iterator") (q : Q () s) : wpAny (model PR w) A (Builtin.Generator.sleptOver (.ref it) b) Q E s := by
  unfold Builtin.Generator.sleptOver
  refine wpAny_bind (wpAny_load ho ?_)
  rw [hc, if_pos (by decide)]
  exact wpAny_pure q
theorem ti_close : typeLookup (.type "tuple_iterator") "close" = pure none := by rw [typeLookup_type, builtinLookup_eq_fast]; kernel_rfl

theorem sx_yf_item {it T : Addr} {vs : List Value} {i k : Nat} {v : Value} (D : Led h₀ h ((it, tiP T i) :: led)) (hk : led[k]? = some (T, tpP vs)) (hv : vs[i]? = some v) (hfs : splitAtGen fs = none) (hfg : fs.any Frame.guarded = false)
    (q : ∀ h' p kk l, Led h₀ h' ((it, tiP T (i + 1)) :: led) →
      (∀ s'' P' o, s''.heap.get? it = some o → o.cls = .type "tuple_iterator" → SegX (model PR w) A (yfC it) ((model PR w).den (yfC it)) fs s'' P' → SegX (model PR w) A (yfC it) (kk (.send .none)) fs s'' P') →
      P (.susp v false l kk (yfC it) p fs) ⟨h', g, d, t, os⟩) :
    SegX (model PR w) A (yfC it) ((model PR w).den (yfC it)) fs ⟨h, g, d, t, os⟩ P := by
  rw [den_yf]
  unfold Builtin.«proto.yield_from»
  dsimp only
  refine sx_bind (wpAny_pure ?_)
  refine sx_bind (wpAny_attempt (wpAny_holding ?_))
  obtain ⟨o, ho, hc, hd⟩ := D.hd
  obtain ⟨ol, hol, n, rfl⟩ := D.tail.at k hk
  have hit : (⟨h, g, d, t, os⟩ : Shared).TypeIs (.ref it) "tuple_iterator" := ⟨o, ho, hc⟩
  rw [if_neg Bool.false_ne_true, if_pos (by decide)]
  refine wpAny_bind (wpAny_rule (wpAny_bind (wpAny_callSpecial?_slot (name := Str.ofString "__next__") hit PySem.F.slot_tuple_iterator_next
    (wpAny_call_entry PySem.F.slot_tuple_iterator_next hit PySem.F.entry_tuple_iterator_next ?_ (PySem.F.args_tuple_iterator_next_1 _)))))
  show wpAny _ _ (field (.ref it) 0 >>= _) _ _ _
  refine wpAny_bind (wpAny_field ho hd (x := .ref T) rfl ?_)
  show wpAny _ _ (if (Value.ref T == Value.none) = true then _ else _) _ _ _
  rw [if_neg (show ¬ ((Value.ref T == Value.none) = true) from Bool.false_ne_true)]
  show wpAny _ _ (field (.ref it) 1 >>= _) _ _ _
  refine wpAny_bind (wpAny_field ho hd (x := .int i 0) rfl ?_)
  show wpAny _ _ (seqItems? (.ref T) >>= _) _ _ _
  refine wpAny_bind (wpAny_seqItems hol rfl ?_)
  simp only [Int.toNat_natCast]
  rw [show vs.toArray[i]? = some v by simpa using hv]
  refine wpAny_bind (wpAny_setField ho hd (by simp) (wpAny_pure ⟨_, rfl, wpAny_pure ?_⟩))
  have hd₃ := Obj.data_mapFields hd (·.setIfInBounds 1 (rawInt ((i : Int) + 1)))
  have D1 := D.upd (P' := tiP T (i + 1)) (Heap.SameBut.update (a := it) (h := h) (f := Obj.mapFields (·.setIfInBounds 1 (rawInt ((i : Int) + 1))))) ⟨_, Heap.get?_update_self _ ho (Obj.isFreed_of_fields hd₃), (Obj.cls_mapFields ..).trans hc, by rw [hd₃]; simp [rawInt]⟩
  dsimp only
  generalize (h.update it (Obj.mapFields (·.setIfInBounds 1 (rawInt ((i : Int) + 1))))) = h2 at D1
  obtain ⟨o2, ho2, hc2, hd2⟩ := D1.hd
  have hit2 : (⟨h2, g, d, t, os⟩ : Shared).TypeIs (.ref it) "tuple_iterator" := ⟨o2, ho2, hc2⟩
  refine sx_bind (wpAny_typeOf hit2 ?_)
  dsimp only
  refine sx_bind (wpAny_of_eq ti_close ?_)
  refine sx_bind (wpAny_pure ?_)
  refine sx_bind (wp_slept (s := ⟨h2, g, d, t, os⟩) ho2 hc2 ?_)
  refine s_yield PR w A (yfC it) fs P ⟨h2, g, d, t, os⟩ v [] _ hfs hfg fun p => q h2 p _ [] D1 ?_
  intro s'' P' o3 ho3 hc3 hseg
  refine sx_bind (m := pure (Resume.send Value.none)) (wpAny_pure ?_)
  refine sx_bind (wp_slept ho3 hc3 ?_)
  dsimp only
  refine sx_bind (wpAny_pure ?_)
  exact sx_again (Code.quiet_builtin _ (by decide +kernel)) hseg

theorem sx_yf_stop {it T : Addr} {vs : List Value} {k : Nat} (D : Led h₀ h ((it, tiP T vs.length) :: led)) (hk : led[k]? = some (T, tpP vs)) (hA : (A.over (yfC it) fs).handled = none)
    (q : ∀ h', Led h₀ h' led → SegX (model PR w) A (yfC it) (leafOf (.ok (.ret .none))) fs ⟨h', g, d, t, os⟩ P) :
    SegX (model PR w) A (yfC it) ((model PR w).den (yfC it)) fs ⟨h, g, d, t, os⟩ P := by
  rw [den_yf]
  unfold Builtin.«proto.yield_from»
  dsimp only
  refine sx_bind (wpAny_pure ?_)
  refine sx_bind (wpAny_attempt (wpAny_holding ?_))
  obtain ⟨o, ho, hc, hd⟩ := D.hd
  obtain ⟨ol, hol, n, rfl⟩ := D.tail.at k hk
  have hit : (⟨h, g, d, t, os⟩ : Shared).TypeIs (.ref it) "tuple_iterator" := ⟨o, ho, hc⟩
  rw [if_neg Bool.false_ne_true, if_pos (by decide)]
  refine wpAny_bind (wpAny_rule (wpAny_bind (wpAny_callSpecial?_slot (name := Str.ofString "__next__") hit PySem.F.slot_tuple_iterator_next
    (wpAny_call_entry PySem.F.slot_tuple_iterator_next hit PySem.F.entry_tuple_iterator_next ?_ (PySem.F.args_tuple_iterator_next_1 _)))))
  show wpAny _ _ (field (.ref it) 0 >>= _) _ _ _
  refine wpAny_bind (wpAny_field ho hd (x := .ref T) rfl ?_)
  show wpAny _ _ (if (Value.ref T == Value.none) = true then _ else _) _ _ _
  rw [if_neg (show ¬ ((Value.ref T == Value.none) = true) from Bool.false_ne_true)]
  show wpAny _ _ (field (.ref it) 1 >>= _) _ _ _
  refine wpAny_bind (wpAny_field ho hd (x := .int vs.length 0) rfl ?_)
  show wpAny _ _ (seqItems? (.ref T) >>= _) _ _ _
  refine wpAny_bind (wpAny_seqItems hol rfl ?_)
  simp only [Int.toNat_natCast]
  rw [show vs.toArray[vs.length]? = none by simp]
  refine wpAny_bind (wpAny_rule (wpAny_bind (wpAny_setField ho hd (by simp) ?_)))
  have hd₃ := Obj.data_mapFields hd (·.setIfInBounds 0 Value.none)
  have D1 := (D.upd (P' := anyP) (Heap.SameBut.update (a := it) (h := h) (f := Obj.mapFields (·.setIfInBounds 0 Value.none))) ⟨_, Heap.get?_update_self _ ho (Obj.isFreed_of_fields hd₃), trivial⟩).tail
  show wpAny _ _ (newExc (.type "StopIteration") [] >>= _) _ _ _
  refine wpAny_bind ?_
  simp only [newExc, newTuple]
  refine wpAny_bind (wpAny_newObj_type ?_ (by size_fits))
  refine wpAny_bind (m := firstArgMember _ _) (wpAny_of_eq (a := Value.none) (by first | rfl | (simp only [firstArgMember]; rfl)) ?_)
  refine wpAny_newObj_type ?_ (by size_fits)
  simp only [raiseNew]
  refine wpAny_bind (wpAny_handled ?_)
  rw [show (A.over (yfC it) fs).in1.handled = none from hA]
  refine wpAny_bind (wpAny_pure (wpAny_throw ?_))
  have D2 := (D1.push' { cls := .type "tuple", dict := none, data := .seq ([] : List Value).toArray }).push (P := fun o => o.cls = .type "StopIteration" ∧ ∃ vs, o.data = .fields vs ∧ vs[5]? = some .none) { cls := .type "StopIteration", dict := none, data := .fields (#[.ref (Heap.update h it (Obj.mapFields (·.setIfInBounds 0 Value.none))).objs.size, .none, .none, .none, .bool false, .none] ++ ownMembersOf (.type "StopIteration") []) } ⟨rfl, _, rfl, rfl⟩
  obtain ⟨oe, he, hce, vse, hde, h5⟩ := D2.hd
  refine sx_bind ?_
  unfold Builtin.Generator.endsTheTurnAsAValue
  refine wpAny_bind ?_
  unfold Builtin.Generator.isStopAndMetaclass
  refine wpAny_bind (wpAny_typeOf ⟨oe, he, hce⟩ ?_)
  dsimp only
  refine wpAny_bind (wpAny_of_eq (a := true) (by rw [isSubtype_type]; kernel_rfl) ?_)
  refine wpAny_bind (wpAny_of_eq (a := .type "type") (by first | rfl | kernel_rfl) ?_)
  refine wpAny_pure ?_
  dsimp only
  rw [if_neg Bool.false_ne_true]
  refine wpAny_pure ?_
  rw [if_pos rfl, if_neg Bool.false_ne_true]
  refine sx_bind (wpAny_rule ?_)
  refine sx_bind (wpAny_field he hde h5 ?_)
  exact q _ D2.tail
end
end Mine
end

section
open PySem PySem.W PyProof.Rows PySem.Calls
namespace Mine
section
variable {w : World} {h₀ : Heap} {A : Around} {E : Value → Shared → Prop} {h h' : Heap} {g : Array GenState} {d : Drawn} {t : Nat} {os : OsState} {led rest : List (Addr × OP)} {env : Env} {outer : List Env}

noncomputable def mtP (f a : Addr) : OP := fun o => o = methodObj (.ref f) (.ref a)

theorem MethodStar_ {o e : Expr} {name : Str} {apos pos p : Pos} {Q : Value → Shared → Prop} {s : Shared}
    (h : wpAny (model PR w) A (eval o env) (fun ov s₁ => wpAny (model PR w) A (getAttr ov name true) (fun f s₂ => wpAny (model PR w) A (callWith pos f [] (backTo pos (starEach [.Starred e p] env)) []) Q E s₂) E s₁) E s)
    (he : eval (.Call (.Attribute o name apos) [.Starred e p] [] pos) env = (do
      let ov ← eval o env
      standAt apos.atName
      let (f, first) ← holding [ov] (do pure (← getAttr ov name true, []))
      callWith pos f first (backTo pos (starEach [.Starred e p] env)) []) := by rfl) :
    wpAny (model PR w) A (eval (.Call (.Attribute o name apos) [.Starred e p] [] pos) env) Q E s := by
  rw [he]
  refine wpAny_bind (wpAny_mono h (fun ov s₁ h₁ => wpAny_bind (wpAny_standAt (wpAny_bind (wpAny_holding (wpAny_bind (wpAny_mono h₁ (fun f s₂ h₂ => wpAny_pure ?_) fun _ _ x => x)))))) fun _ _ x => x)
  exact h₂

theorem q_boundT {S : So} {F : List (Addr × OP)} {f : Addr} {name : Str} {Q : Value → Shared → Prop} (O : Ok w h₀) (D : Led h₀ h (F ++ (soLed w S ++ rest))) (hg : plainGet (KK w) 144 name = true) (hh : hasDictIn (KK w) 144 = true) (ha : findIn (KK w) (.ref 144) name = some (some (.ref f))) (hf : isFn (KK w) (.ref f) = true)
    (hgf : specialIn (KK w) (.ref f) "__get__" = some (some (.builtin "function.__get__"))) (ht : takesIn (KK w) (.ref f) = some false) (hc : copiedNames.contains name = false) (hl : S.kv.lookup name = none)
    (q : ∀ bm h', Led h₀ h' ((bm, mtP f S.a) :: (F ++ (soLed w S ++ rest))) → Q (.ref bm) ⟨h', g, d, t + 1, os⟩) : wpAny (model PR w) A (getAttr (.ref S.a) name true) Q E ⟨h, g, d, t, os⟩ := by
  have D1 := D.mid F
  obtain ⟨ox, hx, rfl⟩ := D1.at 0 rfl
  obtain ⟨od, hdx, es, n, rfl, he⟩ := D1.at 1 rfl
  have X := O.kin D1
  exact get_bind X (od := some (dictOf es n)) ⟨hx, rfl, rfl, hdx⟩ (plainGet_of hg).1 (findObj_fn hh ha hgf ht hc (by show lookIn name (dictOf es n) = _; rw [lookIn_dict, getL_ents he, hl])) (plainGet_of hg).2
    (wpAny_call (fn_get (s := ⟨h, g, d, t + 1, os⟩) X (beq_iff_eq.mp hf) (handed_on rfl (q h.objs.size _ (D.push _ rfl)))))

/-- sorter.done(*group), group a tuple of texts -/
theorem doneStar {S : So} {F : List (Addr × OP)} {a T : Addr} {ys xs : List Str} {vs : List Value} {B : Nat} {name xn : Str} {np' apos pos p xp : Pos} {Q : Value → Shared → Prop} (O : Ok w h₀) (R : Rm 3 A) (hr : S.rd = some (a, ys)) (tx : TX vs xs) (hz : xs.length ≤ 1000)
    (hB : ∀ nd ∈ S.nds, nd.suc.length ≤ B) (hb : ys.length + B * xs.length ≤ 90000)
    (hs : ∀ nd ∈ S.nds, ∀ s ∈ nd.suc, s ∈ S.nds.map (·.name)) (hx : ∀ x ∈ xs, x ∈ S.nds.map (·.name))
    (hp : ∀ i (hi : i < xs.length), cntOf (doneG (xs.take i) (S.nds.map absN, ys)).1 xs[i] = -1)
    (D : Led h₀ h (F ++ (soLed w S ++ rest))) (hT : (T, tpP vs) ∈ F)
    (hself : ∀ Q' : Value → Shared → Prop, Q' (.ref S.a) ⟨h, g, d, t, os⟩ → wpAny (model PR w) A (eval (.Name name np') env) Q' E ⟨h, g, d, t, os⟩)
    (hgrp : ∀ (Q' : Value → Shared → Prop) h' t', (∀ led', Led h₀ h' led' → (∀ q ∈ F, q ∈ led') → True) → (∃ bm, Led h₀ h' ((bm, mtP 127 S.a) :: (F ++ (soLed w S ++ rest)))) → Q' (.ref T) ⟨h', g, d, t', os⟩ → wpAny (model PR w) A (eval (.Name xn xp) env) Q' E ⟨h', g, d, t', os⟩)
    (q : ∀ nds' ys' u h' tk, (nds'.map absN, ys') = doneG xs (S.nds.map absN, ys) → nds'.map skel = S.nds.map skel →
      Led h₀ h' (F ++ (soLed w { S with nds := nds', rd := some (a, ys'), nf := S.nf + xs.length, nfT := u } ++ rest)) → Q .none ⟨h', g, d, tk, os⟩)
    (he : eval (.Call (.Attribute (.Name name np') "done" apos) [.Starred (.Name xn xp) p] [] pos) env = (do
      let ov ← eval (.Name name np') env
      standAt apos.atName
      let (f, first) ← holding [ov] (do pure (← getAttr ov "done" true, []))
      callWith pos f first (backTo pos (starEach [.Starred (.Name xn xp) p] env)) []) := by rfl) :
    wpAny (model PR w) A (eval (.Call (.Attribute (.Name name np') "done" apos) [.Starred (.Name xn xp) p] [] pos) env) Q E ⟨h, g, d, t, os⟩ := by
  refine MethodStar_ (hself _ (q_boundT O D (f := 127) (by kernel_rfl) (by kernel_rfl) (by kernel_rfl) (by kernel_rfl) (by kernel_rfl) (by kernel_rfl) (by decide) (by rfl) fun bm h2 D2 => ?_)) he
  have hob := D2.hd
  show wpAny _ _ (callWith pos (.ref bm) [] [(true, (do let v ← eval (.Name xn xp) env; standAt pos; pure v))] []) Q E _
  refine ks_call (P := MethP (KK w) bm 127 (.ref S.a)) rfl (keeps_M (by kernel_rfl)) (ks_lone (hgrp _ _ _ (fun _ _ _ => trivial) ⟨bm, D2⟩ ?_))
  obtain ⟨oT, hoT, nT, rfl⟩ := D2.get (a := T) (P := tpP vs) (.tail _ (List.mem_append_left _ hT))
  have hl := tx.len
  have z : wpAny (model PR w) A (collect (.ref T)) (fun vs' s₂ => MethP (KK w) bm 127 (.ref S.a) s₂.heap ∧ wpAny (model PR w) A (call (.ref bm) ([] ++ vs') []) Q E s₂) E ⟨h2, g, d, t + 1, os⟩ := by
    refine wpAny_collect_seq T (.inr rfl) hoT rfl rfl (fun h3 hk3 => ?_) (by rw [List.size_toArray, sizeLine_eq]; omega)
    have D3 := D2.grow hk3
    obtain ⟨ob, hob, rfl⟩ := D3.hd
    refine ⟨⟨hob, O.kin D3⟩, ?_⟩
    refine wpAny_call (ks_codeAny_call_bound hob ?_)
    exact done_c (F := F) O (R.less) hr tx hz hB hb hs hx hp D3.tail fun nds' ys' u h4 tk e1 e2 D4 => q nds' ys' u h4 tk e1 e2 D4
  unfold StarOf notIterableAtAll
  exact wpAny_bind (wpAny_specialOf (T := "tuple") ⟨_, hoT, rfl⟩ PySem.F.slot_tuple_iter.lookup (wpAny_pure ⟨rfl, z⟩))
end
end Mine
end

section
open PySem PySem.W PyProof.Rows PySem.Calls
namespace Mine
open PySem.W.X

inductive Run : List GN → List Str → List (List Str) → Prop
  | stop {G : List GN} : Run G [] []
  | step {G : List GN} {rd : List Str} {gs : List (List Str)} : rd ≠ [] → rd.length ≤ 1000 → (∀ x ∈ rd, x ∈ G.map (·.1)) → (∀ i (hi : i < rd.length), cntOf (doneG (rd.take i) (outG rd G, [])).1 rd[i] = -1) →
      Run (doneG rd (outG rd G, [])).1 (doneG rd (outG rd G, [])).2 gs → Run G rd (rd :: gs)

/-- what the generator does at a wake: it gives the next text and sleeps, or ends -/
noncomputable def GP (w : World) (h₀ : Heap) (A : Around) : List Str → Array GenState → Drawn → OsState → List (Addr × OP) → End → Shared → Prop
  | [], g, d, os, rest, e, s' => e = .ret (.ok (.ret .none)) ∧ ∃ h' tk', s' = ⟨h', g, d, tk', os⟩ ∧ Led h₀ h' rest
  | x :: xs, g, d, os, rest, e, s' => ∃ u l k c p fs h' tk' own, e = .susp (.str x u) false l k c p fs ∧ s' = ⟨h', g, d, tk', os⟩ ∧ Led h₀ h' (own ++ rest) ∧
      ∀ h g d tk os rest, Led h₀ h (own ++ rest) → SegX (model PR w) A c (k (.send .none)) fs ⟨h, g, d, tk, os⟩ (GP w h₀ A xs g d os rest)

section
variable {w : World} {h₀ : Heap} {A : Around} {E : Value → Shared → Prop} {h h' : Heap} {g : Array GenState} {d : Drawn} {t : Nat} {os : OsState} {led rest : List (Addr × OP)} {env : Env} {outer : List Env}

theorem Rm.func {n : Nat} (R : Rm (n + 1) A) (b : List Stmt) (e : Env) : Rm n (A.over (.func b e) []) := by
  obtain ⟨h1, h2, h3⟩ := R
  refine ⟨?_, ?_, h3⟩
  · have e1 : (A.over (.func b e) []).depth = A.depth + 0 + 1 := rfl
    rw [e1]; omega
  · have e1 : (A.over (.func b e) []).units = A.units + 0 + (Code.func b e).cUnits := rfl
    have e2 : (Code.func b e).cUnits ≤ 50 := by show (3 : Nat) ≤ 50; decide
    rw [e1]; omega
theorem Rm.wh {n : Nat} (R : Rm (n + 1) A) (b : List Stmt) (e : Env) (te : Expr) (bo : List Stmt) (k : Result → Sem PySem.Fin) (gg : Bool) (l : List Value) (p : Pos) : Rm n (A.over (.whileLoop te bo [] e) [.ret k none gg l (.func b e) p []]) := by
  obtain ⟨h1, h2, h3⟩ := R
  refine ⟨?_, ?_, ?_⟩
  · have e1 : (A.over (.whileLoop te bo [] e) [.ret k none gg l (.func b e) p []]).depth = A.depth + 1 + 0 := rfl
    rw [e1]; omega
  · have e1 : (A.over (.whileLoop te bo [] e) [.ret k none gg l (.func b e) p []]).units = A.units + ((Code.func b e).cUnits + 0) + (Code.whileLoop te bo [] e).cUnits := rfl
    have e2 : (Code.func b e).cUnits ≤ 50 := by show (3 : Nat) ≤ 50; decide
    have e3 : (Code.whileLoop te bo [] e).cUnits ≤ 50 := by show (0 : Nat) ≤ 50; decide
    rw [e1]; omega
  · exact h3
end
end Mine
end

section
open PySem PySem.W PyProof.Rows PySem.Calls
namespace Mine
open PySem.W.X
section
variable {w : World} {h₀ : Heap} {A : Around} {E : Value → Shared → Prop} {h h' : Heap} {g : Array GenState} {d : Drawn} {t : Nat} {os : OsState} {led rest : List (Addr × OP)} {env : Env} {outer : List Env}

noncomputable def gnP (gi : Nat) : OP := fun o => ∃ nm qn, o = { cls := .type "generator", dict := none, data := .fields #[.int gi 0, nm, qn], slots := #[] }

/-- the generator that static_order() hands back: what a fresh one does when woken -/
noncomputable def Gen0 (w : World) (h₀ : Heap) (c : Code) (own : List (Addr × OP)) (xs : List Str) : Prop :=
  ∀ (A : Around) (outer : List Env) (h : Heap) (g : Array GenState) (d : Drawn) (t : Nat) (os : OsState) (rest : List (Addr × OP)), Rm 7 A → A.frames = some outer → Frs outer rest → Led h₀ h (own ++ rest) →
    SegX (model PR w) A c ((model PR w).den c) [] ⟨h, g, d, t, os⟩ (GP w h₀ A xs g d os rest)

noncomputable def nsk (nd : Nd) : Str × List Str := (nd.name, nd.suc)
theorem nsk_abs (nds : List Nd) : nds.map nsk = (nds.map absN).map fun n => (n.1, n.2.2) := by rw [List.map_map]; rfl
theorem setc_ns (x : Str) (c : Int) (G : List GN) : (setc x c G).map (fun n => (n.1, n.2.2)) = G.map fun n => (n.1, n.2.2) := by
  unfold setc
  rw [List.map_map]
  refine List.map_congr_left fun n _ => ?_
  simp only [Function.comp_apply]
  split <;> rfl
theorem outG_ns (xs : List Str) (G : List GN) : (outG xs G).map (fun n => (n.1, n.2.2)) = G.map fun n => (n.1, n.2.2) := by
  unfold outG
  induction xs generalizing G with
  | nil => rfl
  | cons x r ih => rw [List.foldl_cons, ih, setc_ns]
theorem nsk_skel {a b : List Nd} (e : a.map skel = b.map skel) : a.map nsk = b.map nsk := by
  have := congrArg (List.map (fun x : Str × Addr × Addr × Addr × List Str => (x.1, x.2.2.2.2))) e
  rwa [List.map_map, List.map_map] at this
theorem nsk_names {a b : List Nd} (e : a.map nsk = b.map nsk) : a.map (·.name) = b.map (·.name) := by
  have := congrArg (List.map (·.1)) e
  rwa [List.map_map, List.map_map] at this
theorem nsk_mem {a b : List Nd} (e : a.map nsk = b.map nsk) {nd : Nd} (h : nd ∈ a) : ∃ nd' ∈ b, nd'.name = nd.name ∧ nd'.suc = nd.suc := by
  have : nsk nd ∈ b.map nsk := by rw [← e]; exact List.mem_map.mpr ⟨nd, h, rfl⟩
  obtain ⟨nd', h1, h2⟩ := List.mem_map.mp this
  exact ⟨nd', h1, congrArg Prod.fst h2, congrArg Prod.snd h2⟩

theorem static_order_ {S : So} {F : List (Addr × OP)} {B : Nat} {lt : Str → Str → Prop} {gs : List (List Str)} {Q : Value → Shared → Prop} (O : Ok w h₀) (R : Rm 2 A) (hr : S.rd = none) (hnp : S.np = S.nf)
    (hz : S.nds.length ≤ 900) (hB : ∀ nd ∈ S.nds, nd.suc.length ≤ B) (hBz : B ≤ 80) (hs : ∀ nd ∈ S.nds, ∀ s ∈ nd.suc, s ∈ S.nds.map (·.name)) (hlt : ∀ nd ∈ S.nds, ∀ s ∈ nd.suc, lt nd.name s)
    (tr : ∀ a b c, lt a b → lt b c → lt a c) (ir : ∀ a, ¬ lt a a) (run : Run (S.nds.map absN) (ready0 (S.nds.map absN)) gs)
    (D : Led h₀ h (F ++ (soLed w S ++ rest)))
    (q : ∀ I c own h' tk, Gen0 w h₀ c own gs.flatten → Led h₀ h' ((I, gnP g.size) :: (own ++ (F ++ rest))) → Q (.ref I) ⟨h', g.push (.fresh c), d, tk, os⟩) :
    wpAny (model PR w) A (call (.ref 141) [.ref S.a]) Q E ⟨h, g, d, t, os⟩ := by
  have D1 := D.mid F
  have X := O.kin D1
  refine wpAny_call (codeAny_call_generator R.room (X 141 _ (by rfl)) (by rfl) (by rfl) (by rfl) (by rfl) (codeRec_of X (by rfl)) ?_)
  refine (BindsTo.of_eq (by rfl) : BindsTo _ _ _ [("self", .ref S.a)]) _ _ _ _ ?_
  refine wpAny_newFunctionEnv (by decide) (locs rfl) (fun h₁ hns hsb => ⟨(O.lim.keeps D1.keep).fresh _ hsb, ?_⟩) rfl
  have D2 := D1.frame hns fun b o e => hsb.extBut b o (Nat.ne_of_lt (Heap.lt_size e)) (Heap.get?_push_of_some _ e)
  refine q _ _ ((h.objs.size, nsP (fun x => ([("self", .ref S.a)] : List (Str × Value)).reverse.lookup x)) :: soLed w S) _ _ ?_ (D2.push _ ⟨_, _, rfl⟩)
  clear D2 hns hsb D1 D X q
  generalize h.objs.size = L
  obtain ⟨sa, sd, sn, srd, np, npT, nf, nfT, nds0⟩ := S
  obtain rfl : srd = none := hr
  obtain rfl : np = nf := hnp
  dsimp only at hz hB hs hlt run
  intro A outer h g d t os rest R hfr hF D
  refine sx_func (sx_execs_cons (sx_wrap (wpAny_Expr (MethodCall_ (r_local D (by rfl) (gm O (F := [_]) D rfl (f := 99) (by kernel_rfl) (by kernel_rfl) (by kernel_rfl) (by rfl) (q_call0 O D (by kernel_rfl) ?_)))))))
  refine prepare_ (F := [_]) (B := B) (lt := lt) O ((R.func _ _).less) (outer := newEnv _ L _ _ _ _ _ _ _ :: outer) (by show pushEnvs [_] A.frames = _; rw [hfr]; rfl) ?_ rfl hz hB hs hlt tr ir D fun a h2 t2 D2 => ?_
  · refine Frs.cons (L := L) (hF.mono fun p hp => .tail _ hp) (by intro e; cases e) rfl (.head _)
  refine sx_execs_cons (sx_While fun p => ?_)
  obtain ⟨m, nds, rd, G, nT, hm, hG, hsk, hrun, D3⟩ : ∃ m nds rd G nT, m ("self" : Str) = some (.ref sa) ∧ nds.map absN = G ∧ nds.map nsk = nds0.map nsk ∧ Run G rd gs ∧ Led h₀ h2 ((L, nsP m) :: (soLed w ⟨sa, sd, sn, some (a, rd), np, npT, np, nT, nds⟩ ++ rest)) :=
    ⟨_, nds0, _, _, nfT, by rfl, rfl, rfl, run, D2⟩
  clear run D2 hF D
  induction hrun generalizing h2 t2 g d os rest nds np npT nT m with
  | stop =>
    refine sx_whileLoop (isTrue_plain (MethodCall_ (r_local D3 hm (gm O (F := [_]) D3 rfl (f := 113) (by kernel_rfl) (by kernel_rfl) (by kernel_rfl) (by rfl) (q_call0 O D3 (by kernel_rfl) (is_active_ (F := [_]) O ((R.wh _ _ _ _ _ _ _ _).less) rfl (by simp) D3 fun h3 t3 D4 => wpAny_truthy_bool ?_))))))
    rw [show (decide (np < np) || !([] : List Str).isEmpty) = false by simp, if_neg Bool.false_ne_true]
    refine sx_leaf (.ok .next) ?_
    refine s_end PR w A _ _ _ (.ok (.ret .none)) _ rfl ?_
    exact ⟨rfl, h3, _, rfl, (D4.sub (List.sublist_append_right _ _)).sub (List.sublist_append_right _ _)⟩
  | @step G rd gs h1 h2' h3 h4 h5 ih =>
    subst hG
    have hnm : ∀ x ∈ rd, x ∈ nds.map (·.name) := by rw [← absN_names]; exact h3
    refine sx_whileLoop (isTrue_plain (MethodCall_ (r_local D3 hm (gm O (F := [_]) D3 rfl (f := 113) (by kernel_rfl) (by kernel_rfl) (by kernel_rfl) (by rfl) (q_call0 O D3 (by kernel_rfl) (is_active_ (F := [_]) (xs := rd) O ((R.wh _ _ _ _ _ _ _ _).less) rfl (by omega) D3 fun h3 t3 D4 => wpAny_truthy_bool ?_))))))
    rw [show (decide (np < np) || !rd.isEmpty) = true by cases rd <;> simp_all, if_pos rfl]
    refine sx_execs_cons (sx_wrap (wpAny_Assign_Name (MethodCall_ (r_local D4 hm (gm O (F := [_]) D4 rfl (f := 106) (by kernel_rfl) (by kernel_rfl) (by kernel_rfl) (by rfl) (q_call0 O D4 (by kernel_rfl) (get_ready_ (F := [_]) (xs := rd) O ((R.wh _ _ _ _ _ _ _ _).less) rfl h2' hnm D4 fun T vs nds' u h5 t5 tx e5 D5 => r_store D5 fun h6 D6 => ?_)))))))
    have hl := tx.len
    have hns : nds'.map nsk = nds0.map nsk := by rw [nsk_abs, e5, outG_ns, ← nsk_abs]; exact hsk
    obtain ⟨oT, hoT, nT', rfl⟩ := D6.at 1 rfl
    refine sx_execs_cons (sx_YieldFrom (r_local D6 (by rfl) ⟨T, _, rfl, hoT, rfl, q_iterTup D6 1 rfl fun it h7 D7 p2 => ?_⟩))
    obtain ⟨i, hi, D8, ef⟩ : ∃ i : Nat, i ≤ vs.length ∧ Led h₀ h7 (_ :: (it, tiP T i) :: (T, tpP vs) :: (soLed w ⟨sa, sd, sn, some (a, []), np + rd.length, u, np, nT, nds'⟩ ++ rest)) ∧ (rd :: gs).flatten = rd.drop i ++ gs.flatten := ⟨0, Nat.zero_le _, D7, rfl⟩
    rw [ef]
    clear ef D7 D6 D5 D4 D3 hoT
    generalize t5 + 1 = t6
    induction hn : vs.length - i generalizing i h7 g d t6 os rest with
    | zero =>
      have hie : i = vs.length := by omega
      subst hie
      refine sx_yf_stop (vs := vs) (k := 1) D8.swap rfl R.hd fun h8 D9 => ?_
      refine sx_leaf (.ok (.ret .none)) ?_
      rw [show rd.drop vs.length = [] by rw [hl]; simp, List.nil_append]
      have hB' : ∀ nd ∈ nds', nd.suc.length ≤ B := fun nd hnd => by
        obtain ⟨nd', h1, _, h2⟩ := nsk_mem hns hnd; rw [← h2]; exact hB _ h1
      have hs' : ∀ nd ∈ nds', ∀ s ∈ nd.suc, s ∈ nds'.map (·.name) := fun nd hnd s hs1 => by
        obtain ⟨nd', h1, _, h2⟩ := nsk_mem hns hnd
        rw [nsk_names hns]; exact hs _ h1 s (by rw [h2]; exact hs1)
      have hx' : ∀ x ∈ rd, x ∈ nds'.map (·.name) := by
        rw [nsk_names hns, ← nsk_names hsk]; exact hnm
      refine sx_execs_cons (sx_wrap (wpAny_Expr (doneStar (S := ⟨sa, sd, sn, some (a, []), np + rd.length, u, np, nT, nds'⟩) (F := [_, _]) (T := T) (ys := []) (xs := rd) (vs := vs) (B := B) O ((R.wh _ _ _ _ _ _ _ _).less) rfl tx h2' hB'
        (by have := Nat.mul_le_mul hBz h2'; simp only [List.length_nil]; omega) hs' hx' (by intro i hi; show cntOf (doneG (rd.take i) (nds'.map absN, [])).1 rd[i] = -1; rw [e5]; exact h4 i hi) D9 (.tail _ (.head _)) (fun Q' hq => r_local D9 hm hq) (fun Q' h' t' _ hD hq => ?_) ?_)))
      · obtain ⟨bm, D⟩ := hD
        exact r_local D.swap (by rfl) hq
      · intro nds2 ys2 u2 h9 t9 e9 e10 D10
        refine sx_again rfl ?_
        have e9' : (nds2.map absN, ys2) = doneG rd (nds'.map absN, []) := e9
        rw [e5] at e9'
        have hy : ys2 = (doneG rd (outG rd (nds.map absN), [])).2 := congrArg Prod.snd e9'
        subst hy
        refine ih _ _ _ _ _ _ _ _ (fun y => if y = ("node_group" : Str) then some (.ref T) else m y) nds2 _ ?_ ?_ ?_ (D10.sub (.cons_cons _ (.cons _ (List.Sublist.refl _))))
        · exact hm
        · exact congrArg Prod.fst e9'
        · exact (nsk_skel e10).trans hns
    | succ n ihn =>
      have hiv : i < vs.length := by omega
      have hir : i < rd.length := by omega
      obtain ⟨uu, huu⟩ := tx.at (i := i) (x := rd[i]) (by simp [hir])
      rw [List.drop_eq_getElem_cons hir, List.cons_append]
      refine sx_yf_item (vs := vs) (i := i) (k := 1) D8.swap rfl huu rfl rfl fun h8 p kk l D9 hres => ?_
      have D9' := D9.swap
      refine ⟨uu, l, kk, _, p, _, h8, _, _ :: (it, tiP T (i + 1)) :: (T, tpP vs) :: soLed w ⟨sa, sd, sn, some (a, []), np + rd.length, u, np, nT, nds'⟩, rfl, rfl, D9', ?_⟩
      intro h g d tk os rest D
      obtain ⟨o, ho, hc, _⟩ := D.at 1 rfl
      refine hres _ _ o ho hc ?_
      apply ihn (i := i + 1)
      all_goals first | exact D | omega
end
end Mine
end

section
open PySem PySem.W PyProof.Rows PySem.Calls
namespace Mine
open PySem.W.X
section
variable {w : World} {h₀ : Heap} {A : Around} {E : Value → Shared → Prop} {h h' : Heap} {g : Array GenState} {d : Drawn} {t : Nat} {os : OsState} {led rest own : List (Addr × OP)} {env : Env} {outer : List Env} {gs : GenState}

/-- a generator that will give these texts -/
noncomputable def Rdy (w : World) (h₀ : Heap) (A : Around) (outer : List Env) (gs : GenState) (own : List (Addr × OP)) (xs : List Str) : Prop :=
  ∃ c₀ t₀ fs₀, ((gs = .fresh c₀ ∧ Resume.send Value.none = .send .none ∧ t₀ = denote table c₀ ∧ fs₀ = []) ∨ (∃ k₀ l₀ p₀ cl, gs = .suspended k₀ l₀ c₀ p₀ fs₀ cl ∧ t₀ = k₀ (.send .none))) ∧
    ∀ h g d t os rest, Frs outer rest → Led h₀ h (own ++ rest) → SegX (model PR w) A c₀ t₀ fs₀ ⟨h, g, d, t, os⟩ (GP w h₀ A xs g d os rest)

theorem set_push (g : Array GenState) (a b : GenState) : (g.push a).setIfInBounds g.size b = g.push b := by
  apply Array.ext'
  simp

theorem q_genNext {I : Addr} {xs : List Str} {Q : Option Value → Shared → Prop} (O : Ok w h₀) (hroom : A.depth < recursionLimit) (hA : A.handled = none) (R : Rdy w h₀ A.in1 outer gs own xs) (hF : Frs outer rest) (D : Led h₀ h ((I, gnP g.size) :: (own ++ rest)))
    (q : match xs with
      | [] => ∀ h' t', Led h₀ h' ((I, gnP g.size) :: rest) → Q none ⟨h', g.push .finished, d, t', os⟩
      | x :: xs => ∀ u gs' own' h' t', Rdy w h₀ A.in1 outer gs' own' xs → Led h₀ h' ((I, gnP g.size) :: (own' ++ rest)) → Q (some (.str x u)) ⟨h', g.push gs', d, t', os⟩) :
    wpAny (model PR w) A (pyNext (.ref I)) Q E ⟨h, g.push gs, d, t, os⟩ := by
  obtain ⟨o, ho, nm, qn, rfl⟩ := D.hd
  have hg : Heap.IsGen h I g.size := ⟨_, nm, qn, ho, rfl, rfl, rfl⟩
  have hgs : (g.push gs)[g.size]? = some gs := by simp
  unfold pyNext
  refine wpAny_bind (wpAny_attempt (wpAny_callSpecial?_slot (name := Str.ofString "__next__") (s := ⟨h, g.push gs, d, t, os⟩) hg.typeIs slot_gen_next
    (wpAny_call_entry slot_gen_next (s := ⟨h, g.push gs, d, t, os⟩) hg.typeIs entry_gen_next ?_ (args_gen_next _))))
  show wpAny _ _ (Builtin.Generator.genWake (.ref I) (.send .none)) _ _ _
  unfold Builtin.Generator.genWake
  refine wpAny_bind (wpAny_holding (wpAny_genNumber hg (wpAny_bind (wpAny_genState hgs ?_))))
  obtain ⟨c₀, t₀, fs₀, hgs', hseg⟩ := R
  have D' : Led h₀ h (own ++ ((I, gnP g.size) :: rest)) := D.mid [_]
  have seg := hseg h (g.push .running) d t os ((I, gnP g.size) :: rest) (hF.mono fun p hp => .tail _ hp) D'
  have hl : h.NoLimit := O.lim.keeps D.keep
  have fin : ∀ (Q' : PySem.Fin → Shared → Prop) (E' : Value → Shared → Prop) (k : GenResult → Sem PySem.Fin), (∀ e s', GP w h₀ A.in1 xs (g.push .running) d os ((I, gnP g.size) :: rest) e s' → wpAny (model PR w) A.in1 (k e.result) Q' E' (s'.setGen g.size e.genState)) →
      wpAny (model PR w) A.in1 (.resume g.size (.send .none) [] k) Q' E' ⟨h, g.push gs, d, t, os⟩ := by
    intro Q' E' k hkk
    refine fun Γ p hΓ => wake_any PySem.Fin PR w hgs hgs' (fun Γ => Ctx.In Γ A.in1) (fun _ z => z) ?_ Γ p hΓ
    have es : (⟨h, g.push gs, d, t, os⟩ : Shared).setGen g.size .running = ⟨h, g.push .running, d, t, os⟩ := by unfold Shared.setGen; rw [set_push]
    rw [es]
    exact SegX.mono seg fun e s' hP => hkk e s' hP
  rcases hgs' with ⟨rfl, _⟩ | ⟨k₀, l₀, p₀, cl, rfl, _⟩
  all_goals
    refine wpAny_bind (wpAny_roomToWake hl hroom ?_)
    refine fin _ _ _ fun e s' hP => ?_
    cases xs with
    | nil =>
      obtain ⟨rfl, h2, t2, rfl, D2⟩ := hP
      show wpAny _ _ (newExc (.type "StopIteration") [] >>= _) _ _ _
      refine wpAny_bind ?_
      simp only [newExc, newTuple]
      refine wpAny_bind (wpAny_newObj_type ?_ (by size_fits))
      refine wpAny_bind (m := firstArgMember _ _) (wpAny_of_eq (a := Value.none) (by first | rfl | (simp only [firstArgMember]; rfl)) ?_)
      refine wpAny_newObj_type ?_ (by size_fits)
      simp only [raiseNew]
      refine wpAny_bind (wpAny_bind (wpAny_handled ?_))
      rw [show A.in1.handled = none from hA]
      refine wpAny_throw ?_
      refine wpAny_bind (wpAny_isInstance (T := "StopIteration") (b := true) ⟨_, Heap.get?_push_size _ rfl, rfl⟩ isSubtype_stop ?_)
      refine wpAny_pure ?_
      have e2 : (g.push .running).setIfInBounds g.size (End.ret (.ok (.ret .none))).genState = g.push .finished := set_push ..
      have q2 := q _ t2 ((D2.push' { cls := .type "tuple", dict := none, data := .seq ([] : List Value).toArray }).push' { cls := .type "StopIteration", dict := none, data := .fields (#[.ref h2.objs.size, .none, .none, .none, .bool false, .none] ++ ownMembersOf (.type "StopIteration") []) })
      rw [← e2] at q2
      exact q2
    | cons x xs =>
      obtain ⟨u, l, k, c, p, fs, h2, t2, own', rfl, rfl, D2, hres⟩ := hP
      refine wpAny_pure ⟨_, rfl, wpAny_pure ?_⟩
      have e2 : (g.push .running).setIfInBounds g.size (End.susp (.str x u) false l k c p fs).genState = g.push (End.susp (.str x u) false l k c p fs).genState := set_push ..
      have q2 := q u (End.susp (.str x u) false l k c p fs).genState own' h2 t2 ⟨c, _, fs, .inr ⟨k, l, p, _, rfl, rfl⟩, fun h g d t os rest _ D => hres h g d t os rest D⟩ (D2.front [_])
      rw [← e2] at q2
      exact q2
end
end Mine
end

section
open PySem PySem.W PyProof.Rows PySem.Calls
namespace Mine
open PySem.W.X
section
variable {w : World} {h₀ : Heap} {A : Around} {E : Value → Shared → Prop} {h h' : Heap} {g : Array GenState} {d : Drawn} {t : Nat} {os : OsState} {led rest own : List (Addr × OP)} {env : Env} {outer : List Env} {gs : GenState}

theorem ext_loop {S I : Addr} {res : Value} {R : Result → Shared → Prop} (O : Ok w h₀) (hroom : A.depth < recursionLimit) (hA : A.handled = none) (hF : Frs outer rest) :
    ∀ (xs acc : List Str) (gs : GenState) (own : List (Addr × OP)) (h : Heap) (t : Nat), acc.length + xs.length ≤ 1000 → Rdy w h₀ A.in1.in1 outer gs own xs → Led h₀ h ((S, stP acc) :: (I, gnP g.size) :: (own ++ rest)) →
    (∀ h' t', Led h₀ h' ((S, stP (acc ++ xs)) :: (I, gnP g.size) :: rest) → R (.ok (.ret res)) ⟨h', g.push .finished, d, t', os⟩) →
    codeAny (model PR w) A (.builtin "list.extend.loop" ⟨[.ref S, .ref I, res], []⟩) R ⟨h, g.push gs, d, t, os⟩ := by
  intro xs
  induction xs with
  | nil =>
    intro acc gs own h t hz hR D q
    refine codeAny_builtin PySem.F.entry_extend_loop ?_
    rw [Around.under_plainId PySem.F.plain_extend_loop _]
    show wpAny _ A.in1 (pyNext (.ref I) >>= _) _ _ _
    have D1 : Led h₀ h ((I, gnP g.size) :: (own ++ ((S, stP acc) :: rest))) := D.perm (List.Perm.trans (List.Perm.swap ..) (List.Perm.cons _ (List.perm_middle.symm)))
    refine wpAny_bind (q_genNext (A := A.in1) (xs := []) O hroom hA hR (hF.mono fun p hp => .tail _ hp) D1 ?_)
    intro h2 t2 D2
    refine wpAny_pure (q h2 t2 ?_)
    rw [List.append_nil]
    exact D2.swap
  | cons x xs ih =>
    intro acc gs own h t hz hR D q
    refine codeAny_builtin PySem.F.entry_extend_loop ?_
    rw [Around.under_plainId PySem.F.plain_extend_loop _]
    show wpAny _ A.in1 (pyNext (.ref I) >>= _) _ _ _
    have D1 : Led h₀ h ((I, gnP g.size) :: (own ++ ((S, stP acc) :: rest))) := D.perm (List.Perm.trans (List.Perm.swap ..) (List.Perm.cons _ (List.perm_middle.symm)))
    refine wpAny_bind (q_genNext (A := A.in1) (xs := x :: xs) O hroom hA hR (hF.mono fun p hp => .tail _ hp) D1 ?_)
    intro u gs' own' h2 t2 hR' D2
    show wpAny _ A.in1 (updateSeq S (·.push (.str x u)) >>= _) _ _ _
    have D3 : Led h₀ h2 ((S, stP acc) :: (I, gnP g.size) :: (own' ++ rest)) := D2.perm (List.Perm.trans (List.Perm.cons _ List.perm_middle) (List.Perm.swap ..))
    obtain ⟨o, ho, vs, ⟨n, rfl⟩, tx⟩ := D3.hd
    have hl := tx.len
    have hz' : acc.length + (xs.length + 1) ≤ 1000 := hz
    refine wpAny_bind (wpAny_updateSeq ho rfl ?_ (by rw [List.size_toArray, sizeLine_eq]; omega) (by rw [Array.size_push, List.size_toArray, sizeLine_eq]; omega))
    refine wpAny_pure ⟨plainId_quiet PySem.F.plain_extend_loop _, ?_⟩
    refine ih (acc ++ [x]) gs' own' _ _ (by rw [List.length_append, List.length_singleton]; omega) hR' (D3.upd (Heap.SameBut.update ..) ⟨_, Heap.get?_update_self _ ho rfl, vs ++ [.str x u], lsP_map ⟨_, rfl⟩ _ (by simp), tx.snoc x u⟩) ?_
    intro h4 t4 D4
    refine q h4 t4 ?_
    rwa [List.append_assoc] at D4

/-- list(generator) -/
theorem q_listGen {I : Addr} {xs : List Str} {c : Code} {Q : Value → Shared → Prop} (O : Ok w h₀) (R : Rm 10 A) (hfr : A.frames = some outer) (hF : Frs outer rest) (hz : xs.length ≤ 900) (G : Gen0 w h₀ c own xs) (D : Led h₀ h ((I, gnP g.size) :: (own ++ rest)))
    (q : ∀ S h' t', Led h₀ h' ((S, stP xs) :: rest) → Q (.ref S) ⟨h', g.push .finished, d, t', os⟩) :
    wpAny (model PR w) A (call (.type "list") [.ref I]) Q E ⟨h, g.push (.fresh c), d, t, os⟩ := by
  refine callType_codes (Q₁ := fun obj s₁ => obj = .ref h.objs.size ∧ s₁ = ⟨h.push { cls := .type "list", data := .seq #[] }, g.push (.fresh c), d, t, os⟩) PySem.F.called_list (PySem.F.typeCall_list_1 _) PySem.F.entry_list_init
    (code_list_new _ ⟨rfl, rfl⟩) fun obj s₁ h₁ => ?_
  obtain ⟨rfl, rfl⟩ := h₁
  have D1 := D.push (P := stP []) { cls := .type "list", data := .seq #[] } ⟨[], ⟨0, rfl⟩, rfl⟩
  generalize h.push { cls := .type "list", data := .seq #[] } = h1 at D1
  generalize h.objs.size = S at D1
  obtain ⟨oS, hS, vs, ⟨n, rfl⟩, tx⟩ := D1.hd
  obtain rfl : vs = [] := List.eq_nil_of_length_eq_zero tx.len
  have hSI : S ≠ I := D1.ne
  refine ⟨⟨_, hS, rfl⟩, PySem.F.args_list_init_2 _ _, ?_⟩
  show wpAny _ _ (do let old ← Builtin.List.listItems (.ref S); Builtin.List.listUpdate (.ref S) (fun _ => #[]); letGo old.toList.reverse; Builtin.List.listExtendWith (.ref S) (.ref I) .none) _ _ _
  refine wpAny_bind ?_
  unfold Builtin.List.listItems
  refine wpAny_bind (wpAny_seqItems hS rfl (wpAny_pure ?_))
  show wpAny _ _ (updateSeq S (fun _ => #[]) >>= fun _ => letGo (#[] : Array Value).toList.reverse >>= fun _ => Builtin.List.listExtendWith (.ref S) (.ref I) .none) _ _ _
  refine wpAny_bind (wpAny_updateSeq hS rfl ?_)
  refine wpAny_bind (wpAny_letGo ?_)
  have D2 := D1.upd (P' := stP []) (Heap.SameBut.update (a := S) (h := h1) (f := Obj.mapSeq (fun _ => (#[] : Array Value)))) ⟨_, Heap.get?_update_self _ hS rfl, [], lsP_map ⟨_, rfl⟩ _ (by simp), rfl⟩
  generalize h1.update S (Obj.mapSeq (fun _ => (#[] : Array Value))) = h2 at D2
  obtain ⟨oS2, hS2, vs, ⟨n2, rfl⟩, tx⟩ := D2.hd
  obtain rfl : vs = [] := List.eq_nil_of_length_eq_zero tx.len
  obtain ⟨oI, hoI, nm, qn, rfl⟩ := D2.tail.hd
  have hTI : (⟨h2, g.push (.fresh c), d, t, os⟩ : Shared).TypeIs (.ref I) "generator" := ⟨_, hoI, rfl⟩
  unfold Builtin.List.listExtendWith
  refine wpAny_bind (wpAny_typeOf hTI ?_)
  have e1 : Builtin.List.listSameRef (.ref S) (.ref I) = false := by simp [Builtin.List.listSameRef, hSI]
  have e2 : (Value.type "generator" == Value.type "list") = false := by decide
  have e3 : (Value.type "generator" == Value.type "tuple") = false := by decide
  simp only [e1, e2, e3, Bool.or_false, Bool.false_eq_true, if_false]
  refine wpAny_bind (wpAny_pyIter_gen (g := g.size) ⟨_, nm, qn, hoI, rfl, rfl, rfl⟩ ?_)
  refine wpAny_bind (wpAny_holding ?_)
  unfold Builtin.List.listLengthHint
  refine wpAny_bind (wpAny_specialOf hTI PySem.F.gen_no_len ?_)
  show wpAny _ _ (specialOf (Value.ref I) (Str.ofString "__length_hint__") >>= _) _ _ _
  refine wpAny_bind (wpAny_specialOf hTI PySem.F.gen_no_hint ?_)
  refine wpAny_pure ?_
  show wpAny _ _ (rule "list.extend.makes-room" >>= fun _ => Builtin.List.listTouch (.ref S) >>= fun _ =>
    again (.builtin "list.extend.loop" ⟨[.ref S, .ref I, .none], []⟩)) _ _ _
  refine wpAny_bind (wpAny_rule ?_)
  refine wpAny_bind ?_
  show wpAny _ _ (updateSeq S (·.push .none) >>= fun _ => updateSeq S (·.pop)) _ _ _
  refine wpAny_bind (wpAny_updateSeq hS2 rfl ?_)
  have hS3 := Heap.get?_update_self (Obj.mapSeq (·.push Value.none)) hS2 rfl
  refine wpAny_updateSeq (hz := by seq_fits) hS3 rfl ?_
  have D3 := D2.upd (P' := lsP [.none]) (Heap.SameBut.update (a := S) (h := h2) (f := Obj.mapSeq (·.push Value.none))) ⟨_, hS3, lsP_map ⟨_, rfl⟩ _ (by simp)⟩
  have D4 := D3.upd (P' := stP []) (Heap.SameBut.update _ S (Obj.mapSeq (·.pop))) ⟨_, Heap.get?_update_self (Obj.mapSeq (·.pop)) hS3 rfl, [], ⟨_, rfl⟩, rfl⟩
  refine wpAny_pure ⟨plainId_quiet PySem.F.plain_extend_loop _, ?_⟩
  refine ext_loop (A := A.in1) (outer := outer) O R.in1.room R.hd hF xs [] _ own _ _ (by simp; omega) ⟨c, _, [], .inl ⟨rfl, rfl, rfl, rfl⟩, fun h g d t os rest hF D => ?_⟩ D4 ?_
  · exact G _ outer h g d t os rest (R.in1.in1.in1.less) hfr hF D
  · intro h5 t5 D5
    exact ⟨rfl, q S h5 t5 (D5.sub (.cons_cons _ (.cons _ (List.Sublist.refl _))))⟩
end
end Mine
end

section
open PySem PySem.W PyProof.Rows PySem.Calls
namespace Mine
/-- the order of texts, sign by sign -/
noncomputable abbrev SL (x y : Str) : Prop := x.cps.toList < y.cps.toList
noncomputable def sg (x y : Str) : Int := b2i (decide (SL y x)) - b2i (decide (SL x y))

theorem lex_pre (p l m : List Nat) : (p ++ l) < (p ++ m) ↔ l < m := by
  induction p with
  | nil => rfl
  | cons a r ih =>
    rw [List.cons_append, List.cons_append, List.cons_lt_cons_iff, ih]
    constructor
    · rintro (h | h)
      · exact absurd h (Nat.lt_irrefl _)
      · exact h.2
    · intro h; exact .inr ⟨rfl, h⟩
theorem SL.irr (x : Str) : ¬ SL x x := List.lt_irrefl _
theorem SL.tr {x y z : Str} (h : SL x y) (h' : SL y z) : SL x z := List.lt_trans h h'
theorem SL.tri (x y : Str) : SL x y ∨ x = y ∨ SL y x := by
  rcases x with ⟨a⟩
  rcases y with ⟨b⟩
  by_cases h1 : a.toList < b.toList
  · exact .inl h1
  by_cases h2 : b.toList < a.toList
  · exact .inr (.inr h2)
  · refine .inr (.inl ?_)
    have : a.toList = b.toList := List.le_antisymm (List.not_lt.mp h2) (List.not_lt.mp h1)
    rw [Array.ext' this]
theorem SL.asym {x y : Str} (h : SL x y) : ¬ SL y x := fun h' => SL.irr _ (h.tr h')
theorem sg_lt {x y : Str} (h : SL x y) : sg x y = -1 := by
  unfold sg; rw [decide_eq_true h, decide_eq_false h.asym]; rfl
theorem sg_gt {x y : Str} (h : SL y x) : sg x y = 1 := by
  unfold sg; rw [decide_eq_true h, decide_eq_false h.asym]; rfl
theorem sg_eq (x : Str) : sg x x = 0 := by
  unfold sg; rw [decide_eq_false (SL.irr x)]; rfl

section
variable {w : World} {h₀ : Heap} {A : Around} {E : Value → Shared → Prop} {h h' : Heap} {g : Array GenState} {d : Drawn} {t : Nat} {os : OsState} {led rest own : List (Addr × OP)} {env : Env} {outer : List Env} {gs : GenState}

/-- _strcoll(a, b) -/
theorem strcoll_ {x y : Str} {u v : Tok} {Q : Value → Shared → Prop} (O : Ok w h₀) (D : Led h₀ h led) (R : Rm 1 A)
    (q : ∀ h' tk n, Led h₀ h' led → Q (.int (sg x y) n) ⟨h', g, d, tk, os⟩) : wpAny (model PR w) A (call (.ref 21) [.str x u, .str y v]) Q E ⟨h, g, d, t, os⟩ := by
  refine r_call O D R.room (a := 21) (binds := [("a", .str x u), ("b", .str y v)]) (by rfl) (by rfl) (by rfl) (by rfl) (BindsTo.of_eq (by rfl)) (by decide) (locs rfl) ?_
  intro L h₁ tk E' D1
  refine wpAny_execs_cons (wpAny_Return_some (wpAny_BinOp (wpAny_Compare1 (r_local D1 (by rfl) (r_local D1 (by rfl) (PySem.P.gt_str (wpAny_Compare1 (r_local D1 (by rfl) (r_local D1 (by rfl) (PyProof.Rows.lt_str (PyProof.Rows.sub_bool ?_)))))))))))
  exact q _ _ _ (D1.sub (List.sublist_cons_self _ _))

/-- range(n) -/
noncomputable def rgP (n : Nat) : OP := fun o => ∃ t u v, o = { cls := .type "range", dict := none, data := .fields #[.int 0 t, .int n u, .int 1 v], slots := #[] }
noncomputable def riP (n i : Nat) : OP := fun o => o = { cls := .type "range_iterator", dict := none, data := .fields #[rawInt i, rawInt ((n : Int) - i), rawInt 1], slots := #[] }
theorem q_range {n : Nat} {u : Tok} {f : Addr × OP} {Q : Value → Shared → Prop} (D : Led h₀ h (f :: led)) (q : ∀ r h' t', Led h₀ h' (f :: (r, rgP n) :: led) → Q (.ref r) ⟨h', g, d, t', os⟩) :
    wpAny (model PR w) A (call (.type "range") [.int n u]) Q E ⟨h, g, d, t, os⟩ := call_range_1 (q _ _ _ (D.new1 _ ⟨_, _, _, rfl⟩))
theorem q_iterRange {r : Addr} {n : Nat} {f : Addr × OP} {Q : Value → Shared → Prop} (D : Led h₀ h (f :: led)) (k : Nat) (hk : (f :: led)[k]? = some (r, rgP n)) (hz : n ≤ 100000)
    (q : ∀ it h', Led h₀ h' (f :: (it, riP n 0) :: led) → Q (.ref it) ⟨h', g, d, t, os⟩) : wpAny (model PR w) A (pyIter (.ref r)) Q E ⟨h, g, d, t, os⟩ := by
  obtain ⟨o, ho, t1, t2, t3, rfl⟩ := D.at k hk
  refine wpAny_pyIter_range ho (small_one (by decide) (by decide) (by omega) (by omega)) (q _ _ (D.new1 _ ?_))
  show _ = _
  rw [rangeSize_one]
  congr 4
  rcases Nat.eq_zero_or_pos n with h | h
  · subst h; rfl
  · rw [if_pos (by omega)]; rfl
theorem nz_range (it r : Addr) (n : Nat) : Nz w it (riP n) (r, rgP n) n (fun i v => ∃ u, v = .int i u) where
  item i k hi D hk q := by
    obtain ⟨o, ho, rfl⟩ := D.hd
    refine wpAny_pyNext_range_item ho (by omega) fun h' hi' hs => q _ h' _ ⟨_, rfl⟩ (D.upd hs ⟨_, hi', ?_⟩)
    show _ = _
    rw [show (i : Int) + 1 = ((i + 1 : Nat) : Int) by push_cast; rfl, show (n : Int) - (i : Int) - 1 = (n : Int) - ((i + 1 : Nat) : Int) by push_cast; omega]
  stop k hh D hk q := by
    obtain ⟨o, ho, rfl⟩ := D.hd
    exact wpAny_pyNext_range_end hh ho (by omega) fun h' hs => q h' (D.extBut hs)
  self D q := by
    obtain ⟨o, ho, rfl⟩ := D.hd
    exact wpAny_pyIter_rangeiter ho q
end
end Mine
end

section
open PySem PySem.W PyProof.Rows PySem.Calls
namespace Mine
theorem lex_at (p l m : List Nat) {a b : Nat} (hne : a ≠ b) : (p ++ a :: l) < (p ++ b :: m) ↔ a < b := by
  rw [lex_pre, List.cons_lt_cons_iff]
  constructor
  · rintro (h | h)
    · exact h
    · exact absurd h.1 hne
  · intro h; exact .inl h
theorem sg_at {x y : Str} {i : Nat} (hp : x.cps.toList.take i = y.cps.toList.take i) (hx : i < x.cps.toList.length) (hy : i < y.cps.toList.length) (hne : x.cps.toList[i] ≠ y.cps.toList[i]) :
    sg x y = if x.cps.toList[i] < y.cps.toList[i] then -1 else 1 := by
  have ex : x.cps.toList = x.cps.toList.take i ++ x.cps.toList[i] :: x.cps.toList.drop (i + 1) := by rw [← List.drop_eq_getElem_cons hx, List.take_append_drop]
  have ey : y.cps.toList = x.cps.toList.take i ++ y.cps.toList[i] :: y.cps.toList.drop (i + 1) := by rw [hp, ← List.drop_eq_getElem_cons hy, List.take_append_drop]
  have k1 := lex_at (x.cps.toList.take i) (x.cps.toList.drop (i + 1)) (y.cps.toList.drop (i + 1)) hne
  have k2 := lex_at (x.cps.toList.take i) (y.cps.toList.drop (i + 1)) (x.cps.toList.drop (i + 1)) hne.symm
  rw [← ex, ← ey] at k1 k2
  by_cases h : x.cps.toList[i] < y.cps.toList[i]
  · rw [if_pos h]
    exact sg_lt (k1.mpr h)
  · rw [if_neg h]
    exact sg_gt (k2.mpr (Nat.lt_of_le_of_ne (Nat.not_lt.mp h) hne.symm))
theorem sg_short {x y : Str} (hp : x.cps.toList = y.cps.toList.take x.cps.toList.length) (h : x.cps.toList.length < y.cps.toList.length) : SL x y := by
  show x.cps.toList < y.cps.toList
  have ey : y.cps.toList = x.cps.toList ++ y.cps.toList.drop x.cps.toList.length := by
    conv => lhs; rw [← List.take_append_drop x.cps.toList.length y.cps.toList, ← hp]
  rw [ey]
  conv => lhs; rw [← List.append_nil x.cps.toList]
  rw [lex_pre, List.drop_eq_getElem_cons h]
  exact List.nil_lt_cons _ _

section
variable {w : World} {h₀ : Heap} {A : Around} {E : Value → Shared → Prop} {h h' : Heap} {g : Array GenState} {d : Drawn} {t : Nat} {os : OsState} {led rest own : List (Addr × OP)} {env : Env} {outer : List Env} {gs : GenState}

theorem q_len {x : Str} {u : Tok} {Q : Value → Shared → Prop} (hx : x.cps.size ≤ 1000) (q : Q (.int (x.cps.size : Nat) (t + 1)) ⟨h, g, d, t + 1 + 1, os⟩) : wpAny (model PR w) A (call (.builtin "len") [.str x u]) Q E ⟨h, g, d, t, os⟩ :=
  PySem.P.len_str (by show ¬ ((x.cps.size : Nat) : Int) ≥ _; omega) q
theorem q_item {value slice : Expr} {x : Str} {u v : Tok} {i : Nat} {Q : Value → Shared → Prop} (hi : i < x.cps.toList.length) (hz : x.cps.size ≤ 1000) (q : Q (.str ⟨#[x.cps.toList[i]]⟩ t) ⟨h, g, d, t + 1, os⟩)
    (hs : subscripted slice false (.str x u) (.int i v) = operate [.str x u, .int i v] (getItem (.str x u) (.int i v)) := by with_unfolding_all rfl)
    (ht : ∀ r, letTemporaryGo value (.str x u) r = pure () := by intro _; with_unfolding_all rfl) :
    wpAny (model PR w) A (subscriptTail value slice (.str x u) (.int i v)) Q E ⟨h, g, d, t, os⟩ := by
  have hi' : i < x.cps.size := by simpa using hi
  have e : Txt.item x i = ⟨#[x.cps.toList[i]]⟩ := item_meets (by omega) (by simp [hi'])
  refine item_str (by unfold fitsSsize; simp; omega) (by have : x.length = x.cps.size := rfl; omega) (by have : x.length = x.cps.size := rfl; omega) (fun _ => ?_) hs ht
  rw [e]
  exact q
theorem q_min {a b : Nat} {u v : Tok} {Q : Value → Shared → Prop} (D : Led h₀ h led) (hA : A.handled = none) (q : ∀ h' t' n, Led h₀ h' led → Q (.int (Nat.min a b : Nat) n) ⟨h', g, d, t', os⟩) :
    wpAny (model PR w) A (call (.builtin "min") [.int (a : Nat) u, .int (b : Nat) v]) Q E ⟨h, g, d, t, os⟩ := by
  refine min_two_ints hA fun h' tk hk => ?_
  have D' := D.grow hk
  by_cases hb : (b : Int) < (a : Int)
  · rw [if_pos hb]
    have : Nat.min a b = b := Nat.min_eq_right (by omega)
    have q' := q h' tk v D'
    rw [this] at q'
    exact q'
  · rw [if_neg hb]
    have : Nat.min a b = a := Nat.min_eq_left (by omega)
    have q' := q h' tk u D'
    rw [this] at q'
    exact q'

/-- _law_sign(one, two) -/
theorem sign_ {x y : Str} {u v : Tok} {Q : Value → Shared → Prop} (O : Ok w h₀) (D : Led h₀ h led) (R : Rm 3 A) (hx : x.cps.size ≤ 1000) (hy : y.cps.size ≤ 1000)
    (q : ∀ h' tk n, Led h₀ h' led → Q (.int (sg x y) n) ⟨h', g, d, tk, os⟩) : wpAny (model PR w) A (call (.ref 160) [.str x u, .str y v]) Q E ⟨h, g, d, t, os⟩ := by
  refine r_call O D R.room (a := 160) (binds := [("one", .str x u), ("two", .str y v)]) (by rfl) (by rfl) (by rfl) (by rfl) (BindsTo.of_eq (by rfl)) (by decide) (locs rfl) ?_
  intro L h₁ tk E' D1
  refine wpAny_execs_cons (wpAny_For (Call_ (r_builtin (v := .type "range") O D1 (by kernel_rfl) (by kernel_rfl) (PyProof.Rows.callWith_type1 (args_cons (Call_ (r_builtin (v := .builtin "min") O D1 (by kernel_rfl) (by kernel_rfl) (PyProof.Rows.callWith_builtin1
    (args_cons (Call_ (r_builtin (v := .builtin "len") O D1 (by kernel_rfl) (by kernel_rfl) (PyProof.Rows.callWith_builtin1 (args_cons (r_local D1 (by rfl) (args_nil (q_len hx ?_))))))))))))))))
  refine args_cons (Call_ (r_builtin (v := .builtin "len") O D1 (by kernel_rfl) (by kernel_rfl) (PyProof.Rows.callWith_builtin1 (args_cons (r_local D1 (by rfl) (args_nil (q_len hy (args_nil ?_))))))))
  refine q_min D1 R.hd fun h2 t2 n D2 => args_nil (q_range D2 fun r h3 t3 D3 => q_iterRange D3 1 rfl (by have := Nat.min_le_left x.cps.size y.cps.size; have : Nat.min x.cps.size y.cps.size ≤ x.cps.size := this; omega) fun it h4 D4 => ?_)
  have hm1 : Nat.min x.cps.size y.cps.size ≤ x.cps.size := Nat.min_le_left ..
  have hm2 : Nat.min x.cps.size y.cps.size ≤ y.cps.size := Nat.min_le_right ..
  have lx : x.cps.toList.length = x.cps.size := by simp
  have ly : y.cps.toList.length = y.cps.size := by simp
  refine r_forY (nz_range it r _).toNy (fun s : Str → Option Value => s) (fun _ => (r, rgP (Nat.min x.cps.size y.cps.size)) :: led)
    (fun i s => s "one" = some (.str x u) ∧ s "two" = some (.str y v) ∧ x.cps.toList.take i = y.cps.toList.take i) _ R.hd D4 ⟨by rfl, by rfl, by simp⟩ (fun _ _ _ => ⟨0, rfl⟩) ?_ ?_
  · rintro i _ s h5 t5 E5 hi ⟨un, rfl⟩ ⟨j1, j2, j3⟩ D5
    have hix : i < x.cps.toList.length := by omega
    have hiy : i < y.cps.toList.length := by omega
    refine wpAny_assign_Name (r_store D5 fun h6 D6 => ?_)
    refine wpAny_execs_cons (wpAny_If (wpAny_isTrue_Compare1 (PyProof.Rows.Subscript_ (r_local D6 j1 (r_local D6 (by rfl) (q_item hix hx (PyProof.Rows.Subscript_ (r_local D6 j2 (r_local D6 (by rfl) (q_item hiy hy (PyProof.Rows.ne_str (wpAny_truthy_bool ?_))))))))))))
    by_cases hne : x.cps.toList[i] = y.cps.toList[i]
    · rw [show ((⟨#[x.cps.toList[i]]⟩ : Str) != ⟨#[y.cps.toList[i]]⟩) = false by rw [hne]; simp]
      refine wpAny_execs_nil (wpAny_execs_nil ?_)
      refine ⟨_, h6, _, rfl, ?_, D6⟩
      refine ⟨j1, j2, ?_⟩
      rw [List.take_succ_eq_append_getElem hix, List.take_succ_eq_append_getElem hiy, j3, hne]
    · rw [show ((⟨#[x.cps.toList[i]]⟩ : Str) != ⟨#[y.cps.toList[i]]⟩) = true by simpa using hne]
      have hsg := sg_at j3 hix hiy hne
      refine wpAny_execs_cons (wpAny_Return_some (IfExp_ (wpAny_isTrue_Compare1 (Call_ (r_builtin (v := .builtin "ord") O D6 (by kernel_rfl) (by kernel_rfl) (PyProof.Rows.callWith_builtin1 (args_cons (PyProof.Rows.Subscript_ (r_local D6 j1 (r_local D6 (by rfl) (q_item hix hx (args_nil (ord_of_one rfl ?_)))))))))))))
      refine Call_ (r_builtin (v := .builtin "ord") O D6 (by kernel_rfl) (by kernel_rfl) (PyProof.Rows.callWith_builtin1 (args_cons (PyProof.Rows.Subscript_ (r_local D6 j2 (r_local D6 (by rfl) (q_item hiy hy (args_nil (ord_of_one rfl (PyProof.Rows.lt_int (wpAny_truthy_bool ?_)))))))))))
      have D7 : Led h₀ h6 led := D6.sub (.cons _ (.cons _ (.cons _ (List.Sublist.refl _))))
      by_cases hlt : x.cps.toList[i] < y.cps.toList[i]
      · have e1 : decide ((((⟨#[x.cps.toList[i]]⟩ : Str).cps.getD 0 0 : Nat) : Int) < (((⟨#[y.cps.toList[i]]⟩ : Str).cps.getD 0 0 : Nat) : Int)) = true := decide_eq_true (Int.ofNat_lt.mpr hlt)
        rw [e1]
        refine PyProof.Rows.UnaryOp_ (q_int (PySem.P.neg_int ?_))
        rw [hsg, if_pos hlt] at q
        exact q _ _ _ D7
      · have e1 : decide ((((⟨#[x.cps.toList[i]]⟩ : Str).cps.getD 0 0 : Nat) : Int) < (((⟨#[y.cps.toList[i]]⟩ : Str).cps.getD 0 0 : Nat) : Int)) = false := decide_eq_false fun z => hlt (Int.ofNat_lt.mp z)
        rw [e1]
        refine q_int ?_
        rw [hsg, if_neg hlt] at q
        exact q _ _ _ D7
  · intro s h5 t5 ⟨j1, j2, j3⟩ D5
    have D7 : Led h₀ h5 led := D5.sub (.cons _ (.cons _ (List.Sublist.refl _)))
    refine wpAny_execs_cons (wpAny_If (wpAny_isTrue_Compare1 (Call_ (r_builtin (v := .builtin "len") O D5 (by kernel_rfl) (by kernel_rfl) (PyProof.Rows.callWith_builtin1 (args_cons (r_local D5 j1 (args_nil (q_len hx ?_)))))))))
    refine Call_ (r_builtin (v := .builtin "len") O D5 (by kernel_rfl) (by kernel_rfl) (PyProof.Rows.callWith_builtin1 (args_cons (r_local D5 j2 (args_nil (q_len hy (PyProof.Rows.eq_int (wpAny_truthy_bool ?_))))))))
    by_cases he : x.cps.size = y.cps.size
    · rw [show (((x.cps.size : Nat) : Int) == ((y.cps.size : Nat) : Int)) = true by rw [he]; simp]
      refine wpAny_execs_cons (wpAny_Return_some (q_int ?_))
      have e : x = y := by
        have e1 : x.cps.toList = y.cps.toList := by
          rw [← he, show Nat.min x.cps.size x.cps.size = x.cps.size from Nat.min_self _] at j3
          rwa [List.take_of_length_le (by omega), List.take_of_length_le (by omega)] at j3
        rcases x with ⟨a⟩; rcases y with ⟨b⟩
        exact congrArg Str.mk (Array.ext' e1)
      subst e
      rw [sg_eq] at q
      exact q _ _ _ D7
    · rw [show (((x.cps.size : Nat) : Int) == ((y.cps.size : Nat) : Int)) = false by simp; omega]
      refine wpAny_execs_nil ?_
      refine wpAny_execs_cons (wpAny_Return_some (IfExp_ (wpAny_isTrue_Compare1 (Call_ (r_builtin (v := .builtin "len") O D5 (by kernel_rfl) (by kernel_rfl) (PyProof.Rows.callWith_builtin1 (args_cons (r_local D5 j1 (args_nil (q_len hx ?_))))))))))
      refine Call_ (r_builtin (v := .builtin "len") O D5 (by kernel_rfl) (by kernel_rfl) (PyProof.Rows.callWith_builtin1 (args_cons (r_local D5 j2 (args_nil (q_len hy (PyProof.Rows.lt_int (wpAny_truthy_bool ?_))))))))
      by_cases hlt : x.cps.size < y.cps.size
      · rw [show decide (((x.cps.size : Nat) : Int) < ((y.cps.size : Nat) : Int)) = true from decide_eq_true (by omega)]
        refine PyProof.Rows.UnaryOp_ (q_int (PySem.P.neg_int ?_))
        have : SL x y := by
          refine sg_short ?_ (by omega)
          rw [show Nat.min x.cps.size y.cps.size = x.cps.size from Nat.min_eq_left (by omega)] at j3
          rw [lx, ← j3, List.take_of_length_le (by omega)]
        rw [sg_lt this] at q
        exact q _ _ _ D7
      · rw [show decide (((x.cps.size : Nat) : Int) < ((y.cps.size : Nat) : Int)) = false from decide_eq_false (by omega)]
        refine q_int ?_
        have : SL y x := by
          refine sg_short ?_ (by omega)
          rw [show Nat.min x.cps.size y.cps.size = y.cps.size from Nat.min_eq_right (by omega)] at j3
          rw [ly, j3, List.take_of_length_le (by omega)]
        rw [sg_gt this] at q
        exact q _ _ _ D7
end
end Mine
end

section
open PySem PySem.W PyProof.Rows PySem.Calls
namespace Mine
noncomputable def tellG (x y : Str) (G : List GN) : List GN := if SL x y then addG y [x] G else if SL y x then addG x [y] G else G

section
variable {w : World} {h₀ : Heap} {A : Around} {E : Value → Shared → Prop} {h h' : Heap} {g : Array GenState} {d : Drawn} {t : Nat} {os : OsState} {led rest own : List (Addr × OP)} {env : Env} {outer : List Env} {gs : GenState}

/-- _law_is_told(one, two) -/
theorem is_told_ {x y : Str} {u v : Tok} {Q : Value → Shared → Prop} (O : Ok w h₀) (D : Led h₀ h led) (R : Rm 5 A) (hx : x.cps.size ≤ 1000) (hy : y.cps.size ≤ 1000)
    (q : ∀ h' tk, Led h₀ h' led → Q (.bool true) ⟨h', g, d, tk, os⟩) : wpAny (model PR w) A (call (.ref 167) [.str x u, .str y v]) Q E ⟨h, g, d, t, os⟩ := by
  refine r_call O D R.room (a := 167) (binds := [("one", .str x u), ("two", .str y v)]) (by rfl) (by rfl) (by rfl) (by rfl) (BindsTo.of_eq (by rfl)) (by decide) (locs rfl) ?_
  intro L h₁ tk E' D1
  refine wpAny_execs_cons (wpAny_Assign_Name (Call_ (r_global (v := .ref 21) O D1 (by kernel_rfl) (q_call1 O (by kernel_rfl) (args_cons (r_local D1 (by rfl) (args_cons (r_local D1 (by rfl) (args_nil ⟨⟨_, D1⟩, strcoll_ O D1 ((R.deeper _).less) fun h2 t2 n D2 => r_store D2 fun h3 D3 => ?_⟩)))))))))
  refine wpAny_execs_cons (wpAny_Assign_Name (Call_ (r_global (v := .ref 21) O D3 (by kernel_rfl) (q_call1 O (by kernel_rfl) (args_cons (r_local D3 (by rfl) (args_cons (r_local D3 (by rfl) (args_nil ⟨⟨_, D3⟩, strcoll_ O D3 ((R.deeper _).less) fun h4 t4 n4 D4 => r_store D4 fun h5 D5 => ?_⟩)))))))))
  refine wpAny_execs_cons (wpAny_If (isTrue_or (isTrue_plain (Call_ (r_builtin (v := .builtin "isinstance") O D5 (by kernel_rfl) (by kernel_rfl) (PyProof.Rows.callWith_builtin1 (args_cons (r_local D5 (by rfl) (args_cons (r_builtin (v := .type "bool") O D5 (by kernel_rfl) (by kernel_rfl) (args_nil (PySem.IsiPair.int_bool (wpAny_truthy_bool ?_)))))))))))))
  refine isTrue_or (isTrue_plain (Call_ (r_builtin (v := .builtin "isinstance") O D5 (by kernel_rfl) (by kernel_rfl) (PyProof.Rows.callWith_builtin1 (args_cons (r_local D5 (by rfl) (args_cons (r_builtin (v := .type "bool") O D5 (by kernel_rfl) (by kernel_rfl) (args_nil (PySem.IsiPair.int_bool (wpAny_truthy_bool ?_)))))))))))
  refine isTrue_or_nil ?_
  refine wpAny_execs_nil ?_
  refine wpAny_execs_cons (wpAny_Return_some (wpAny_And2 (wpAny_Compare1 (r_local D5 (by rfl) (Call_ (r_global (v := .ref 160) O D5 (by kernel_rfl) (q_call1 O (by kernel_rfl) (args_cons (r_local D5 (by rfl) (args_cons (r_local D5 (by rfl) (args_nil ⟨⟨_, D5⟩, sign_ O D5 ((R.deeper _).less) hx hy fun h6 t6 n6 D6 => PyProof.Rows.eq_int (wpAny_truthy_bool ?_)⟩))))))))))))
  rw [show (sg x y == sg x y) = true by simp]
  refine wpAny_Compare1 (r_local D6 (by rfl) (Call_ (r_global (v := .ref 160) O D6 (by kernel_rfl) (q_call1 O (by kernel_rfl) (args_cons (r_local D6 (by rfl) (args_cons (r_local D6 (by rfl) (args_nil ⟨⟨_, D6⟩, sign_ O D6 ((R.deeper _).less) hy hx fun h7 t7 n7 D7 => PyProof.Rows.eq_int ?_⟩)))))))))
  rw [show (sg y x == sg y x) = true by simp]
  exact q _ _ D7.tail

/-- _law_tell(sorter, one, two) -/
theorem tell_ {S : So} {F : List (Addr × OP)} {x y : Str} {u v : Tok} {B : Nat} {Q : Value → Shared → Prop} (O : Ok w h₀) (R : Rm 8 A) (hr : S.rd = none) (hz : S.nds.length ≤ 800) (hB : SucB B (S.nds.map absN)) (hb : B ≤ 80000)
    (D : Led h₀ h (F ++ (soLed w S ++ rest)))
    (q : ∀ nds' h' tk, nds'.map absN = tellG x y (S.nds.map absN) → Led h₀ h' (F ++ (soLed w { S with nds := nds' } ++ rest)) → Q .none ⟨h', g, d, tk, os⟩) :
    wpAny (model PR w) A (call (.ref 174) [.ref S.a, .str x u, .str y v]) Q E ⟨h, g, d, t, os⟩ := by
  refine r_call O (D.mid F) R.room (a := 174) (binds := [("sorter", .ref S.a), ("one", .str x u), ("two", .str y v)]) (by rfl) (by rfl) (by rfl) (by rfl) (BindsTo.of_eq (by rfl)) (by decide) (locs rfl) ?_
  intro L h₁ tk E' D1
  refine wpAny_execs_cons (wpAny_Assign_Name (Call_ (r_global (v := .ref 21) O D1 (by kernel_rfl) (q_call1 O (by kernel_rfl) (args_cons (r_local D1 (by rfl) (args_cons (r_local D1 (by rfl) (args_nil ⟨⟨_, D1⟩, strcoll_ O D1 ((R.deeper _).less) fun h2 t2 n D2 => r_store D2 fun h3 D3 => ?_⟩)))))))))
  refine wpAny_execs_cons (wpAny_If (wpAny_isTrue_Compare1 (r_local D3 (by rfl) (q_int (PyProof.Rows.lt_int (wpAny_truthy_bool ?_))))))
  rcases SL.tri x y with hxy | rfl | hxy
  · rw [sg_lt hxy]
    rw [show decide ((-1 : Int) < 0) = true by decide]
    refine wpAny_execs_cons (wpAny_Expr (MethodCall_ (r_local D3 (by rfl) (gm O (F := [_]) D3 rfl (f := 94) (by kernel_rfl) (by kernel_rfl) (by kernel_rfl) (by rfl) (q_call1 O (by kernel_rfl)
      (args_cons (Call_ (r_global (v := .ref 28) O D3 (by kernel_rfl) (q_call1 O (by kernel_rfl) (args_cons (r_local D3 (by rfl) (args_nil ⟨⟨_, D3⟩, strxfrm O D3 ((R.deeper _).less) fun h4 t4 D4 => ?_⟩))))))))))))
    refine args_cons (Call_ (r_global (v := .ref 28) O D4 (by kernel_rfl) (q_call1 O (by kernel_rfl) (args_cons (r_local D4 (by rfl) (args_nil ⟨⟨_, D4⟩, strxfrm O D4 ((R.deeper _).less) fun h5 t5 D5 => args_nil ⟨⟨_, D5⟩, ?_⟩⟩))))))
    refine add_ (F := [_]) (us := [x]) O ((R.deeper _).less) rfl hr (by simp; omega) hB (by simp; omega) D5 fun nds' h6 t6 e D6 => ?_
    refine wpAny_execs_nil (wpAny_execs_nil ?_)
    refine q nds' h6 _ ?_ (D6.tail.front F)
    unfold tellG; rw [if_pos hxy]; exact e
  · rw [sg_eq]
    rw [show decide ((0 : Int) < 0) = false by decide]
    refine wpAny_execs_cons (wpAny_If (wpAny_isTrue_Compare1 (r_local D3 (by rfl) (q_int (PySem.P.gt_int (wpAny_truthy_bool ?_))))))
    rw [sg_eq]
    rw [show decide ((0 : Int) > 0) = false by decide]
    refine wpAny_execs_nil (wpAny_execs_nil (wpAny_execs_nil ?_))
    refine q S.nds h3 _ ?_ (D3.tail.front F)
    unfold tellG; rw [if_neg (SL.irr x), if_neg (SL.irr x)]
  · rw [sg_gt hxy]
    rw [show decide ((1 : Int) < 0) = false by decide]
    refine wpAny_execs_cons (wpAny_If (wpAny_isTrue_Compare1 (r_local D3 (by rfl) (q_int (PySem.P.gt_int (wpAny_truthy_bool ?_))))))
    rw [sg_gt hxy]
    rw [show decide ((1 : Int) > 0) = true by decide]
    refine wpAny_execs_cons (wpAny_Expr (MethodCall_ (r_local D3 (by rfl) (gm O (F := [_]) D3 rfl (f := 94) (by kernel_rfl) (by kernel_rfl) (by kernel_rfl) (by rfl) (q_call1 O (by kernel_rfl)
      (args_cons (Call_ (r_global (v := .ref 28) O D3 (by kernel_rfl) (q_call1 O (by kernel_rfl) (args_cons (r_local D3 (by rfl) (args_nil ⟨⟨_, D3⟩, strxfrm O D3 ((R.deeper _).less) fun h4 t4 D4 => ?_⟩))))))))))))
    refine args_cons (Call_ (r_global (v := .ref 28) O D4 (by kernel_rfl) (q_call1 O (by kernel_rfl) (args_cons (r_local D4 (by rfl) (args_nil ⟨⟨_, D4⟩, strxfrm O D4 ((R.deeper _).less) fun h5 t5 D5 => args_nil ⟨⟨_, D5⟩, ?_⟩⟩))))))
    refine add_ (F := [_]) (us := [y]) O ((R.deeper _).less) rfl hr (by simp; omega) hB (by simp; omega) D5 fun nds' h6 t6 e D6 => ?_
    refine wpAny_execs_nil (wpAny_execs_nil (wpAny_execs_nil ?_))
    refine q nds' h6 _ ?_ (D6.tail.front F)
    unfold tellG; rw [if_neg hxy.asym, if_pos hxy]; exact e
end
end Mine
end

section
open PySem PySem.W PyProof.Rows PySem.Calls
namespace Mine
section
variable {w : World} {h₀ : Heap} {A : Around} {E : Value → Shared → Prop} {h h' : Heap} {g : Array GenState} {d : Drawn} {t : Nat} {os : OsState} {led rest own : List (Addr × OP)} {env : Env} {outer : List Env} {gs : GenState}

/-- a cell -/
noncomputable def ceP (v : Option Value) : OP := fun o => o.data = .cell v
noncomputable def cellLed (cs : List (Str × Addr)) (cm : Str → Option Value) : List (Addr × OP) := cs.map fun p => (p.2, ceP (cm p.1))

/-- new cells, all above what there was -/
theorem Led.cells {led : List (Addr × OP)} {h₁ : Heap} {cs : List (Str × Addr)} {cm : Str → Option Value} (D : Led h₀ h led) (hk : ∀ b o, h.get? b = some o → h₁.get? b = some o)
    (hc : ∀ p ∈ cs, h₁.IsCell p.2 (cm p.1)) (ap : cs.Pairwise fun x y => x.2 ≠ y.2) (ab : ∀ p ∈ cs, h.objs.size ≤ p.2) : Led h₀ h₁ (cellLed cs cm ++ led) := by
  have Dk := D.grow hk
  have hlt : ∀ q ∈ led, q.1 < h.objs.size := fun q hq => by
    obtain ⟨_, o, ho, _⟩ := D.has q hq; exact Heap.lt_size ho
  refine ⟨Dk.keep, ?_, ?_, D.base, ?_⟩
  · rw [List.map_append, List.nodup_append]
    refine ⟨?_, D.nd, ?_⟩
    · unfold cellLed
      rw [List.map_map]
      exact List.pairwise_map.mpr ap
    · intro a ha b hb e
      subst e
      obtain ⟨p, hp, rfl⟩ := List.mem_map.mp ha
      obtain ⟨r, hr, rfl⟩ := List.mem_map.mp hp
      obtain ⟨q, hq, e⟩ := List.mem_map.mp hb
      have h1 := ab r hr
      have h2 := hlt q hq
      have e' : q.1 = r.2 := e
      rw [e'] at h2
      exact Nat.not_lt.mpr h1 h2
  · intro p hp
    rcases List.mem_append.mp hp with hp | hp
    · obtain ⟨r, hr, rfl⟩ := List.mem_map.mp hp
      refine ⟨?_, hc r hr⟩
      cases q : h₀.get? r.2 with
      | none => rfl
      | some o => exact absurd (Heap.lt_size (D.keep _ _ q)) (Nat.not_lt.mpr (ab r hr))
    · exact Dk.has p hp
  · intro p hp
    rcases List.mem_append.mp hp with hp | hp
    · obtain ⟨r, hr, rfl⟩ := List.mem_map.mp hp
      exact Nat.lt_of_lt_of_le D.size (ab r hr)
    · exact D.high p hp

theorem lookup_mem_nodup {cs : List (Str × Addr)} (hn : (cs.map (·.1)).Nodup) : ∀ p ∈ cs, cs.lookup p.1 = some p.2 := by
  induction cs with
  | nil => intro p hp; cases hp
  | cons a r ih =>
    obtain ⟨a1, a2⟩ := a
    rw [List.map_cons, List.nodup_cons] at hn
    rintro ⟨p1, p2⟩ hp
    rw [List.lookup_cons]
    rcases List.mem_cons.mp hp with e | hp
    · obtain ⟨rfl, rfl⟩ := Prod.mk.inj e
      simp
    · have : p1 ≠ a1 := fun e => hn.1 (e ▸ List.mem_map.mpr ⟨(p1, p2), hp, rfl⟩)
      have hb : (p1 == a1) = false := by simpa using this
      simp only [hb]
      exact ih hn.2 (p1, p2) hp

/-- a call of a def with cells -/
theorem r_callC {fd : FuncData} {a : Addr} {o : Obj} {body : List Stmt} {args : List Value} {binds : List (Str × Value)} {Q : Value → Shared → Prop}
    (O : Ok w h₀) (D : Led h₀ h led) (hroom : A.depth < recursionLimit) (ho : (KK w).lookup a = some o) (hdata : o.data = .func fd) (hcd : codeIn (KK w) fd.code fd.qualname = true)
    (hbody : fd.body = .stmts body) (hbind : bindArgs fd ⟨args, []⟩ = pure binds) (hclo : fd.closure = [])
    (hnd : ∀ L, ((cellsFrom (L + 1) fd.scope.names []).map (·.1)).Nodup)
    (hkind : ∀ L, ∀ x ∈ binds, fd.scope.names.lookup x.1 = some .local ∨ (fd.scope.names.lookup x.1 = some .cell ∧ ((cellsFrom (L + 1) fd.scope.names []).lookup x.1).isSome = true))
    (q : ∀ L h₁ tk E', Led h₀ h₁ ((L, nsP (bindL (callEnvC fd L a).kindOf binds fun _ => none)) :: (cellLed (cellsFrom (L + 1) fd.scope.names []) (bindC (callEnvC fd L a).kindOf binds fun _ => none) ++ led)) →
      wpAny (model PR w) (A.deeper (callEnvC fd L a)) (execs body (callEnvC fd L a)) (fun f s' => Q (match f with | .ret v => v | _ => .none) s') E' ⟨h₁, g, d, tk, os⟩)
    (hco : fd.scope.isCoroutine = false := by rfl) (hgen : fd.scope.isGenerator = false := by rfl) (hk : fd.scope.kind = .function := by rfl) :
    wpAny (model PR w) A (call (.ref a) args) Q E ⟨h, g, d, t, os⟩ := by
  have X := O.kin D
  refine wpAny_call (codeAny_call_cells hroom (X _ _ ho) hdata (O.lim.keeps D.keep) (codeRec_of X hcd) hbody hbind hclo (hkind _) (fun s₁ x => ?_) hco hgen hk)
  obtain ⟨⟨⟨h₁, tk, rfl⟩, ns, keep, fresh⟩, cell, apart, above⟩ := x
  refine q h.objs.size h₁ tk _ ?_
  have D1 := D.cells (cm := bindC (callEnvC fd h.objs.size a).kindOf binds fun _ => none) keep (fun p hp => cell p.1 p.2 (lookup_mem_nodup (hnd _) p hp)) apart (fun p hp => Nat.le_of_lt (above p.1 p.2 hp))
  have hns : ∃ o, h₁.get? h.objs.size = some o ∧ nsP (bindL (callEnvC fd h.objs.size a).kindOf binds fun _ => none) o := ns_has ns
  refine ⟨D1.keep, ?_, ?_, D1.base, ?_⟩
  · rw [List.map_cons, List.nodup_cons]
    refine ⟨?_, D1.nd⟩
    intro hm
    rw [List.map_append] at hm
    rcases List.mem_append.mp hm with hm | hm
    · obtain ⟨p, hp, e⟩ := List.mem_map.mp hm
      obtain ⟨r, hr, rfl⟩ := List.mem_map.mp hp
      have h1 : h.objs.size < r.2 := above r.1 r.2 hr
      have e' : r.2 = h.objs.size := e
      rw [e'] at h1
      exact Nat.lt_irrefl _ h1
    · exact D.notin hm
  · intro p hp
    rcases List.mem_cons.mp hp with rfl | hp
    · exact ⟨D.fresh, hns⟩
    · exact D1.has p hp
  · intro p hp
    rcases List.mem_cons.mp hp with rfl | hp
    · exact D.size
    · exact D1.high p hp

/-- a name that is a cell: read, written -/
theorem r_cell {x : Str} {pos : Pos} {c : Addr} {v : Value} {Q : Value → Shared → Prop} (D : Led h₀ h led) (i : Nat) (hi : led[i]? = some (c, ceP (some v))) (q : Q v ⟨h, g, d, t, os⟩)
    (hc : env.cells.lookup x = some c := by rfl) (hk : env.scope.kind = .function := by rfl) (hl : env.kindOf x = some .cell := by rfl) (hd : (x == ("__debug__" : Str)) = false := by decide) :
    wpAny (model PR w) A (eval (.Name x pos) env) Q E ⟨h, g, d, t, os⟩ := by
  obtain ⟨o, ho, hv⟩ := D.at i hi
  exact wpAny_Name (wpAny_loadName_cell hk hl hc ⟨o, ho, hv⟩ q) hd
theorem r_storeC {x : Str} {c : Addr} {v₀ : Option Value} {v : Value} {Q : Unit → Shared → Prop} (D : Led h₀ h led) (i : Nat) (hi : led[i]? = some (c, ceP v₀))
    (q : ∀ h', Led h₀ h' (led.set i (c, ceP (some v))) → Q () ⟨h', g, d, t, os⟩)
    (hc : env.cells.lookup x = some c := by rfl) (hk : env.scope.kind = .function := by rfl) (hl : env.kindOf x = some .cell := by rfl) :
    wpAny (model PR w) A (storeName env x v) Q E ⟨h, g, d, t, os⟩ := by
  obtain ⟨o, ho, hv⟩ := D.at i hi
  exact wpAny_storeName_cell hk hl hc ⟨o, ho, hv⟩ fun h' hc' hs => q h' (D.updI i hi hs hc')
end
end Mine
end

section
open PySem PySem.W PyProof.Rows PySem.Calls
namespace Mine
theorem tx_vals : ∀ {vs : List Value} {xs : List Str}, TX vs xs → ∃ l : List (Str × Tok), vs = strValues l ∧ l.map (·.1) = xs
  | [], [], _ => ⟨[], rfl, rfl⟩
  | [], _ :: _, h => by have := h.len; simp at this
  | _ :: _, [], h => by have := h.len; simp at this
  | v :: vs, x :: xs, h => by
    unfold TX at h
    rw [List.map_cons, List.map_cons] at h
    obtain ⟨h1, h2⟩ := List.cons.inj h
    obtain ⟨t, rfl⟩ := txt_some h1
    obtain ⟨l, rfl, rfl⟩ := tx_vals (vs := vs) (xs := xs) h2
    exact ⟨(x, t) :: l, rfl, rfl⟩

section
variable {w : World} {h₀ : Heap} {A : Around} {E : Value → Shared → Prop} {h h' : Heap} {g : Array GenState} {d : Drawn} {t : Nat} {os : OsState} {led rest own : List (Addr × OP)} {env : Env} {outer : List Env} {gs : GenState}

theorem nz_tup (it T : Addr) (vs : List Value) : Nz w it (tiP T) (T, tpP vs) vs.length (fun i v => vs[i]? = some v) where
  item i k hi D hk q := (nx_tup it T vs).item i k vs[i] (by simp [hi]) D hk fun h' D' => q _ h' _ (by simp [hi]) D'
  stop k hh D hk q := (nx_tup it T vs).stop vs.length k hh (by simp) D hk q
  self D q := by
    obtain ⟨o, ho, hc, hd⟩ := D.hd
    exact wpAny_pyIter_tupleiter (t := T) (i := 0) ⟨o, ho, hc, hd⟩ q
theorem q_newTuple {vs : List Value} {f : Addr × OP} {Q : Value → Shared → Prop} (D : Led h₀ h (f :: led)) (hz : vs.length ≤ 1000) (q : ∀ T h', Led h₀ h' (f :: (T, tpP vs) :: led) → Q (.ref T) ⟨h', g, d, t, os⟩) :
    wpAny (model PR w) A (newTuple vs) Q E ⟨h, g, d, t, os⟩ :=
  wpAny_newObj_type (q _ _ (D.new1 _ ⟨0, rfl⟩)) (by show vs.toArray.size ≤ sizeLine; rw [List.size_toArray, sizeLine_eq]; omega)

theorem join_fold (ys : List Str) (a : Nat) : (ys.toArray.foldl (fun b (s : Str) => b + s.length + ("" : Str).length) a) = a + (ys.map (·.length)).sum := by
  rw [List.foldl_toArray]
  induction ys generalizing a with
  | nil => simp
  | cons y r ih => rw [List.foldl_cons, ih, List.map_cons, List.sum_cons]; have : ("" : Str).length = 0 := rfl; omega
theorem size_join (ys : List Str) : (Builtin.Str.glued ("" : Str) ys).cps.size = (ys.map (·.length)).sum := by
  have := size_glued ("" : Str) ys
  rw [show ("" : Str).length = 0 from rfl, Nat.mul_zero, Nat.add_zero] at this
  exact this
theorem q_sliceS {value slice : Expr} {X : Str} {u uk : Tok} {k : Int} {Q : Value → Shared → Prop} (hX : X.cps.size ≤ 3) (D : Led h₀ h led) (q : ∀ (x : Str) v h' tk, x.cps.size ≤ 3 → Led h₀ h' led → Q (.str x v) ⟨h', g, d, tk, os⟩)
    (hs : subscripted slice false (.str X u) (.ref h.objs.size) = operate [.ref h.objs.size, .str X u] (getItem (.str X u) (.ref h.objs.size)))
    (ht : ∀ r, letTemporaryGo value (.str X u) r = pure ()) :
    wpAny (model PR w) A (subscriptTail value slice (.str X u) (.ref h.objs.size)) Q E ⟨h.push { cls := .type "slice", data := .fields #[.none, .int k uk, .none] }, g, d, t, os⟩ := by
  refine tail_of_ItemOn ⟨"str", _, PySem.F.slot_str_getitem.lookup, typeIs_str _ _ _, wpAny_getItem_str_slice (l := none) (u := some (k, uk)) (st := none) ⟨_, Heap.get?_push_size _ rfl, rfl, rfl⟩ rfl ?_⟩ hs ht
  unfold sliceMade
  split
  · exact q X u _ _ hX (D.push' _)
  · have hle : (List.filterMap (fun x => X.cps[x]?) (slicePicked X none (some (k, uk)) none)).toArray.size ≤ 3 := by
      rw [List.size_toArray]
      refine Nat.le_trans (List.length_filterMap_le _ _) ?_
      exact Nat.le_trans (sliceIndices_le _ _ _) hX
    exact ⟨Nat.le_trans hle (by rw [sizeLine_eq]; decide), q _ _ _ _ hle (D.push' _)⟩

set_option maxHeartbeats 8000000 in
/-- _law_text(figure): some text, and short -/
theorem text_ {n : Int} {u : Tok} {Q : Value → Shared → Prop} (O : Ok w h₀) (D : Led h₀ h led) (R : Rm 2 A) (h0 : 0 ≤ n) (hn : n < 1000000)
    (q : ∀ (x : Str) v h' tk, x.cps.size ≤ 3 → Led h₀ h' led → Q (.str x v) ⟨h', g, d, tk, os⟩) : wpAny (model PR w) A (call (.ref 153) [.int n u]) Q E ⟨h, g, d, t, os⟩ := by
  refine r_callC O D R.room (a := 153) (binds := [("figure", .int n u)]) (by rfl) (by rfl) (by rfl) (by rfl) (by rfl) (by rfl) (fun L => by show ([("signs" : Str), "figure"] : List Str).Nodup; decide) (fun L x hx => .inr ?_) ?_
  · obtain rfl := List.mem_singleton.mp hx
    exact ⟨by rfl, by rfl⟩
  intro L h₁ tk E' D1
  refine wpAny_execs_cons (wpAny_Assign_Name (q_str (r_storeC D1 1 rfl fun h2 D2 => ?_)))
  refine wpAny_execs_cons (wpAny_Return_some (PyProof.Rows.Subscript_ (wpAny_Call_method (by rfl) (by rfl) (by rfl) PySem.F.plainAttrs_str PySem.F.slot_str_join PySem.F.type_str_join (q_str ⟨typeIs_str _ _ _, (by intro a e; cases e), ?_⟩))))
  refine callWith_method1 (args_cons (r_listComp (cl := [("signs", L + 1 + 1), ("figure", L + 1)]) (by rfl) (by rfl) (by decide) (PyProof.Rows.Tuple_ (args_cons (q_int (args_cons (q_int (args_cons (q_int (args_nil (q_newTuple D2 (by simp) fun T h3 D3 => q_iterTup D3 1 rfl fun it h4 D4 => ?_)))))))))))
  refine r_comp (nz_tup it T _) (fun s : List Value => s) (fun _ => (L, nsP _) :: (T, tpP _) :: (L + 1 + 1, ceP (some (.str _ _))) :: (L + 1, ceP (some (.int n u))) :: led)
    (fun i s => i ≤ 3 ∧ ∃ xs : List Str, TX s xs ∧ xs.length ≤ i ∧ ∀ x ∈ xs, x.cps.size = 1) [] R.hd (by decide) (by rfl) D4.swap rfl ⟨by decide, [], rfl, Nat.le_refl _, by simp⟩ (fun _ _ _ => ⟨1, rfl⟩) ?_ ?_ ?_
  · rintro i s ⟨hi, xs, tx, hl, _⟩
    have h1 := tx.len
    rw [h1]
    refine Nat.le_trans (m := 3) ?_ (by decide)
    exact Nat.le_trans hl hi
  · rintro C a i v s m h5 t5 E5 hi hv ⟨hi3, xs, tx, hl, hx⟩ D5
    have hv' := List.mem_of_getElem? hv
    obtain ⟨sz, us, rfl, hsz⟩ : ∃ (sz : Int) (us : Tok), v = .int sz us ∧ 0 < sz ∧ sz < 1000 := by
      simp only [List.mem_cons, List.not_mem_nil, or_false] at hv'
      rcases hv' with rfl | rfl | rfl
      · exact ⟨_, _, rfl, by decide, by decide⟩
      · exact ⟨_, _, rfl, by decide, by decide⟩
      · exact ⟨_, _, rfl, by decide, by decide⟩
    refine wpAny_assign_Name (r_store D5 fun h6 D6 => ?_)
    refine wpAny_tests_nil ?_
    rw [if_pos rfl]
    refine PyProof.Rows.Subscript_ (r_cell D6 5 rfl (wpAny_BinOp (wpAny_BinOp (r_cell D6 6 rfl (r_local D6 (by rfl) ?_)))))
    refine PyProof.Rows.floordiv_int (by omega) ?_ (Or.inl (PyProof.noPylong_small (by omega)))
    refine q_int (PyProof.Rows.mod_int (by decide) ?_)
    obtain ⟨k, hk, hk6⟩ : ∃ k : Nat, (n.fdiv sz).fmod 6 = (k : Int) ∧ k < 6 := by
      have e : (n.fdiv sz).fmod 6 = (n.fdiv sz) % 6 := Int.fmod_eq_emod_of_nonneg _ (by decide)
      exact ⟨((n.fdiv sz).fmod 6).toNat, by omega, by omega⟩
    rw [hk]
    have h6' : ("aAbB é" : Str).cps.toList.length = 6 := by decide +kernel
    refine q_item (by rw [h6']; exact hk6) (by decide +kernel) ?_
    refine ⟨s ++ [_], h6, _, _, rfl, ?_, rfl, D6⟩
    refine ⟨hi, xs ++ [_], tx.snoc _ _, by simp; omega, ?_⟩
    intro x hx'
    rcases List.mem_append.mp hx' with hx' | hx'
    · exact hx x hx'
    · obtain rfl := List.mem_singleton.mp hx'; rfl
  · rintro s a h5 t5 ⟨_, xs, tx, hl, hx⟩ D5
    obtain ⟨l, rfl, rfl⟩ := tx_vals tx
    obtain ⟨o, ho, nn, rfl⟩ := D5.hd
    have hsum : ((l.map (·.1)).map (·.length)).sum ≤ 3 := by
      have : ∀ ys : List Str, (∀ x ∈ ys, x.cps.size = 1) → (ys.map (·.length)).sum = ys.length := by
        intro ys
        induction ys with
        | nil => intro _; rfl
        | cons y r ih =>
          intro hy
          have h1 : y.length = 1 := hy y (.head _)
          rw [List.map_cons, List.sum_cons, ih fun x hx => hy x (.tail _ hx), h1, List.length_cons]; omega
      rw [this _ hx]
      exact hl
    refine args_nil (call_meets PySem.F.slot_str_join (typeIs_str _ _ _) PySem.F.entry_str_join (PySem.F.args_str_join_2 _ _) (meets_str_join_list _ _ a l ?_) ⟨⟨_, ho, rfl, nn, rfl⟩, ?_⟩)
    · unfold Builtin.Str.tooLong
      rw [show ((l.map (·.1)).toArray.foldl (fun b (s : Str) => b + s.length + ("" : Str).length) 0) = 0 + ((l.map (·.1)).map (·.length)).sum from join_fold _ 0, sizeLine_eq]
      simp only [decide_eq_false_iff_not]
      omega
    have hsz : (Builtin.Str.glued ("" : Str) (l.map (·.1))).cps.size ≤ 3 := by rw [size_join]; exact hsum
    have hsz1 : ∀ p : Str × Tok, l = [p] → p.1.cps.size ≤ 3 := fun p e => by have := hx p.1 (by rw [e]; simp); omega
    have fin : ∀ (Q' : Value → Shared → Prop), (∀ X tok tt, X.cps.size ≤ 3 → Q' (.str X tok) ⟨h5, g, d, tt, os⟩) → (joinMade ("" : Str) l).post Q' ⟨h5, g, d, t5, os⟩ := by
      intro Q' hq
      rcases l with _ | ⟨p, _ | ⟨p2, r⟩⟩
      · exact ⟨Nat.le_trans hsz (by rw [sizeLine_eq]; decide), hq _ _ _ hsz⟩
      · exact hq _ _ _ (hsz1 _ rfl)
      · exact ⟨Nat.le_trans hsz (by rw [sizeLine_eq]; decide), hq _ _ _ hsz⟩
    refine fin _ fun X tok tt hX => ?_
    show wpAny (model PR w) _ (eval _ _) _ _ ⟨h5, g, d, _, os⟩
    refine wpAny_Slice (evalPart_none_step (evalPart_some_step (wpAny_BinOp (r_cell D5 4 rfl (q_int (PyProof.Rows.mod_int (by decide) (evalPart_none_step ?_)))))))
    exact q_sliceS hX (D5.sub (List.sublist_append_right [_, _, _, _, _] _)) q (by with_unfolding_all rfl) (by intro _; with_unfolding_all rfl)
end
end Mine
end

section
open PySem PySem.W PyProof.Rows PySem.Calls
namespace Mine
section
variable {w : World} {h₀ : Heap} {A : Around} {E : Value → Shared → Prop} {h h' : Heap} {g : Array GenState} {d : Drawn} {t : Nat} {os : OsState} {led rest own : List (Addr × OP)} {env : Env} {outer : List Env} {gs : GenState}

/-- pull the next item and bind it: what both loops do first -/
noncomputable def draw (w : World) (A : Around) (target : Expr) (it : Value) (env : Env) (Q : Unit → Shared → Prop) (N : Shared → Prop) (E : Value → Shared → Prop) (s : Shared) : Prop :=
  wpAny (model PR w) A (pyNext it) (fun r s₁ => match r with
    | none => N s₁
    | some v => wpAny (model PR w) A (letOwnedTupleGo target it v) (fun _ s₁' => wpAny (model PR w) A (assign target env v) Q E s₁') E s₁) E s

theorem hideD {target : Expr} {it : Value} {Q : Unit → Shared → Prop} {N : Shared → Prop} {s : Shared} (k : ∀ (K : Unit → Shared → Prop) (N' : Shared → Prop) (E' : Value → Shared → Prop), (∀ a s', Q a s' → K a s') → (∀ s', N s' → N' s') → draw w A target it env K N' E' s) : draw w A target it env Q N E s := k Q N E (fun _ _ z => z) fun _ z => z

theorem codeAny_compLoop_G {R : Result → Shared → Prop} {elt target iter : Expr} {ifs : List Expr} {scope : Scope} {pos : Pos} {it acc : Value} {env : Env} {s : Shared} (I : Nat → Shared → Prop)
    (turn : ∀ n s, I n s → draw w A target it env (fun _ s₂ =>
          wpAny (model PR w) A (forIn ifs true fun c r => if r = true then do let ok ← isTrue c env (eval c env); pure (ForInStep.yield ok) else pure (ForInStep.yield r)) (fun ok s₃ =>
            if ok = true then wpAny (model PR w) A (eval elt env) (fun x s₄ =>
              wpAny (model PR w) A (call (.builtin "list.append") [acc, x]) (fun _ s₅ => ∃ m, m < n ∧ I m s₅) (notedBy (model PR w) A env fun e s' => R (.error e) s') s₄) (notedBy (model PR w) A env fun e s' => R (.error e) s') s₃
            else ∃ m, m < n ∧ I m s₃) (notedBy (model PR w) A env fun e s' => R (.error e) s') s₂) (fun s₁ => R (.ok .next) s₁) (notedBy (model PR w) A env fun e s' => R (.error e) s') s)
    (n : Nat) (h : I n s) :
    codeAny (model PR w) A (.compLoop (.ListComp elt [⟨target, iter, ifs, 0⟩] scope pos) 0 it acc env) R s := by
  refine codeAny_loop rfl I (fun n s hI => ?_) n h
  show wpAny _ A ((compTurn (.ListComp elt [⟨target, iter, ifs, 0⟩] scope pos) 0 it acc env).onRaise (fun x => do noteFrame x env; theTreesLotGoes x)) _ _ s
  refine wpAny_noted ?_
  rw [compTurn_list]
  refine wpAny_bind (wpAny_standAt (wpAny_bind (wpAny_mono (turn n s hI) (fun r s₁ h₁ => ?_) fun _ _ h' => h')))
  cases r with
  | none => exact wpAny_pure h₁
  | some v =>
    refine wpAny_bind (wpAny_mono h₁ (fun _ s₁' h₁' => ?_) fun _ _ h' => h')
    refine wpAny_bind (wpAny_mono h₁' (fun _ s₂ h₂ => wpAny_bind (wpAny_mono h₂ (fun ok s₃ h₃ => ?_) fun _ _ h' => h')) fun _ _ h' => h')
    cases ok with
    | false => exact wpAny_pure ⟨rfl, h₃⟩
    | true =>
      exact wpAny_bind (wpAny_bind (wpAny_mono h₃ (fun x s₄ h₄ => wpAny_bind (wpAny_mono h₄ (fun _ s₅ h₅ => wpAny_pure (wpAny_pure ⟨rfl, h₅⟩)) fun _ _ h' => h')) fun _ _ h' => h'))

/-- a for loop over whatever can be drawn from -/
theorem r_forD {σ : Type} {it : Value} {n : Nat} {target : Expr} {body : List Stmt} {env : Env} {R : Result → Shared → Prop}
    (fr : σ → Str → Option Value) (ledf : Nat → σ → List (Addr × OP)) (ledE : σ → List (Addr × OP)) (J : Nat → σ → Prop) (JB : Nat → σ → (Str → Option Value) → Prop) (σ₀ : σ)
    (D : Led h₀ h ((env.locals, nsP (fr σ₀)) :: ledf 0 σ₀)) (j0 : J 0 σ₀)
    (item : ∀ i s h t E Q N, i < n → J i s → Led h₀ h ((env.locals, nsP (fr s)) :: ledf i s) → (∀ m h' t', JB i s m → Led h₀ h' ((env.locals, nsP m) :: ledf (i + 1) s) → Q () ⟨h', g, d, t', os⟩) → draw w A target it env Q N E ⟨h, g, d, t, os⟩)
    (stop : ∀ s h t E Q N, J n s → Led h₀ h ((env.locals, nsP (fr s)) :: ledf n s) → (∀ h' t', Led h₀ h' ((env.locals, nsP (fr s)) :: ledE s) → N ⟨h', g, d, t', os⟩) → draw w A target it env Q N E ⟨h, g, d, t, os⟩)
    (turn : ∀ i s m h t E, i < n → J i s → JB i s m → Led h₀ h ((env.locals, nsP m) :: ledf (i + 1) s) →
      wpAny (model PR w) A (execs body env) (fun f s₃ => match f with
        | .next | .cont => ∃ s' h' t', s₃ = ⟨h', g, d, t', os⟩ ∧ J (i + 1) s' ∧ Led h₀ h' ((env.locals, nsP (fr s')) :: ledf (i + 1) s')
        | .brk => R (.ok .next) s₃
        | .ret v => R (.ok (.ret v)) s₃) E ⟨h, g, d, t, os⟩)
    (fin : ∀ s h t, J n s → Led h₀ h ((env.locals, nsP (fr s)) :: ledE s) → R (.ok .next) ⟨h, g, d, t, os⟩) :
    codeAny (model PR w) A (.forLoop target it body [] env) R ⟨h, g, d, t, os⟩ := by
  refine codeAny_forLoop_any (fun k s => ∃ i st h' t', k + i = n ∧ s = ⟨h', g, d, t', os⟩ ∧ J i st ∧ Led h₀ h' ((env.locals, nsP (fr st)) :: ledf i st)) ?_ n ⟨0, σ₀, h, t, rfl, rfl, j0, D⟩
  rintro k s ⟨i, st, h', t', e, rfl, j, D'⟩
  cases k with
  | zero =>
    have e' : i = n := by omega
    subst e'
    exact stop st h' t' _ _ _ j D' fun h2 t2 D2 => wpAny_execs_nil (fin st h2 t2 j D2)
  | succ k =>
    have hi : i < n := by omega
    refine item i st h' t' _ _ _ hi j D' fun m h2 t2 jb D2 => ?_
    refine wpAny_mono (turn i st m h2 t2 _ hi j jb D2) (fun f s₃ h₃ => ?_) fun _ _ z => z
    cases f with
    | next => obtain ⟨s', h', t', e3, j', D3⟩ := h₃; exact ⟨k, by omega, i + 1, s', h', t', by omega, e3, j', D3⟩
    | cont => obtain ⟨s', h', t', e3, j', D3⟩ := h₃; exact ⟨k, by omega, i + 1, s', h', t', by omega, e3, j', D3⟩
    | brk => exact h₃
    | ret v => exact h₃

/-- enumerate(list of texts) -/
noncomputable def enP (it i : Nat) : OP := fun o => ∃ old, o = { cls := .type "enumerate", dict := none, data := .fields #[.none, .bool false, .ref it, rawInt i, .none, old], slots := #[] }
theorem q_enum {l : Addr} {xs : List Str} {f : Addr × OP} {Q : Value → Shared → Prop} (D : Led h₀ h (f :: led)) (hm : (l, stP xs) ∈ f :: led)
    (q : ∀ e it h', Led h₀ h' (f :: (e, enP it 0) :: (it, liP l 0) :: led) → Q (.ref e) ⟨h', g, d, t, os⟩) : wpAny (model PR w) A (call (.type "enumerate") [.ref l]) Q E ⟨h, g, d, t, os⟩ := by
  obtain ⟨o, ho, vs, ⟨n, rfl⟩, tx⟩ := D.get hm
  refine call_enumerate_1 ho fun h' he hit hz hk => q _ h.objs.size h' ?_
  have D' := D.grow hk
  have hlt : ∀ p ∈ f :: led, p.1 < h.objs.size := fun p hp => by
    obtain ⟨_, o, ho, _⟩ := D.has p hp; exact Heap.lt_size ho
  obtain ⟨oi, hoi, hci, hdi⟩ := hit
  have D1 : Led h₀ h' ((h.objs.size, liP l 0) :: f :: led) := by
    refine ⟨D'.keep, ?_, ?_, D'.base, ?_⟩
    · rw [List.map_cons, List.nodup_cons]; exact ⟨D.notin, D.nd⟩
    · intro p hp
      rcases List.mem_cons.mp hp with rfl | hp
      · exact ⟨D.fresh, oi, hoi, hci, hdi⟩
      · exact D'.has p hp
    · intro p hp
      rcases List.mem_cons.mp hp with rfl | hp
      · exact D.size
      · exact D'.high p hp
  have D2 : Led h₀ h' ((h.objs.size + 1, enP h.objs.size 0) :: (h.objs.size, liP l 0) :: f :: led) := by
    refine ⟨D'.keep, ?_, ?_, D'.base, ?_⟩
    · rw [List.map_cons, List.nodup_cons]
      refine ⟨?_, D1.nd⟩
      intro hm
      obtain ⟨p, hp, e⟩ := List.mem_map.mp hm
      have e' : p.1 = h.objs.size + 1 := e
      rcases List.mem_cons.mp hp with rfl | hp
      · exact absurd e' (Nat.ne_of_lt (Nat.lt_succ_self _))
      · have := hlt p hp
        rw [e'] at this
        exact absurd this (Nat.not_lt.mpr (Nat.le_succ _))
    · intro p hp
      rcases List.mem_cons.mp hp with rfl | hp
      · refine ⟨?_, _, he, _, rfl⟩
        cases q : h₀.get? (h.objs.size + 1) with
        | none => rfl
        | some o => exact absurd (Heap.lt_size (D.keep _ _ q)) (Nat.not_lt.mpr (Nat.le_succ _))
      · exact D1.has p hp
    · intro p hp
      rcases List.mem_cons.mp hp with rfl | hp
      · exact Nat.lt_succ_of_lt D.size
      · exact D1.high p hp
  have D3 : Led h₀ h' (f :: (h.objs.size + 1, enP h.objs.size 0) :: (h.objs.size, liP l 0) :: led) := D2.pick 2 rfl
  exact D3
end
end Mine
end

section
open PySem PySem.W PyProof.Rows PySem.Calls
namespace Mine
section
variable {w : World} {h₀ : Heap} {A : Around} {E : Value → Shared → Prop} {h h' : Heap} {g : Array GenState} {d : Drawn} {t : Nat} {os : OsState} {led rest own : List (Addr × OP)} {env : Env} {outer : List Env} {gs : GenState}

theorem Led.upd2 {a b : Addr} {P P' P2 P2' : OP} (D : Led h₀ h ((a, P) :: (b, P2) :: led)) (hk : ∀ c o, c ≠ a → c ≠ b → h.get? c = some o → h'.get? c = some o) (ha : ∃ o, h'.get? a = some o ∧ P' o) (hb : ∃ o, h'.get? b = some o ∧ P2' o) :
    Led h₀ h' ((a, P') :: (b, P2') :: led) := by
  have nd := D.nd
  simp only [List.map_cons, List.nodup_cons, List.mem_cons, not_or] at nd
  refine ⟨fun c o e => hk c o ?_ ?_ (D.keep c o e), by simp only [List.map_cons, List.nodup_cons, List.mem_cons, not_or]; exact nd, ?_, D.base, ?_⟩
  · rintro rfl; rw [D.new (.head _)] at e; cases e
  · rintro rfl; rw [D.new (.tail _ (.head _))] at e; cases e
  · intro p hp
    rcases List.mem_cons.mp hp with rfl | hp
    · exact ⟨D.new (.head _), ha⟩
    rcases List.mem_cons.mp hp with rfl | hp
    · exact ⟨D.new (.tail _ (.head _)), hb⟩
    · obtain ⟨h1, o, h2, h3⟩ := D.has p (.tail _ (.tail _ hp))
      refine ⟨h1, o, hk _ _ ?_ ?_ h2, h3⟩
      · intro e; exact nd.1.2 (List.mem_map.mpr ⟨p, hp, e⟩)
      · intro e; exact nd.2.1 (List.mem_map.mpr ⟨p, hp, e⟩)
  · intro p hp
    rcases List.mem_cons.mp hp with rfl | hp
    · exact D.up (.head _)
    rcases List.mem_cons.mp hp with rfl | hp
    · exact D.up (.tail _ (.head _))
    · exact D.high p (.tail _ (.tail _ hp))

theorem q_unpack2 {a b : Str} {pa pb p : Pos} {k : Nat} {T : Addr} {v1 v2 : Value} {m : Str → Option Value} {Q : Unit → Shared → Prop} (hA : A.handled = none) (D : Led h₀ h ((env.locals, nsP m) :: led)) (hT : h.IsTuple T #[v1, v2])
    (q : ∀ h' t', Led h₀ h' ((env.locals, nsP (fun y => if y = b then some v2 else if y = a then some v1 else m y)) :: led) → Q () ⟨h', g, d, t', os⟩)
    (hk : env.scope.kind = .function := by rfl) (ha : env.kindOf a = some .local := by rfl) (hb : env.kindOf b = some .local := by rfl) :
    wpAny (model PR w) A (assign (.Tuple [.Name a pa, .Name b pb] k p) env (.ref T)) Q E ⟨h, g, d, t, os⟩ := by
  refine wpAny_assign_Tuple hA hT rfl rfl fun h₃ hx₃ => ?_
  have D3 := D.ext0 hx₃
  show wpAny _ A (do holding [v2] (assign (.Name a pa) env v1); do holding [] (assign (.Name b pb) env v2); pure ()) _ _ _
  refine wpAny_bind (wpAny_holding (wpAny_assign_Name (r_store D3 (fun h4 D4 => ?_) hk ha)))
  exact wpAny_bind (wpAny_holding (wpAny_assign_Name (r_store D4 (fun h5 D5 => wpAny_pure (q _ _ D5)) hk hb)))

theorem en_item {a b : Str} {pa pb p : Pos} {k : Nat} {e it l : Addr} {xs : List Str} {i : Nat} {m : Str → Option Value} {Q : Unit → Shared → Prop} {N : Shared → Prop} (hA : A.handled = none)
    (D : Led h₀ h ((env.locals, nsP m) :: (e, enP it i) :: (it, liP l i) :: led)) (hm : (l, stP xs) ∈ led) (hi : i < xs.length)
    (q : ∀ ua ub h' t', Led h₀ h' ((env.locals, nsP (fun y => if y = b then some (.str xs[i] ub) else if y = a then some (.int i ua) else m y)) :: (e, enP it (i + 1)) :: (it, liP l (i + 1)) :: led) → Q () ⟨h', g, d, t', os⟩)
    (hk : env.scope.kind = .function := by rfl) (ha : env.kindOf a = some .local := by rfl) (hb : env.kindOf b = some .local := by rfl) :
    draw w A (.Tuple [.Name a pa, .Name b pb] k p) (.ref e) env Q N E ⟨h, g, d, t, os⟩ := by
  obtain ⟨oe, he, old, rfl⟩ := D.at 1 rfl
  obtain ⟨oi, hoi, hci, hdi⟩ := D.at 2 rfl
  obtain ⟨ol, hol, vs, ⟨n, rfl⟩, tx⟩ := D.get (.tail _ (.tail _ (.tail _ hm)))
  obtain ⟨u, hu⟩ := tx.at (i := i) (x := xs[i]) (by simp [hi])
  have D1 : Led h₀ h ((e, enP it i) :: (it, liP l i) :: (env.locals, nsP m) :: led) := D.rot3
  refine wpAny_pyNext_enum_item (items := vs.toArray) he ⟨oi, hoi, hci, hdi⟩ ⟨_, hol, rfl, n, rfl⟩ (x := .str xs[i] u) (by simpa using hu) D1.ne fun h₁ heo hit₁ ht₁ hz₁ hk₁ => ?_
  obtain ⟨o2, ho2, hc2, hd2⟩ := hit₁
  have D2 : Led h₀ h₁ ((e, fun o => o = { cls := .type "enumerate", dict := none, data := .fields #[rawInt h.objs.size, .bool false, .ref it, rawInt ((i : Int) + 1), .none, .str xs[i] u], slots := #[] }) :: (it, liP l (i + 1)) :: (env.locals, nsP m) :: led) :=
    D1.upd2 (fun c o h1 h2 h3 => hk₁ c o h1 h2 h3) ⟨_, heo, rfl⟩ ⟨o2, ho2, hc2, hd2⟩
  refine wpAny_letOwnedTupleGo_enum heo fun h₂ he₂ hs₂ => ?_
  have D3 := D2.upd (P' := enP it (i + 1)) hs₂ ⟨_, he₂, _, by
    rw [show ((i : Int) + 1) = ((i + 1 : Nat) : Int) by push_cast; rfl]⟩
  have D4 : Led h₀ h₂ ((env.locals, nsP m) :: (e, enP it (i + 1)) :: (it, liP l (i + 1)) :: led) := D3.pick 2 rfl
  have hne : h.objs.size ≠ e := Nat.ne_of_gt (Heap.lt_size he)
  refine q_unpack2 hA D4 (T := h.objs.size) (v1 := .int i t) (v2 := .str xs[i] u) ⟨_, (hs₂.2 _ hne).trans ht₁, rfl, _, rfl⟩ (fun h' t' D5 => q _ _ h' t' D5) hk ha hb
theorem en_stop {target : Expr} {e it l : Addr} {xs : List Str} {m : Str → Option Value} {Q : Unit → Shared → Prop} {N : Shared → Prop} (hA : A.handled = none)
    (D : Led h₀ h ((env.locals, nsP m) :: (e, enP it xs.length) :: (it, liP l xs.length) :: led)) (hm : (l, stP xs) ∈ led)
    (q : ∀ h' t', Led h₀ h' ((env.locals, nsP m) :: led) → N ⟨h', g, d, t', os⟩) : draw w A target (.ref e) env Q N E ⟨h, g, d, t, os⟩ := by
  obtain ⟨oe, he, old, rfl⟩ := D.at 1 rfl
  obtain ⟨oi, hoi, hci, hdi⟩ := D.at 2 rfl
  obtain ⟨ol, hol, vs, ⟨n, rfl⟩, tx⟩ := D.get (.tail _ (.tail _ (.tail _ hm)))
  refine wpAny_pyNext_enum_end (items := vs.toArray) hA he ⟨oi, hoi, hci, hdi⟩ ⟨_, hol, rfl, n, rfl⟩ (by have := tx.len; simp; omega) fun h' hs => q h' _ ?_
  exact ((D.pick 2 rfl).extBut hs).sub (.cons_cons _ (.cons _ (List.Sublist.refl _)))
end
end Mine
end

section
open PySem PySem.W PyProof.Rows PySem.Calls
namespace Mine
theorem cellsFrom_acc : ∀ (names : List (Str × NameKind)) (n : Nat) (acc : List (Str × Addr)), cellsFrom n names acc = cellsFrom n names [] ++ acc
  | [], _, _ => rfl
  | (name, kind) :: r, n, acc => by
    unfold cellsFrom
    split
    · rw [cellsFrom_acc r (n + 1) ((name, n) :: acc), cellsFrom_acc r (n + 1) [(name, n)], List.append_assoc]; rfl
    · exact cellsFrom_acc r n acc

section
variable {w : World} {h₀ : Heap} {A : Around} {E : Value → Shared → Prop} {h h' : Heap} {g : Array GenState} {d : Drawn} {t : Nat} {os : OsState} {led rest own : List (Addr × OP)} {env : Env} {outer : List Env} {gs : GenState}

/-- a comprehension's own frame, with the cells it makes -/
theorem q_compEnv {scope : Scope} {globals : Addr} {cl : List (Str × Addr)} {qual : Str} {Q : Env → Shared → Prop} (D : Led h₀ h led)
    (q : ∀ C h₁, Led h₀ h₁ ((C, nsP (fun _ => none)) :: (cellLed (cellsFrom (C + 1) scope.names []) (fun _ => none) ++ led)) →
      Q { scope, locals := C, globals, cells := cellsFrom (C + 1) scope.names [] ++ cl, qual, func := none, code := env.code, frame := env.frame, builtins := env.builtins } ⟨h₁, g, d, t, os⟩) :
    wpAny (model PR w) A (newFunctionEnv scope globals cl [] qual none .none (some env)) Q E ⟨h, g, d, t, os⟩ := by
  simp only [newFunctionEnv, Option.isSome_some, if_true]
  refine wpAny_bind (wpAny_alloc ?_)
  refine wpAny_bind (wpAny_layCells _ (fun name kind cells => by cases hkc : kind == NameKind.cell <;> simp [hkc]) _ _ _ _ ?_)
  have ok := cellsFrom_ok scope.names (h.push { cls := .type "dict", data := .dict #[] }) (h.objs.size + 1) [] ⟨fun _ _ hm => (nomatch hm), List.Pairwise.nil⟩ (by rw [Heap.size_push]; exact Nat.le_refl _)
  rw [Heap.size_push] at ok
  rw [show (Shared.heap { heap := h.push { cls := .type "dict", data := .dict #[] }, gens := g, drawn := d, toks := t, os := os }).objs.size = h.objs.size + 1 from Heap.size_push .., cellsFrom_acc]
  have D1 : Led h₀ (h.push { cls := .type "dict", data := .dict #[] }) ((h.objs.size, nsP (fun _ => none)) :: led) := by
    have D0 := D.push' { cls := .type "dict", data := .dict #[] }
    refine ⟨D0.keep, by rw [List.map_cons, List.nodup_cons]; exact ⟨D.notin, D.nd⟩, ?_, D.base, ?_⟩
    · intro p hp
      rcases List.mem_cons.mp hp with rfl | hp
      · exact ⟨D.fresh, ns_has (Heap.Ns.new h (.type "dict"))⟩
      · exact D0.has p hp
    · intro p hp
      rcases List.mem_cons.mp hp with rfl | hp
      · exact D.size
      · exact D.high p hp
  have D2 := D1.cells (cs := cellsFrom (h.objs.size + 1) scope.names []) (cm := fun _ => none) (pushCells_keeps scope.names _) (fun p hp => (ok.empty p.1 p.2 hp).1) ok.apart (fun p hp => by rw [Heap.size_push]; exact (ok.empty p.1 p.2 hp).2)
  refine wpAny_bind (wpAny_pure (wpAny_pure (q h.objs.size _ ?_)))
  exact D2.perm List.perm_middle

/-- the start of a comprehension whose value is dropped into the statement or handed on -/
theorem r_compBlockG {e : Expr} {it : Value} {scope : Scope} {cl : List (Str × Addr)} {RR : Value → Addr → Result → Shared → Prop} (D : Led h₀ h led)
    (q : ∀ C a h₁, Led h₀ h₁ ((C, nsP (fun _ => none)) :: (cellLed (cellsFrom (C + 1) scope.names []) (fun _ => none) ++ (a, lsP []) :: led)) →
      codeAny (model PR w) A (.compStart e 0 it (.ref a) (compEnvC scope (cellsFrom (C + 1) scope.names [] ++ cl) C env)) (RR (.ref a) C) ⟨h₁, g, d, t, os⟩) :
    wpAny (model PR w) A (newList []) (fun acc s₃ => wpAny (model PR w) A (newFunctionEnv scope env.globals cl [] env.qual none .none (some env)) (fun cenv s₄ =>
      codeAny (model PR w) A (.compStart e 0 it acc { cenv with scope := relabel scope env }) (RR acc cenv.locals) s₄) E s₃) E ⟨h, g, d, t, os⟩ := by
  have D1 := D.push (P := lsP []) { cls := .type "list", data := .seq ([] : List Value).toArray } ⟨0, rfl⟩
  exact wpAny_newObj_type (q_compEnv D1 fun C h₁ D2 => q C _ h₁ D2)

/-- name = [comprehension], the name a local one -/
theorem r_assignComp {elt iter target : Expr} {ifs : List Expr} {more : List Comprehension} {scope : Scope} {cl : List (Str × Addr)} {pos spos py : Pos} {y : Str} {Q : Flow → Shared → Prop} {s : Shared}
    (hsw : swapsWith (.ListComp elt (⟨target, iter, ifs, 0⟩ :: more) scope pos) (some (.Name y py)) spos.line env = pure true)
    (hclos : closureFor scope env = pure cl) (hkind : scope.kind = .function) (hnames : ∀ y ∈ scope.names, y.2 = .local → scope.names.lookup y.1 = some .local)
    (h : wpAny (model PR w) A (eval iter env) (fun xv s₁ => wpAny (model PR w) A (pyIter xv) (fun it s₂ => wpAny (model PR w) A (newList []) (fun acc s₃ =>
      wpAny (model PR w) A (newFunctionEnv scope env.globals cl [] env.qual none .none (some env)) (fun cenv s₄ =>
        codeAny (model PR w) A (.compStart (.ListComp elt (⟨target, iter, ifs, 0⟩ :: more) scope pos) 0 it acc { cenv with scope := relabel scope env }) (compPost (model PR w) A E (some (assign (.Name y py) env)) (fun _ s' => Q .next s') acc cenv.locals) s₄) E s₃) E s₂) E s₁) E s)
    (hs : ∀ x, foldedSetIterable iter env x = pure x := by intro _; rfl) :
    wpAny (model PR w) A (exec (.Assign [.Name y py] (.ListComp elt (⟨target, iter, ifs, 0⟩ :: more) scope pos) spos) env) Q E s := by
  rw [exec_Assign_Name_used _ _ _ _ hsw]
  refine wpAny_bind (wpAny_standAt (wpAny_bind ?_))
  show wpAny _ A (do let _ ← comprehension (.ListComp elt (⟨target, iter, ifs, 0⟩ :: more) scope pos) scope env _ (newList []) false (eval iter env) (some (assign (.Name y py) env))) _ _ s
  exact wpAny_bind (wpAny_mono (wpAny_comprehension_free (use := some (assign (.Name y py) env)) (Q := fun _ s' => Q .next s') rfl hs hclos hkind hnames h) (fun _ s' hq => wpAny_pure (wpAny_pure hq)) fun _ _ e => e)

/-- what a comprehension's end must show, for both uses -/
theorem post_value {Q : Value → Shared → Prop} {C a : Addr} {ys : List Value} {led' : List (Addr × OP)} {m : Str → Option Value} (D : Led h₀ h ((C, nsP m) :: (a, lsP ys) :: led')) (q : ∀ h'', Led h₀ h'' ((a, lsP ys) :: led') → Q (.ref a) ⟨h'', g, d, t, os⟩) :
    compPost (model PR w) A E none Q (.ref a) C (.ok .next) ⟨h, g, d, t, os⟩ := ⟨m, D.ns (.head _), fun h'' hs'' => q h'' (D.extBut hs''.extBut)⟩
theorem post_assign {Q : Value → Shared → Prop} {C a : Addr} {y : Str} {py : Pos} {ys : List Value} {led' : List (Addr × OP)} {m m₁ : Str → Option Value} (D : Led h₀ h ((C, nsP m) :: (a, lsP ys) :: (env.locals, nsP m₁) :: led'))
    (q : ∀ h'' t'', Led h₀ h'' ((env.locals, nsP (fun z => if z = y then some (.ref a) else m₁ z)) :: (a, lsP ys) :: led') → Q .none ⟨h'', g, d, t'', os⟩)
    (hk : env.scope.kind = .function := by rfl) (hl : env.kindOf y = some .local := by rfl) :
    compPost (model PR w) A E (some (assign (.Name y py) env)) Q (.ref a) C (.ok .next) ⟨h, g, d, t, os⟩ := by
  show wpAny _ A (assign (.Name y py) env (.ref a)) _ E _
  have D1 : Led h₀ h ((env.locals, nsP m₁) :: (C, nsP m) :: (a, lsP ys) :: led') := D.pick 2 rfl
  refine wpAny_assign_Name (r_store D1 (fun h2 D2 => ?_) hk hl)
  have D3 := D2.swap
  exact ⟨m, D3.ns (.head _), fun h'' hs'' => q h'' _ (D3.extBut hs''.extBut)⟩
end
end Mine
end

section
open PySem PySem.W PyProof.Rows PySem.Calls
namespace Mine
section
variable {w : World} {h₀ : Heap} {A : Around} {E : Value → Shared → Prop} {h h' : Heap} {g : Array GenState} {d : Drawn} {t : Nat} {os : OsState} {led rest own : List (Addr × OP)} {env : Env} {outer : List Env} {gs : GenState}

/-- a comprehension's loop over whatever can be drawn from; pf: its own cells -/
theorem r_compD {σ τ : Type} {it : Value} {n : Nat} {elt iter target : Expr} {ifs : List Expr} {scope : Scope} {cl : List (Str × Addr)} {pos : Pos} {RR : Value → Addr → Result → Shared → Prop}
    (pf : Addr → τ → List (Addr × OP)) (τ₀ : τ) (ysf : σ → List Value) (ledf : Nat → σ → List (Addr × OP)) (ledE : σ → List (Addr × OP)) (J : Nat → σ → Prop) (JB : Addr → Nat → σ → (Str → Option Value) → τ → Prop) (σ₀ : σ)
    (hpf : ∀ C, cellLed (cellsFrom (C + 1) scope.names []) (fun _ => none) = pf C τ₀)
    (D : Led h₀ h (ledf 0 σ₀)) (h0 : ysf σ₀ = []) (j0 : J 0 σ₀) (hlen : ∀ i s, J i s → (ysf s).length ≤ 90000)
    (self : ∀ led' h t E Q, Led h₀ h (led' ++ ledf 0 σ₀) → Q it ⟨h, g, d, t, os⟩ → wpAny (model PR w) A (pyIter it) Q E ⟨h, g, d, t, os⟩)
    (item : ∀ C a i s m τ h t E Q N, i < n → J i s → Led h₀ h ((C, nsP m) :: (pf C τ ++ (a, lsP (ysf s)) :: ledf i s)) →
      (∀ m' τ' h' t', JB C i s m' τ' → Led h₀ h' ((C, nsP m') :: (pf C τ' ++ (a, lsP (ysf s)) :: ledf (i + 1) s)) → Q () ⟨h', g, d, t', os⟩) → draw w A target it (compEnvC scope (cellsFrom (C + 1) scope.names [] ++ cl) C env) Q N E ⟨h, g, d, t, os⟩)
    (stop : ∀ C a s m τ h t E Q N, J n s → Led h₀ h ((C, nsP m) :: (pf C τ ++ (a, lsP (ysf s)) :: ledf n s)) → (∀ h' t', Led h₀ h' ((C, nsP m) :: (a, lsP (ysf s)) :: ledE s) → N ⟨h', g, d, t', os⟩) →
      draw w A target it (compEnvC scope (cellsFrom (C + 1) scope.names [] ++ cl) C env) Q N E ⟨h, g, d, t, os⟩)
    (turn : ∀ C a i s m τ h t E, i < n → J i s → JB C i s m τ → Led h₀ h ((C, nsP m) :: (pf C τ ++ (a, lsP (ysf s)) :: ledf (i + 1) s)) →
        wpAny (model PR w) A (forIn ifs true fun c r => if r = true then do let ok ← isTrue c (compEnvC scope (cellsFrom (C + 1) scope.names [] ++ cl) C env) (eval c (compEnvC scope (cellsFrom (C + 1) scope.names [] ++ cl) C env)); pure (ForInStep.yield ok) else pure (ForInStep.yield r)) (fun ok s₃ =>
          if ok = true then wpAny (model PR w) A (eval elt (compEnvC scope (cellsFrom (C + 1) scope.names [] ++ cl) C env)) (fun x s₄ => ∃ s' h' t' m' τ', s₄ = ⟨h', g, d, t', os⟩ ∧ J (i + 1) s' ∧ ysf s' = ysf s ++ [x] ∧ Led h₀ h' ((C, nsP m') :: (pf C τ' ++ (a, lsP (ysf s)) :: ledf (i + 1) s'))) E s₃
          else ∃ s' h' t' m' τ', s₃ = ⟨h', g, d, t', os⟩ ∧ J (i + 1) s' ∧ ysf s' = ysf s ∧ Led h₀ h' ((C, nsP m') :: (pf C τ' ++ (a, lsP (ysf s)) :: ledf (i + 1) s'))) E ⟨h, g, d, t, os⟩)
    (fin : ∀ C a s m h t, J n s → Led h₀ h ((C, nsP m) :: (a, lsP (ysf s)) :: ledE s) → RR (.ref a) C (.ok .next) ⟨h, g, d, t, os⟩) :
    wpAny (model PR w) A (newList []) (fun acc s₃ => wpAny (model PR w) A (newFunctionEnv scope env.globals cl [] env.qual none .none (some env)) (fun cenv s₄ =>
      codeAny (model PR w) A (.compStart (.ListComp elt [⟨target, iter, ifs, 0⟩] scope pos) 0 it acc { cenv with scope := relabel scope env }) (RR acc cenv.locals) s₄) E s₃) E ⟨h, g, d, t, os⟩ := by
  refine r_compBlockG D fun C a h₁ D1 => ?_
  rw [hpf] at D1
  have loop : codeAny (model PR w) A (.compLoop (.ListComp elt [⟨target, iter, ifs, 0⟩] scope pos) 0 it (.ref a) (compEnvC scope (cellsFrom (C + 1) scope.names [] ++ cl) C env)) (RR (.ref a) C) ⟨h₁, g, d, t, os⟩ := by
    refine codeAny_compLoop_G (fun k s => ∃ i st m τ h' t', k + i = n ∧ s = ⟨h', g, d, t', os⟩ ∧ J i st ∧ Led h₀ h' ((C, nsP m) :: (pf C τ ++ (a, lsP (ysf st)) :: ledf i st))) ?_ n ⟨0, σ₀, _, τ₀, h₁, t, rfl, rfl, j0, by rw [h0]; exact D1⟩
    rintro k s ⟨i, st, m, τ, h', t', e, rfl, j, D'⟩
    cases k with
    | zero =>
      have e' : i = n := by omega
      subst e'
      exact stop C a st m τ h' t' _ _ _ j D' fun h2 t2 D2 => fin C a st m h2 t2 j D2
    | succ k =>
      have hi : i < n := by omega
      refine item C a i st m τ h' t' _ _ _ hi j D' fun m' τ' h2 t2 jb D2 => ?_
      refine wpAny_mono (turn C a i st m' τ' h2 t2 _ hi j jb D2) (fun ok s₃ h₃ => ?_) fun _ _ z => z
      cases ok with
      | false =>
        obtain ⟨s', h', t', m', τ', e3, j', e4, D3⟩ := h₃
        rw [if_neg Bool.false_ne_true]
        exact ⟨k, by omega, i + 1, s', m', τ', h', t', by omega, e3, j', by rw [e4]; exact D3⟩
      | true =>
        rw [if_pos rfl] at h₃ ⊢
        refine wpAny_mono h₃ (fun x s₄ h₄ => ?_) fun _ _ z => z
        obtain ⟨s', h', t', m', τ', rfl, j', e4, D3⟩ := h₄
        have D4 : Led h₀ h' ((a, lsP (ysf st)) :: (((C, nsP m') :: pf C τ') ++ ledf (i + 1) s')) := D3.perm (List.perm_middle (l₁ := (C, nsP m') :: pf C τ'))
        refine r_append D4 0 rfl (by have := hlen i st j; omega) fun h5 D5 => ?_
        refine ⟨k, by omega, i + 1, s', m', τ', h5, t', by omega, rfl, j', ?_⟩
        rw [e4]
        exact Led.perm D5 (List.perm_middle (l₁ := (C, nsP m') :: pf C τ')).symm
  refine codeAny_compStart_list loop (self ((C, nsP (fun _ => none)) :: (pf C τ₀ ++ [(a, lsP [])])) h₁ t _ _ ?_ loop)
  have e : ((C, nsP (fun _ => none)) :: (pf C τ₀ ++ [(a, lsP [])])) ++ ledf 0 σ₀ = (C, nsP (fun _ => none)) :: (pf C τ₀ ++ (a, lsP []) :: ledf 0 σ₀) := by simp
  rw [e]
  exact D1
end
end Mine
end

section
open PySem PySem.W PyProof.Rows PySem.Calls
namespace Mine
theorem tx_strs : ∀ {vs : List Value} {xs : List Str}, TX vs xs → StrsAre vs xs
  | [], [], _ => .nil
  | [], _ :: _, h => by have := h.len; simp at this
  | _ :: _, [], h => by have := h.len; simp at this
  | v :: vs, x :: xs, h => by
    unfold TX at h
    rw [List.map_cons, List.map_cons] at h
    obtain ⟨h1, h2⟩ := List.cons.inj h
    obtain ⟨t, rfl⟩ := txt_some h1
    exact .cons x t (tx_strs h2)
theorem strs_tx : ∀ {vs : List Value} {xs : List Str}, StrsAre vs xs → TX vs xs
  | _, _, .nil => rfl
  | _, _, .cons y t h => (strs_tx h).cons y t

section
variable {w : World} {h₀ : Heap} {A : Around} {E : Value → Shared → Prop} {h h' : Heap} {g : Array GenState} {d : Drawn} {t : Nat} {os : OsState} {led rest own : List (Addr × OP)} {env : Env} {outer : List Env} {gs : GenState}

theorem q_inT {l : Addr} {xs : List Str} {x : Str} {u : Tok} {Q : Value → Shared → Prop} (D : Led h₀ h led) (hm : (l, stP xs) ∈ led) (q : Q (.bool (decide (x ∈ xs))) ⟨h, g, d, t, os⟩) :
    wpAny (model PR w) A (compareOp .In (.str x u) (.ref l)) Q E ⟨h, g, d, t, os⟩ := by
  obtain ⟨o, ho, vs, ⟨n, rfl⟩, tx⟩ := D.get hm
  refine in_list_strs (vs := vs) ⟨_, ho, rfl, n, rfl⟩ (tx_strs tx) ?_
  rw [show (xs.any (· == x)) = decide (x ∈ xs) by rw [Bool.eq_iff_iff]; simp]
  exact q
theorem q_notinT {l : Addr} {xs : List Str} {x : Str} {u : Tok} {Q : Value → Shared → Prop} (D : Led h₀ h led) (hm : (l, stP xs) ∈ led) (q : Q (.bool (!decide (x ∈ xs))) ⟨h, g, d, t, os⟩) :
    wpAny (model PR w) A (compareOp .NotIn (.str x u) (.ref l)) Q E ⟨h, g, d, t, os⟩ := by
  obtain ⟨o, ho, vs, ⟨n, rfl⟩, tx⟩ := D.get hm
  refine notin_list_strs (vs := vs) ⟨_, ho, rfl, n, rfl⟩ (tx_strs tx) ?_
  rw [show (xs.any (· == x)) = decide (x ∈ xs) by rw [Bool.eq_iff_iff]; simp]
  exact q

theorem all_eq_strs {xs ys : List Str} (hl : xs.length = ys.length) : (List.range xs.length).all (fun j => xs.getD j default == ys.getD j default) = decide (xs = ys) := by
  rw [Bool.eq_iff_iff]
  simp only [List.all_eq_true, List.mem_range, beq_iff_eq, decide_eq_true_eq]
  constructor
  · intro h
    refine List.ext_getElem hl fun i h1 h2 => ?_
    have := h i h1
    simpa [List.getD, h1, h2] using this
  · rintro rfl; intro i _; rfl

/-- two lists of texts: == and != -/
theorem q_neT {a b : Addr} {xs ys : List Str} {Q : Value → Shared → Prop} (D : Led h₀ h led) (ha : (a, stP xs) ∈ led) (hb : (b, stP ys) ∈ led) (hu : A.units < cLine) (q : Q (.bool (!decide (xs = ys))) ⟨h, g, d, t, os⟩) :
    wpAny (model PR w) A (compareOp .NotEq (.ref a) (.ref b)) Q E ⟨h, g, d, t, os⟩ := by
  obtain ⟨o1, ho1, vs, ⟨n1, rfl⟩, tx⟩ := D.get ha
  obtain ⟨o2, ho2, us, ⟨n2, rfl⟩, ty⟩ := D.get hb
  show wpAny _ _ (richCompare .NotEq (.ref a) (.ref b)) Q E _
  have l1 := tx.len
  have l2 := ty.len
  by_cases hl : xs.length = ys.length
  · refine SeqAt.RcNeAt.lists (items := vs.toArray) (items2 := us.toArray) (e := fun j => xs.getD j default == ys.getD j default) ⟨_, ho1, rfl, n1, rfl⟩ ⟨_, ho2, rfl, n2, rfl⟩ (by simp; omega) hu ?_ PR w E Q ?_
    · intro j h1 h2
      have h1' : j < xs.length := by simpa [l1] using h1
      have h2' : j < ys.length := by simpa [l2] using h2
      obtain ⟨u1, e1⟩ := tx.at (i := j) (x := xs[j]) (by simp [h1'])
      obtain ⟨u2, e2⟩ := ty.at (i := j) (x := ys[j]) (by simp [h2'])
      have e1' : vs.toArray[j] = .str xs[j] u1 := by
        rw [List.getElem?_eq_some_iff] at e1; simpa using e1.2
      have e2' : us.toArray[j] = .str ys[j] u2 := by
        rw [List.getElem?_eq_some_iff] at e2; simpa using e2.2
      rw [e1', e2']
      have : (xs.getD j default == ys.getD j default) = (xs[j] == ys[j]) := by simp [List.getD, h1', h2']
      rw [this]
      exact SeqAt.EqAt.str_str _ _ _ _
    · rw [List.size_toArray, l1, all_eq_strs hl]; exact q
  · refine SeqAt.RcNeAt.lists_lengths (items := vs.toArray) (items2 := us.toArray) ⟨_, ho1, rfl, n1, rfl⟩ ⟨_, ho2, rfl, n2, rfl⟩ (by simp; omega) hu PR w E Q ?_
    have : decide (xs = ys) = false := by simp; rintro rfl; exact hl rfl
    rw [this] at q
    exact q
/-- a list against the empty one -/
theorem q_ne0 {a b : Addr} {vs : List Value} {Q : Value → Shared → Prop} (D : Led h₀ h led) (ha : (a, lsP vs) ∈ led) (hb : (b, lsP []) ∈ led) (hu : A.units < cLine) (q : Q (.bool (!vs.isEmpty)) ⟨h, g, d, t, os⟩) :
    wpAny (model PR w) A (compareOp .NotEq (.ref a) (.ref b)) Q E ⟨h, g, d, t, os⟩ := by
  obtain ⟨o1, ho1, n1, rfl⟩ := D.get ha
  obtain ⟨o2, ho2, n2, rfl⟩ := D.get hb
  show wpAny _ _ (richCompare .NotEq (.ref a) (.ref b)) Q E _
  cases vs with
  | nil => exact SeqAt.RcNeAt.lists (items := #[]) (items2 := #[]) (e := fun _ => true) ⟨_, ho1, rfl, n1, rfl⟩ ⟨_, ho2, rfl, n2, rfl⟩ rfl hu (fun j h1 _ => absurd h1 (Nat.not_lt_zero _)) PR w E Q q
  | cons v r => exact SeqAt.RcNeAt.lists_lengths (items := (v :: r).toArray) (items2 := #[]) ⟨_, ho1, rfl, n1, rfl⟩ ⟨_, ho2, rfl, n2, rfl⟩ (by simp) hu PR w E Q q
end
end Mine
end

section
open PySem PySem.W PyProof.Rows PySem.Calls
namespace Mine
theorem pw_of_rising : ∀ (p : Str) (l : List Str), risingS p l = true → (p :: l).Pairwise fun a b => ¬ SL b a
  | p, [], _ => List.pairwise_singleton ..
  | p, x :: r, h => by
    have h' : (!PySem.Spec.ltCps x.cps.toList p.cps.toList && risingS x r) = true := h
    rw [Bool.and_eq_true, Bool.not_eq_true', ltCps_eq, decide_eq_false_iff_not] at h'
    have ih := pw_of_rising x r h'.2
    refine List.pairwise_cons.mpr ⟨fun y hy => ?_, ih⟩
    rcases List.mem_cons.mp hy with rfl | hy
    · exact h'.1
    · have h2 := (List.pairwise_cons.mp ih).1 y hy
      intro h3
      rcases SL.tri x y with h4 | rfl | h4
      · exact h'.1 (h4.tr h3)
      · exact h'.1 h3
      · exact h2 h4
theorem pw_of_sorted : ∀ (l : List Str), sortedS l = true → l.Pairwise fun a b => ¬ SL b a
  | [], _ => .nil
  | x :: r, h => pw_of_rising x r h

section
variable {w : World} {h₀ : Heap} {A : Around} {E : Value → Shared → Prop} {h h' : Heap} {g : Array GenState} {d : Drawn} {t : Nat} {os : OsState} {led rest own : List (Addr × OP)} {env : Env} {outer : List Env} {gs : GenState}

/-- an object at a new address -/
theorem Led.addNew {a : Addr} {P : OP} {led : List (Addr × OP)} (D : Led h₀ h led) (hk : ∀ b o, h.get? b = some o → h'.get? b = some o) (hlt : h.objs.size ≤ a) (hP : ∃ o, h'.get? a = some o ∧ P o) : Led h₀ h' ((a, P) :: led) := by
  have D' := D.grow hk
  refine ⟨D'.keep, ?_, ?_, D'.base, ?_⟩
  · rw [List.map_cons, List.nodup_cons]
    refine ⟨?_, D.nd⟩
    intro hm
    obtain ⟨p, hp, e⟩ := List.mem_map.mp hm
    obtain ⟨_, o, ho, _⟩ := D.has p hp
    have := Heap.lt_size ho
    rw [show p.1 = a from e] at this
    exact Nat.not_lt.mpr hlt this
  · intro p hp
    rcases List.mem_cons.mp hp with rfl | hp
    · refine ⟨?_, hP⟩
      cases q : h₀.get? a with
      | none => rfl
      | some o => exact absurd (Heap.lt_size (D.keep _ _ q)) (Nat.not_lt.mpr hlt)
    · exact D'.has p hp
  · intro p hp
    rcases List.mem_cons.mp hp with rfl | hp
    · exact Nat.lt_of_lt_of_le D.size hlt
    · exact D'.high p hp

/-- sorted(texts), of a list or a tuple -/
theorem q_sorted {l : Addr} {T : String} {vs : List Value} {xs : List Str} {o : Obj} {n : Nat} {Q : Value → Shared → Prop} (D : Led h₀ h led) (ho : h.get? l = some o) (hT : T = "list" ∨ T = "tuple") (hc : o.cls = .type T) (hd : o.data = .seq vs.toArray n) (tx : TX vs xs) (h64 : vs.length < 64)
    (q : ∀ S ys h', ys.Perm xs → (ys.Pairwise fun a b => ¬ SL b a) → Led h₀ h' ((S, stP ys) :: led) → Q (.ref S) ⟨h', g, d, t, os⟩) :
    wpAny (model PR w) A (call (.builtin "sorted") [.ref l]) Q E ⟨h, g, d, t, os⟩ := by
  refine Calls.call_function_entry kind_sorted plain_sorted entry_sorted (args_sorted1 _) ?_
  unfold Builtin.«sorted»
  refine wpAny_bind (m := checkCount "sorted" 1 1 _) (wpAny_pure ?_)
  refine wpAny_bind (wpAny_collect_seq l hT ho hc hd (fun h1 hk => ?_) (by rw [List.size_toArray, sizeLine_eq]; omega))
  have D1 := D.grow hk
  rw [List.toList_toArray]
  refine wpAny_bind (wpAny_newList ?_)
  have hoL : (h1.push (seqObj "list" vs.toArray 0)).get? h1.objs.size = some (seqObj "list" vs.toArray 0) := Heap.get?_push_size _ rfl
  have hS := tx_strs tx
  refine wpAny_bind (wpAny_holding (wpAny_call_entry slot_list_sort ⟨_, hoL, rfl⟩ entry_list_sort (list_sort_treeK strKind_oneLt hoL hS.keysOf (fun v₁ v₂ rest e => keyKind_strs (by rw [← e]; exact hS)) h64 fun st' a1 a2 => ⟨_, rfl, ?_⟩) (args_list_sort _)))
  obtain ⟨ss', b1, b2, b3⟩ := sorted_out_str hS a1 a2
  refine wpAny_pure ⟨_, rfl, q _ ss' _ b2 (pw_of_sorted _ b3) (D1.addNew (a := h1.objs.size) (fun b o e => ?_) (Nat.le_refl _) ?_)⟩
  · have hlt : b < h1.objs.size := Heap.lt_size e
    rw [sortedHeap_old (Nat.ne_of_lt hlt) (by rw [size_push']; exact Nat.lt_succ_of_lt hlt)]
    exact Heap.get?_push_of_some _ e
  · obtain ⟨e, he⟩ := sortedHeap_at (vs := vs) (n := 0) (out := (arrOf st').map (·.2)) hoL
    refine ⟨_, he, ((arrOf st').map (·.2)).toList, ⟨e, ?_⟩, strs_tx b1⟩
    rw [Array.toArray_toList]
end
end Mine
end

section
open PySem PySem.W PyProof.Rows PySem.Calls
namespace Mine
section
variable {w : World} {h₀ : Heap} {A : Around} {E : Value → Shared → Prop} {h h' : Heap} {g : Array GenState} {d : Drawn} {t : Nat} {os : OsState} {led rest own : List (Addr × OP)} {env : Env} {outer : List Env} {gs : GenState}

theorem q_listUpd {a : Addr} {vs us : List Value} {f : Array Value → Array Value} {Q : Unit → Shared → Prop} (D : Led h₀ h led) (i : Nat) (hi : led[i]? = some (a, lsP vs)) (hf : f vs.toArray = us.toArray) (h1 : vs.length ≤ 1000) (h2 : us.length ≤ 1000)
    (q : ∀ h', Led h₀ h' (led.set i (a, lsP us)) → Q () ⟨h', g, d, t, os⟩) : wpAny (model PR w) A (Builtin.List.listUpdate (.ref a) f) Q E ⟨h, g, d, t, os⟩ := by
  obtain ⟨o, ho, n, rfl⟩ := D.at i hi
  show wpAny _ _ (updateSeq a f) _ _ _
  exact wpAny_updateSeq ho rfl (q _ (D.updI i hi (Heap.SameBut.update ..) ⟨_, Heap.get?_update_self _ ho rfl, lsP_map ⟨_, rfl⟩ _ hf⟩)) (by rw [List.size_toArray, sizeLine_eq]; omega) (by rw [hf, List.size_toArray, sizeLine_eq]; omega)
theorem q_listItems {a : Addr} {vs : List Value} {Q : Array Value → Shared → Prop} (D : Led h₀ h led) (i : Nat) (hi : led[i]? = some (a, lsP vs)) (q : Q vs.toArray ⟨h, g, d, t, os⟩) : wpAny (model PR w) A (Builtin.List.listItems (.ref a)) Q E ⟨h, g, d, t, os⟩ := by
  obtain ⟨o, ho, n, rfl⟩ := D.at i hi
  unfold Builtin.List.listItems
  exact wpAny_bind (wpAny_seqItems ho rfl (wpAny_pure q))

/-- sorted(texts, key=_strxfrm) -/
theorem q_sortedKey {l : Addr} {xs : List Str} {Q : Value → Shared → Prop} (O : Ok w h₀) (R : Rm 6 A) (D : Led h₀ h led) (hm : (l, stP xs) ∈ led) (h2 : 2 ≤ xs.length) (h64 : xs.length < 64)
    (q : ∀ S ys h' t', ys.Perm xs → (ys.Pairwise fun a b => ¬ SL b a) → Led h₀ h' ((S, stP ys) :: led) → Q (.ref S) ⟨h', g, d, t', os⟩) :
    wpAny (model PR w) A (call (.builtin "sorted") [.ref l] [(Str.ofString "key", .ref 28)]) Q E ⟨h, g, d, t, os⟩ := by
  obtain ⟨o, ho, vs, ⟨n, rfl⟩, tx⟩ := D.get hm
  have hl := tx.len
  have hS := tx_strs tx
  refine call_function_entry_kw kind_sorted plain_sorted entry_sorted (ksk_s1 _ _) ?_
  unfold Builtin.«sorted»
  refine wpAny_bind (m := checkCount "sorted" 1 1 _) (wpAny_pure ?_)
  refine wpAny_bind (wpAny_collect_seq l (.inl rfl) ho rfl rfl (fun h1 hk => ?_) (by rw [List.size_toArray, sizeLine_eq]; omega))
  have D1 := D.grow hk
  rw [List.toList_toArray]
  refine wpAny_bind (wpAny_newList ?_ (by rw [sizeLine_eq]; omega))
  have D2 := D1.push (P := lsP vs) (seqObj "list" vs.toArray 0) ⟨0, rfl⟩
  generalize h1.push (seqObj "list" vs.toArray 0) = h2 at D2
  generalize h1.objs.size = S at D2
  obtain ⟨oS, hoS, nS, rfl⟩ := D2.hd
  refine wpAny_bind (wpAny_holding (wpAny_call_entry_kw slot_list_sort ⟨_, hoS, rfl⟩ entry_list_sort ?body (ksk_l1 _ _)))
  case body =>
    rw [ksk_t1]
    unfold ksk_tree
    refine wpAny_bind (q_listItems D2 0 rfl ?_)
    refine wpAny_bind (q_listUpd (us := []) D2 0 rfl rfl (by omega) (by simp) fun h3 D3 => ?_)
    obtain ⟨oS3, hoS3, nS3, rfl⟩ := D3.at 0 rfl
    have D3' : Led h₀ h3 ((S, fun o => o = seqObj "list" #[] nS3) :: led) := D3.reI (P' := fun o => o = seqObj "list" #[] nS3) 0 rfl fun o ho' _ => by
      rw [hoS3] at ho'; exact (Option.some.inj ho').symm
    refine wpAny_bind (seqEpoch_at hoS3 rfl ?_)
    refine wpAny_bind (wpAny_newTuple ?_ (by rw [List.toList_toArray, sizeLine_eq]; omega))
    have D4 := D3'.push' (seqObj "tuple" vs.toArray.toList.toArray 0)
    refine wpAny_bind (wpAny_newList ?_ (by simp))
    have D5 := D4.push (P := lsP []) (seqObj "list" ([] : List Value).toArray 0) ⟨0, rfl⟩
    show wpAny _ _ _ _ _ ⟨(h3.push (seqObj "tuple" vs.toArray.toList.toArray 0)).push (seqObj "list" ([] : List Value).toArray 0), g, d, t, os⟩
    generalize (h3.push (seqObj "tuple" vs.toArray.toList.toArray 0)).push (seqObj "list" ([] : List Value).toArray 0) = h5 at D5
    generalize (h3.push (seqObj "tuple" vs.toArray.toList.toArray 0)).objs.size = kS at D5
    refine wpAny_holding ?_
    unfold ksk_rest
    refine wpAny_bind (wpAny_rule ?_)
    rw [List.forIn_toArray]
    refine wpAny_bind (ksk_fold (fun i s' => ∃ h' tk, s' = ⟨h', g, d, tk, os⟩ ∧ Led h₀ h' ((kS, lsP (vs.take i)) :: (S, fun o => o = seqObj "list" #[] nS3) :: led)) vs 0 _ ⟨h5, t, rfl, D5⟩ ?step ?done)
    case step =>
      rintro j x s' hx ⟨h6, t6, rfl, D6⟩
      simp only [Nat.zero_add] at D6 ⊢
      have hj : j < vs.length := (List.getElem?_eq_some_iff.mp hx).1
      have hxj : vs.take (j + 1) = vs.take j ++ [x] := by rw [List.take_add_one, hx]; rfl
      refine wpAny_bind (wpAny_attempt (strxfrm O D6 R.in1.in1.less fun h7 t7 D7 => ?_))
      dsimp only
      refine wpAny_bind (q_listUpd (us := vs.take j ++ [x]) D7 0 rfl (by simp) (by rw [List.length_take]; omega) (by rw [List.length_append, List.length_take]; simp; omega) fun h8 D8 => ?_)
      refine wpAny_pure ⟨rfl, h8, _, rfl, ?_⟩
      rw [hxj]
      exact D8
    case done =>
      rintro s' ⟨h6, t6, rfl, D6⟩
      rw [Nat.zero_add, List.take_length] at D6
      refine wpAny_bind (q_listItems D6 0 rfl ?_)
      unfold ksk_end
      try dsimp only
      have hn2 : ¬ vs.toArray.size < 2 := by rw [List.size_toArray]; omega
      rw [if_neg (by decide), if_neg hn2, if_neg hn2]
      obtain ⟨v₁, v₂, r, e⟩ : ∃ v₁ v₂ r, vs = v₁ :: v₂ :: r := by
        match vs, h2, hl with
        | [], h2, hl => simp at hl; omega
        | [_], h2, hl => simp at hl; omega
        | v₁ :: v₂ :: r, _, _ => exact ⟨v₁, v₂, r, rfl⟩
      have ek : keyKind' vs.toArray = pure oneType' := by
        have hS' := hS
        rw [e] at hS' ⊢
        exact keyKind_strs hS'
      rw [ek]
      refine wpAny_bind (wpAny_pure ?_)
      rw [if_neg (by decide)]
      refine wpAny_bind (wpAny_mono (wpS_sortRunsK (κ := strKind) (a₀ := pairsOf vs) (st := SortSt.mk' oneType' (vs.toArray.zip vs.toArray) #[] 7 none)
        (Q := fun _ st' => (arrOf st').Perm (pairsOf vs) ∧ failedOf st' = none ∧ SortedToK strKind (arrOf st') (pairsOf vs).size)
        strKind_oneLt hS.keysOf ⟨Array.Perm.refl _, rfl, rfl, rfl⟩ (by rw [pairsOf_size]; omega) (by rw [pairsOf_size]; omega) fun st' a1 a2 a3 => ⟨a1, a2, a3⟩) ?_ fun _ _ e => e)
      rintro ⟨⟨⟩, st'⟩ s' ⟨rfl, hp, hf, hs⟩
      try dsimp only
      unfold ksk_tail
      try dsimp only
      refine wpAny_bind (q_listUpd (us := []) D6 0 rfl rfl (by omega) (by simp) fun h7 D7 => ?_)
      refine wpAny_bind (wpAny_letGo ?_)
      obtain ⟨oS7, hoS7, rfl⟩ := D7.at 1 rfl
      refine wpAny_bind (seqEpoch_at hoS7 rfl ?_)
      obtain ⟨ss', b1, b2, b3⟩ := sorted_out_str hS hp hs
      have hlo : ((arrOf st').map (·.2)).size = vs.length := (Array.size_map ..).trans (hp.size_eq.trans (pairsOf_size _))
      have D7' := D7.reI (P' := lsP []) 1 rfl fun o _ e => by rw [e]; exact ⟨_, rfl⟩
      refine wpAny_bind (q_listUpd (us := ((arrOf st').map (·.2)).toList) D7' 1 rfl (by rw [if_neg (by decide), Array.toArray_toList]) (by simp) (by rw [Array.length_toList, hlo]; omega) fun h8 D8 => ?_)
      rw [hf]
      simp only [bne_self_eq_false, Bool.false_eq_true, if_false]
      refine wpAny_pure ⟨_, rfl, ?_⟩
      have D9 : Led h₀ h8 ((S, stP ss') :: led) := (D8.tail).reI (P := lsP ((arrOf st').map (·.2)).toList) (P' := stP ss') 0 rfl fun o _ e => ⟨_, e, strs_tx b1⟩
      exact wpAny_pure ⟨_, rfl, q _ ss' _ _ b2 (pw_of_sorted _ b3) D9⟩
end
end Mine
end

section
open PySem PySem.W PyProof.Rows PySem.Calls
namespace Mine
/-- a graph: its names, a count for each, its edges -/
noncomputable def stG (ns : List Str) (es : List (Str × Str)) (f : Str → Int) : List GN := ns.map fun x => (x, f x, (es.filter fun p => p.1 = x).map (·.2))
noncomputable def inE (es : List (Str × Str)) (x : Str) : Int := ((es.countP fun p => p.2 = x : Nat) : Int)
noncomputable def ensL (x : Str) (ns : List Str) : List Str := if x ∈ ns then ns else ns ++ [x]
noncomputable def edge (x y : Str) : List (Str × Str) := if SL x y then [(x, y)] else if SL y x then [(y, x)] else []

theorem stG_names (ns : List Str) (es : List (Str × Str)) (f : Str → Int) : (stG ns es f).map (·.1) = ns := by
  unfold stG
  rw [List.map_map]
  exact List.map_id'' (fun _ => rfl) _
theorem stG_congr {ns : List Str} {es : List (Str × Str)} {f f' : Str → Int} (h : ∀ x ∈ ns, f x = f' x) : stG ns es f = stG ns es f' := by
  unfold stG
  refine List.map_congr_left fun x hx => ?_
  rw [h x hx]
theorem stG_any {ns : List Str} {es : List (Str × Str)} {f : Str → Int} (x : Str) : ((stG ns es f).any fun n => n.1 = x) = decide (x ∈ ns) := by
  unfold stG
  rw [List.any_map]
  rw [Bool.eq_iff_iff, List.any_eq_true, decide_eq_true_iff]
  constructor
  · rintro ⟨y, hy, e⟩
    have : y = x := by simpa using e
    rw [← this]; exact hy
  · intro h; exact ⟨x, h, by simp⟩
theorem ens_st {ns : List Str} {es : List (Str × Str)} {f : Str → Int} {x : Str} (h : x ∈ ns) : ens x (stG ns es f) = stG ns es f := by
  unfold ens
  rw [stG_any, decide_eq_true h, if_pos rfl]
theorem ens_new {ns : List Str} {es : List (Str × Str)} {f : Str → Int} {x : Str} (h : x ∉ ns) (h1 : ∀ e ∈ es, e.1 ≠ x) (h2 : f x = 0) : ens x (stG ns es f) = stG (ns ++ [x]) es f := by
  unfold ens
  rw [stG_any, decide_eq_false h, if_neg (by simp)]
  unfold stG
  rw [List.map_append, List.map_singleton, h2]
  have : es.filter (fun p => p.1 = x) = [] := List.filter_eq_nil_iff.mpr fun e he => by simpa using h1 e he
  rw [this]; rfl
theorem bump_st {ns : List Str} {es : List (Str × Str)} {f : Str → Int} {x : Str} {k : Int} : bump x k (stG ns es f) = stG ns es (fun z => if z = x then f z + k else f z) := by
  unfold bump stG
  rw [List.map_map]
  refine List.map_congr_left fun z _ => ?_
  simp only [Function.comp_apply]
  split <;> rfl
theorem setc_st {ns : List Str} {es : List (Str × Str)} {f : Str → Int} {x : Str} {c : Int} : setc x c (stG ns es f) = stG ns es (fun z => if z = x then c else f z) := by
  unfold setc stG
  rw [List.map_map]
  refine List.map_congr_left fun z _ => ?_
  simp only [Function.comp_apply]
  split <;> rfl
theorem link_st {ns : List Str} {es : List (Str × Str)} {f : Str → Int} {x y : Str} : link y x (stG ns es f) = stG ns (es ++ [(y, x)]) f := by
  unfold link stG
  rw [List.map_map]
  refine List.map_congr_left fun z _ => ?_
  simp only [Function.comp_apply]
  rw [List.filter_append, List.map_append]
  split
  · next h => subst h; simp
  · next h => simp [List.filter_cons, Ne.symm h]
theorem find_st {ns : List Str} {es : List (Str × Str)} {f : Str → Int} {x : Str} (h : x ∈ ns) : (stG ns es f).find? (fun n => n.1 = x) = some (x, f x, (es.filter fun p => p.1 = x).map (·.2)) := by
  unfold stG
  induction ns with
  | nil => cases h
  | cons a r ih =>
    rw [List.map_cons, List.find?_cons]
    by_cases e : a = x
    · subst e; simp
    · have : x ∈ r := by
        rcases List.mem_cons.mp h with h | h
        · exact absurd h.symm e
        · exact h
      simp only [e, decide_false]
      exact ih this
theorem cntOf_st {ns : List Str} {es : List (Str × Str)} {f : Str → Int} {x : Str} (h : x ∈ ns) : cntOf (stG ns es f) x = f x := by
  unfold cntOf; rw [find_st h]; rfl
theorem sucOf_st {ns : List Str} {es : List (Str × Str)} {f : Str → Int} {x : Str} (h : x ∈ ns) : sucOf (stG ns es f) x = (es.filter fun p => p.1 = x).map (·.2) := by
  unfold sucOf; rw [find_st h]; rfl

theorem inE_snoc (es : List (Str × Str)) (x y z : Str) : inE (es ++ [(x, y)]) z = if z = y then inE es z + 1 else inE es z := by
  unfold inE
  rw [List.countP_append, List.countP_singleton]
  by_cases e : z = y
  · subst e; simp
  · have : ¬ y = z := fun h => e h.symm
    simp [e, this]
theorem addG1 {ns : List Str} {es : List (Str × Str)} {x y : Str} (hx : x ∈ ns) (hy : y ∈ ns) : addG y [x] (stG ns es (inE es)) = stG ns (es ++ [(x, y)]) (inE (es ++ [(x, y)])) := by
  unfold addG
  rw [List.foldl_cons, List.foldl_nil, ens_st hy, bump_st, ens_st hx, link_st]
  refine stG_congr fun z _ => ?_
  rw [inE_snoc]
  rfl
theorem addG0 {ns : List Str} {es : List (Str × Str)} {x : Str} (h : ∀ e ∈ es, e.1 ∈ ns ∧ e.2 ∈ ns) : addG x [] (stG ns es (inE es)) = stG (ensL x ns) es (inE es) := by
  unfold addG ensL
  rw [List.foldl_nil]
  by_cases hx : x ∈ ns
  · rw [ens_st hx, if_pos hx, bump_st]
    exact stG_congr fun z _ => by simp
  · rw [if_neg hx, ens_new hx (fun e he q => hx (q ▸ (h e he).1)) ?_, bump_st]
    · exact stG_congr fun z _ => by simp
    · unfold inE
      rw [show es.countP (fun p => p.2 = x) = 0 from List.countP_eq_zero.mpr fun e he => by
        simp only [decide_eq_true_eq]
        intro q; exact hx (q ▸ (h e he).2)]
      rfl
theorem tellG_st {ns : List Str} {es : List (Str × Str)} {x y : Str} (hx : x ∈ ns) (hy : y ∈ ns) : tellG x y (stG ns es (inE es)) = stG ns (es ++ edge x y) (inE (es ++ edge x y)) := by
  unfold tellG edge
  split
  · exact addG1 hx hy
  · split
    · exact addG1 hy hx
    · rw [List.append_nil]

/-- edges from some of the names into one -/
noncomputable def cntFrom (es : List (Str × Str)) (xs : List Str) (z : Str) : Nat := es.countP fun p => decide (p.1 ∈ xs) && decide (p.2 = z)
theorem suc_count (es : List (Str × Str)) (x z : Str) : ((es.filter fun p => p.1 = x).map (·.2)).count z = es.countP fun p => decide (p.1 = x) && decide (p.2 = z) := by
  rw [List.count_eq_countP, List.countP_map, List.countP_filter]
  refine List.countP_congr fun e _ => ?_
  simp [and_comm]
theorem cntFrom_cons (es : List (Str × Str)) {x : Str} {r : List Str} (z : Str) (hx : x ∉ r) : cntFrom es (x :: r) z = ((es.filter fun p => p.1 = x).map (·.2)).count z + cntFrom es r z := by
  rw [suc_count]
  unfold cntFrom
  induction es with
  | nil => rfl
  | cons e t ih =>
    rw [List.countP_cons, List.countP_cons, List.countP_cons, ih]
    by_cases h1 : e.1 = x
    · have h2 : e.1 ∉ r := h1 ▸ hx
      simp [h1, hx]
      omega
    · simp [h1]
      omega
theorem cntFrom_zero {es : List (Str × Str)} {xs : List Str} {z : Str} (h : ∀ e ∈ es, e.1 ∈ xs → e.2 ≠ z) : cntFrom es xs z = 0 := List.countP_eq_zero.mpr fun e he => by
  simp only [Bool.and_eq_true, decide_eq_true_eq]
  rintro ⟨h1, h2⟩; exact h e he h1 h2
theorem cntFrom_pos {es : List (Str × Str)} {xs : List Str} {z : Str} : 0 < cntFrom es xs z ↔ ∃ e ∈ es, e.1 ∈ xs ∧ e.2 = z := by
  unfold cntFrom
  rw [List.countP_pos_iff]
  constructor
  · rintro ⟨e, he, h⟩
    simp only [Bool.and_eq_true, decide_eq_true_eq] at h
    exact ⟨e, he, h⟩
  · rintro ⟨e, he, h⟩
    exact ⟨e, he, by simpa using h⟩

theorem dec_fold {ns : List Str} {es : List (Str × Str)} : ∀ (ss : List Str) (f : Str → Int) (ys : List Str), (∀ s ∈ ss, s ∈ ns) →
    ∃ zs, ss.foldl dec1 (stG ns es f, ys) = (stG ns es (fun z => f z - (ss.count z : Nat)), ys ++ zs) ∧ zs.Nodup ∧ ∀ z, z ∈ zs ↔ 1 ≤ f z ∧ f z ≤ (ss.count z : Nat)
  | [], f, ys, _ => ⟨[], by simp, .nil, fun z => by
      simp only [List.not_mem_nil, List.count_nil, false_iff]
      omega⟩
  | s :: ss, f, ys, h => by
    have hs := h s (.head _)
    obtain ⟨zs, e, nd, hm⟩ := dec_fold (ns := ns) (es := es) ss (fun z => if z = s then f s - 1 else f z) (if f s - 1 = 0 then ys ++ [s] else ys) fun x hx => h x (.tail _ hx)
    have e1 : (s :: ss).foldl dec1 (stG ns es f, ys) = (stG ns es (fun z => f z - ((s :: ss).count z : Nat)), (if f s - 1 = 0 then ys ++ [s] else ys) ++ zs) := by
      rw [List.foldl_cons]
      show ss.foldl dec1 (setc s (cntOf (stG ns es f) s - 1) (stG ns es f), if cntOf (stG ns es f) s - 1 = 0 then ys ++ [s] else ys) = _
      rw [cntOf_st hs, setc_st, e]
      congr 1
      refine stG_congr fun z _ => ?_
      rw [List.count_cons]
      by_cases q : z = s
      · subst q; simp; omega
      · have : ¬ s = z := fun h => q h.symm
        simp [q, this]
    by_cases h0 : f s - 1 = 0
    · rw [if_pos h0] at e1
      refine ⟨s :: zs, by rw [e1, List.append_assoc]; rfl, List.nodup_cons.mpr ⟨fun q => ?_, nd⟩, fun z => ?_⟩
      · have := (hm s).mp q
        rw [if_pos rfl] at this
        omega
      · rw [List.mem_cons, hm, List.count_cons]
        by_cases q : z = s
        · subst q; simp; omega
        · have : ¬ s = z := fun h => q h.symm
          simp [q, this]
    · rw [if_neg h0] at e1
      refine ⟨zs, e1, nd, fun z => ?_⟩
      rw [hm, List.count_cons]
      by_cases q : z = s
      · subst q; simp; omega
      · have : ¬ s = z := fun h => q h.symm
        simp [q, this]

theorem done_fold {ns : List Str} {es : List (Str × Str)} (hes : ∀ e ∈ es, e.2 ∈ ns) : ∀ (xs : List Str) (f : Str → Int) (ys : List Str), xs.Nodup → (∀ x ∈ xs, x ∈ ns) → (∀ e ∈ es, e.1 ∈ xs → e.2 ∉ xs) →
    ∃ zs f', doneG xs (stG ns es f, ys) = (stG ns es f', ys ++ zs) ∧ (∀ z, z ∉ xs → f' z = f z - (cntFrom es xs z : Nat)) ∧ zs.Nodup ∧ ∀ z, z ∈ zs ↔ 1 ≤ f z ∧ f z ≤ (cntFrom es xs z : Nat)
  | [], f, ys, _, _, _ => ⟨[], f, by simp [doneG], fun z _ => by rw [cntFrom_zero (fun _ _ h => by cases h)]; simp, .nil, fun z => by
      rw [cntFrom_zero (fun _ _ h => by cases h)]
      simp only [List.not_mem_nil, false_iff]
      omega⟩
  | x :: xs, f, ys, nd, hx, hd => by
    have hxn := hx x (.head _)
    obtain ⟨hxx, nd'⟩ := List.nodup_cons.mp nd
    obtain ⟨zs1, e1, n1, m1⟩ := dec_fold (ns := ns) (es := es) ((es.filter fun p => p.1 = x).map (·.2)) (fun z => if z = x then -2 else f z) ys (fun s hs => by
      obtain ⟨e, he, rfl⟩ := List.mem_map.mp hs
      exact hes e (List.mem_filter.mp he).1)
    obtain ⟨zs2, f', e2, hf, n2, m2⟩ := done_fold hes xs (fun z => (if z = x then -2 else f z) - (((es.filter fun p => p.1 = x).map (·.2)).count z : Nat)) (ys ++ zs1) nd' (fun z hz => hx z (.tail _ hz)) fun e he h1 h2 => hd e he (.tail _ h1) (.tail _ h2)
    have hc : ∀ z, cntFrom es (x :: xs) z = ((es.filter fun p => p.1 = x).map (·.2)).count z + cntFrom es xs z := fun z => cntFrom_cons es z hxx
    have hself : cntFrom es (x :: xs) x = 0 := cntFrom_zero fun e he h1 h2 => hd e he h1 (h2 ▸ .head _)
    refine ⟨zs1 ++ zs2, f', ?_, ?_, ?_, ?_⟩
    · show xs.foldl done1 (done1 (stG ns es f, ys) x) = _
      unfold done1
      rw [sucOf_st hxn, setc_st, e1]
      rw [← List.append_assoc]
      exact e2
    · intro z hz
      have hz1 : z ≠ x := fun q => hz (q ▸ .head _)
      rw [hf z fun q => hz (.tail _ q), hc, if_neg hz1]
      omega
    · rw [List.nodup_append]
      refine ⟨n1, n2, fun a ha b hb => ?_⟩
      rintro rfl
      have := (m1 a).mp ha
      have := (m2 a).mp hb
      omega
    · intro z
      rw [List.mem_append, m1, m2, hc]
      by_cases q : z = x
      · subst q
        rw [hc] at hself
        simp only [if_true]
        omega
      · simp only [if_neg q]
        omega

/-- which of left have a step into them from left -/
noncomputable def later (es : List (Str × Str)) (left : List Str) (x : Str) : Bool := es.any fun p => decide (p.2 = x) && decide (p.1 ∈ left)
inductive Rnd (es : List (Str × Str)) : List Str → List (List Str) → Prop
  | stop : Rnd es [] []
  | step {left : List Str} {gs : List (List Str)} : left ≠ [] → Rnd es (left.filter (later es left)) gs → Rnd es left (left.filter (fun x => !later es left x) :: gs)
inductive GPm : List (List Str) → List (List Str) → Prop
  | nil : GPm [] []
  | cons {a b : List Str} {r s : List (List Str)} : a.Perm b → GPm r s → GPm (a :: r) (b :: s)

theorem later_iff {es : List (Str × Str)} {left : List Str} {x : Str} : later es left x = true ↔ ∃ e ∈ es, e.1 ∈ left ∧ e.2 = x := by
  unfold later
  rw [List.any_eq_true]
  constructor
  · rintro ⟨e, he, h⟩
    simp only [Bool.and_eq_true, decide_eq_true_eq] at h
    exact ⟨e, he, h.2, h.1⟩
  · rintro ⟨e, he, h⟩
    exact ⟨e, he, by simpa using h.symm⟩
theorem exists_min : ∀ (l : List Str), l ≠ [] → ∃ m ∈ l, ∀ x ∈ l, ¬ SL x m
  | [], h => absurd rfl h
  | [a], _ => ⟨a, .head _, fun x hx => by rw [List.mem_singleton.mp hx]; exact SL.irr a⟩
  | a :: b :: r, _ => by
    obtain ⟨m, hm, h⟩ := exists_min (b :: r) (by simp)
    by_cases q : SL a m
    · refine ⟨a, .head _, fun x hx => ?_⟩
      rcases List.mem_cons.mp hx with rfl | hx
      · exact SL.irr _
      · exact fun h' => h x hx (h'.tr q)
    · refine ⟨m, .tail _ hm, fun x hx => ?_⟩
      rcases List.mem_cons.mp hx with rfl | hx
      · exact q
      · exact h x hx
theorem first_ne {es : List (Str × Str)} (up : ∀ e ∈ es, SL e.1 e.2) {left : List Str} (h : left ≠ []) : ∃ m ∈ left, later es left m = false := by
  obtain ⟨m, hm, h⟩ := exists_min left h
  refine ⟨m, hm, ?_⟩
  rw [Bool.eq_false_iff]
  intro q
  obtain ⟨e, he, h1, rfl⟩ := later_iff.mp q
  exact h _ h1 (up e he)
theorem rnd_exists {es : List (Str × Str)} (up : ∀ e ∈ es, SL e.1 e.2) : ∀ (n : Nat) (left : List Str), left.length ≤ n → ∃ gs, Rnd es left gs ∧ gs.length ≤ left.length
  | 0, left, h => by
    obtain rfl := List.eq_nil_of_length_eq_zero (Nat.le_zero.mp h)
    exact ⟨[], .stop, Nat.le_refl _⟩
  | n + 1, left, h => by
    by_cases hl : left = []
    · subst hl; exact ⟨[], .stop, Nat.le_refl _⟩
    · obtain ⟨m, hm, q⟩ := first_ne up hl
      have : (left.filter (later es left)).length < left.length := by
        refine List.length_filter_lt_length_iff_exists.mpr ⟨m, hm, by simp [q]⟩
      obtain ⟨gs, hg, hgl⟩ := rnd_exists up n (left.filter (later es left)) (by omega)
      exact ⟨_, .step hl hg, by rw [List.length_cons]; omega⟩

theorem outG_st {ns : List Str} {es : List (Str × Str)} : ∀ (xs : List Str) (f : Str → Int), outG xs (stG ns es f) = stG ns es (fun z => if z ∈ xs then -1 else f z)
  | [], f => by simp [outG]
  | x :: xs, f => by
    show outG xs (setc x (-1) (stG ns es f)) = _
    rw [setc_st, outG_st xs]
    refine stG_congr fun z _ => ?_
    by_cases h1 : z ∈ xs
    · simp [h1]
    · by_cases h2 : z = x <;> simp [h1, h2]

theorem cntFrom_split {es : List (Str × Str)} {left a b : List Str} (h : ∀ x, x ∈ left ↔ x ∈ a ∨ x ∈ b) (hd : ∀ x, x ∈ a → x ∉ b) (z : Str) : cntFrom es left z = cntFrom es a z + cntFrom es b z := by
  unfold cntFrom
  induction es with
  | nil => rfl
  | cons e t ih =>
    rw [List.countP_cons, List.countP_cons, List.countP_cons, ih]
    by_cases h1 : e.1 ∈ a
    · have h2 := hd _ h1
      have h3 : e.1 ∈ left := (h _).mpr (.inl h1)
      simp [h1, h2, h3]; omega
    · by_cases h2 : e.1 ∈ b
      · have h3 : e.1 ∈ left := (h _).mpr (.inr h2)
        simp [h1, h2, h3]; omega
      · have h3 : e.1 ∉ left := fun q => ((h _).mp q).elim h1 h2
        simp [h1, h2, h3]

theorem run_of_rnd {ns : List Str} {es : List (Str × Str)} (hes : ∀ e ∈ es, e.2 ∈ ns) (up : ∀ e ∈ es, SL e.1 e.2) {left : List Str} {gs : List (List Str)} (hr : Rnd es left gs) : ∀ (f : Str → Int) (rd : List Str), left.Nodup → left.length ≤ 1000 → (∀ x ∈ left, x ∈ ns) →
    (∀ e ∈ es, e.1 ∈ left → e.2 ∈ left) → (∀ x ∈ left, f x = (cntFrom es left x : Nat)) → rd.Perm (left.filter fun x => !later es left x) →
    ∃ gs', Run (stG ns es f) rd gs' ∧ GPm gs' gs := by
  induction hr with
  | stop =>
    intro f rd _ _ _ _ _ hp
    have : rd = [] := List.Perm.eq_nil hp
    subst this
    exact ⟨[], .stop, .nil⟩
  | @step left gs hne hg ih =>
    intro f rd nd hz hsub hcl hf hp
    have hmem : ∀ x, x ∈ rd ↔ x ∈ left ∧ later es left x = false := fun x => by rw [hp.mem_iff, List.mem_filter]; simp
    have rnd : rd.Nodup := hp.nodup_iff.mpr (nd.filter _)
    have rne : rd ≠ [] := by
      obtain ⟨m, hm, q⟩ := first_ne up hne
      intro e
      have := (hmem m).mpr ⟨hm, q⟩
      rw [e] at this; cases this
    have rle : rd.length ≤ 1000 := by rw [hp.length_eq]; exact Nat.le_trans (List.length_filter_le _ _) hz
    have rsub : ∀ x ∈ rd, x ∈ ns := fun x hx => hsub x ((hmem x).mp hx).1
    have hd : ∀ e ∈ es, e.1 ∈ rd → e.2 ∉ rd := fun e he h1 h2 => by
      have := ((hmem _).mp h2).2
      rw [Bool.eq_false_iff] at this
      exact this (later_iff.mpr ⟨e, he, ((hmem _).mp h1).1, rfl⟩)
    obtain ⟨zs, f', e1, hf', zn, zm⟩ := done_fold hes rd (fun z => if z ∈ rd then -1 else f z) [] rnd rsub hd
    rw [List.nil_append] at e1
    have hlm : ∀ x, x ∈ left.filter (later es left) ↔ x ∈ left ∧ later es left x = true := fun x => List.mem_filter
    have hsp : ∀ z, cntFrom es left z = cntFrom es rd z + cntFrom es (left.filter (later es left)) z := cntFrom_split (fun x => by
      rw [hmem, hlm]
      cases later es left x <;> simp) fun x h1 h2 => by
      have h1 := (hmem x).mp h1
      have h2 := (hlm x).mp h2
      rw [h1.2] at h2; cases h2.2
    obtain ⟨gs', hrun, hpm⟩ := ih f' zs (nd.filter _) (Nat.le_trans (List.length_filter_le _ _) hz) (fun x hx => hsub x ((hlm x).mp hx).1) (fun e he h1 => by
        have h1 := (hlm _).mp h1
        exact (hlm _).mpr ⟨hcl e he h1.1, later_iff.mpr ⟨e, he, h1.1, rfl⟩⟩) (fun x hx => by
        have h1 := (hlm x).mp hx
        have h2 : x ∉ rd := fun q => by have := ((hmem x).mp q).2; rw [this] at h1; cases h1.2
        rw [hf' x h2, if_neg h2, hf x h1.1, hsp x]
        omega) (by
        rw [List.perm_ext_iff_of_nodup zn ((nd.filter _).filter _)]
        intro z
        rw [zm, List.mem_filter, hlm]
        by_cases h2 : z ∈ rd
        · have h0 : cntFrom es rd z = 0 := cntFrom_zero fun e he h1 h3 => hd e he h1 (h3 ▸ h2)
          have h3 := ((hmem z).mp h2).2
          rw [h0, h3]
          simp [h2]
        · simp only [if_neg h2]
          by_cases h3 : z ∈ left
          · have h4 : later es left z = true := by
              cases q : later es left z with
              | true => rfl
              | false => exact absurd ((hmem z).mpr ⟨h3, q⟩) h2
            have h5 : 0 < cntFrom es left z := cntFrom_pos.mpr (later_iff.mp h4)
            rw [hf z h3]
            have h6 := hsp z
            have h7 : (later es (left.filter (later es left)) z = true) ↔ 0 < cntFrom es (left.filter (later es left)) z := later_iff.trans cntFrom_pos.symm
            simp only [h3, h4, and_self, true_and, Bool.not_eq_true', ← Bool.not_eq_true, h7]
            omega
          · have h0 : cntFrom es rd z = 0 := cntFrom_zero fun e he h1 h4 => h3 (h4 ▸ hcl e he ((hmem _).mp h1).1)
            rw [h0]
            simp only [h3, false_and, iff_false]
            omega)
    refine ⟨rd :: gs', .step rne rle (by rw [stG_names]; exact rsub) ?_ ?_, .cons hp hpm⟩
    · intro i hi
      have ht : ∀ x ∈ rd.take i, x ∈ rd := fun x hx => List.mem_of_mem_take hx
      have hni : rd[i] ∉ rd.take i := by
        intro hm
        obtain ⟨j, hj, e⟩ := List.getElem_of_mem hm
        rw [List.getElem_take] at e
        have hj' : j < i := by rw [List.length_take] at hj; omega
        exact absurd (List.getElem_inj rnd |>.mp e) (by omega)
      obtain ⟨zs1, f1, e2, hf1, _, _⟩ := done_fold hes (rd.take i) (fun z => if z ∈ rd then -1 else f z) [] (rnd.sublist (List.take_sublist _ _)) (fun x hx => rsub x (ht x hx)) fun e he h1 h2 => hd e he (ht _ h1) (ht _ h2)
      rw [outG_st, e2]
      show cntOf (stG ns es f1) rd[i] = -1
      rw [cntOf_st (rsub _ (List.getElem_mem hi)), hf1 _ hni, if_pos (List.getElem_mem hi), cntFrom_zero fun e he h1 h2 => hd e he (ht _ h1) (h2 ▸ List.getElem_mem hi)]
      rfl
    · rw [outG_st, e1]
      exact hrun
end Mine
end

section
open PySem PySem.W PyProof.Rows PySem.Calls
namespace Mine
theorem pm_flat {gs' gs : List (List Str)} (h : GPm gs' gs) : (∀ g ∈ gs, ∃ x, g = [x]) → gs'.flatten = gs.flatten := by
  induction h with
  | nil => intro _; rfl
  | cons hp _ ih =>
    intro h
    obtain ⟨x, rfl⟩ := h _ (.head _)
    rw [List.perm_singleton.mp hp, List.flatten_cons, List.flatten_cons, ih fun g hg => h g (.tail _ hg)]
theorem pm_len {gs' gs : List (List Str)} (h : GPm gs' gs) : gs'.length = gs.length := by
  induction h with
  | nil => rfl
  | cons _ _ ih => rw [List.length_cons, List.length_cons, ih]

/-- the rounds of a full graph: one text each, in their order -/
theorem rnd_full {ns : List Str} {es : List (Str × Str)} (up : ∀ e ∈ es, SL e.1 e.2) (all : ∀ x ∈ ns, ∀ y ∈ ns, SL x y → (x, y) ∈ es) {left : List Str} {gs : List (List Str)} (hr : Rnd es left gs) :
    left.Nodup → (∀ x ∈ left, x ∈ ns) → (∀ g ∈ gs, ∃ x, g = [x]) ∧ gs.flatten.Perm left ∧ gs.flatten.Pairwise SL := by
  induction hr with
  | stop => intro _ _; exact ⟨(fun g hg => by cases hg), .refl _, .nil⟩
  | @step left gs hne hg ih =>
    intro nd hsub
    obtain ⟨i1, i2, i3⟩ := ih (nd.filter _) fun x hx => hsub x (List.mem_filter.mp hx).1
    obtain ⟨m, hm, q⟩ := first_ne up hne
    have hmin : ∀ y ∈ left, later es left y = false → y = m := by
      intro y hy qy
      rcases SL.tri y m with h | h | h
      · have : later es left m = true := later_iff.mpr ⟨_, all y (hsub y hy) m (hsub m hm) h, hy, rfl⟩
        rw [this] at q; cases q
      · exact h
      · have : later es left y = true := later_iff.mpr ⟨_, all m (hsub m hm) y (hsub y hy) h, hm, rfl⟩
        rw [this] at qy; cases qy
    have hg1 : left.filter (fun x => !later es left x) = [m] := by
      have h1 : (left.filter (fun x => !later es left x)).Perm [m] := by
        rw [List.perm_ext_iff_of_nodup (nd.filter _) (List.nodup_cons.mpr ⟨List.not_mem_nil, .nil⟩)]
        intro z
        rw [List.mem_filter, List.mem_singleton]
        constructor
        · rintro ⟨h1, h2⟩; exact hmin z h1 (by simpa using h2)
        · rintro rfl; exact ⟨hm, by simp [q]⟩
      exact List.perm_singleton.mp h1
    rw [hg1]
    refine ⟨fun g hg => ?_, ?_, ?_⟩
    · rcases List.mem_cons.mp hg with rfl | hg
      · exact ⟨m, rfl⟩
      · exact i1 g hg
    · rw [List.flatten_cons, ← hg1]
      have h2 : (left.filter (fun x => !later es left x) ++ left.filter (later es left)).Perm left := (List.perm_append_comm).trans (List.filter_append_perm _ _)
      exact (i2.append_left _).trans h2
    · rw [List.flatten_cons, List.singleton_append, List.pairwise_cons]
      refine ⟨fun y hy => ?_, i3⟩
      have hy := List.mem_filter.mp (i2.mem_iff.mp hy)
      rcases SL.tri m y with h | h | h
      · exact h
      · subst h; rw [q] at hy; cases hy.2
      · have : later es left m = true := later_iff.mpr ⟨_, all y (hsub y hy.1) m (hsub m hm) h, hy.1, rfl⟩
        rw [this] at q; cases q

/-- two rows in order with the same texts are the same -/
theorem eq_of_pw : ∀ {a b : List Str}, a.Perm b → a.Pairwise (fun x y => ¬ SL y x) → b.Pairwise (fun x y => ¬ SL y x) → a = b
  | [], b, h, _, _ => (List.Perm.eq_nil h.symm).symm
  | x :: r, [], h, _, _ => absurd (List.Perm.eq_nil h) (by simp)
  | x :: r, y :: s, h, h1, h2 => by
    have hx := List.pairwise_cons.mp h1
    have hy := List.pairwise_cons.mp h2
    have e : x = y := by
      rcases List.mem_cons.mp (h.mem_iff.mp (.head _)) with e | hm
      · exact e
      · rcases List.mem_cons.mp (h.symm.mem_iff.mp (.head _)) with e | hm'
        · exact e.symm
        · rcases SL.tri x y with q | q | q
          · exact absurd q (hy.1 x hm)
          · exact q
          · exact absurd q (hx.1 y hm')
    subst e
    rw [eq_of_pw (List.perm_cons x |>.mp h) hx.2 hy.2]
theorem pw_weak {a : List Str} (h : a.Pairwise SL) : a.Pairwise (fun x y => ¬ SL y x) := h.imp fun q => q.asym

theorem pw_nodup {a : List Str} (h : a.Pairwise SL) : a.Nodup := List.Pairwise.imp (fun {x y} (q : SL x y) (e : x = y) => SL.irr y (e ▸ q)) h
/-- texts, name by name -/
theorem flat_perm : ∀ {row : List Str} {ts : List Str}, row.Nodup → (∀ x ∈ ts, x ∈ row) → (row.flatMap fun n => ts.filter fun x => x = n).Perm ts
  | [], ts, _, h => by
    have : ts = [] := List.eq_nil_iff_forall_not_mem.mpr fun x hx => by cases h x hx
    subst this; exact .refl _
  | n :: row, ts, nd, h => by
    obtain ⟨h1, h2⟩ := List.nodup_cons.mp nd
    have ih := flat_perm (row := row) (ts := ts.filter fun x => !decide (x = n)) h2 fun x hx => by
      have hx := List.mem_filter.mp hx
      rcases List.mem_cons.mp (h x hx.1) with e | q
      · subst e; simp at hx
      · exact q
    have e1 : (row.flatMap fun m => (ts.filter fun x => !decide (x = n)).filter fun x => x = m) = row.flatMap fun m => ts.filter fun x => x = m := by
      rw [List.flatMap_def, List.flatMap_def]
      congr 1
      refine List.map_congr_left fun m hm => ?_
      rw [List.filter_filter]
      refine List.filter_congr fun x _ => ?_
      have : n ≠ m := fun q => h1 (q ▸ hm)
      by_cases q : x = m
      · subst q; simp [Ne.symm this]
      · simp [q]
    rw [e1] at ih
    rw [List.flatMap_cons]
    exact (ih.append_left _).trans (List.filter_append_perm _ _)
theorem flat_pw {ts : List Str} : ∀ {row : List Str}, row.Pairwise SL → (row.flatMap fun n => ts.filter fun x => x = n).Pairwise (fun x y => ¬ SL y x)
  | [], _ => .nil
  | n :: row, h => by
    obtain ⟨h1, h2⟩ := List.pairwise_cons.mp h
    rw [List.flatMap_cons, List.pairwise_append]
    refine ⟨?_, flat_pw h2, ?_⟩
    · refine List.pairwise_of_forall_mem_list fun a ha b hb => ?_
      have ha := (List.mem_filter.mp ha).2
      have hb := (List.mem_filter.mp hb).2
      simp only [decide_eq_true_eq] at ha hb
      subst ha; subst hb; exact SL.irr _
    · intro a ha b hb
      have ha := (List.mem_filter.mp ha).2
      obtain ⟨m, hm, hb⟩ := List.mem_flatMap.mp hb
      have hb := (List.mem_filter.mp hb).2
      simp only [decide_eq_true_eq] at ha hb
      subst ha; subst hb
      exact (h1 _ hm).asym
/-- sorted(texts, key) = [one for name in row for one in texts if one == name] -/
theorem sorted_row {ts row ss : List Str} (hr : row.Pairwise SL) (h : ∀ x ∈ ts, x ∈ row) (hp : ss.Perm ts) (hs : ss.Pairwise fun x y => ¬ SL y x) : ss = row.flatMap fun n => ts.filter fun x => x = n :=
  eq_of_pw (hp.trans (flat_perm (pw_nodup hr) h).symm) hs (flat_pw hr)

/-- how many names go ahead of one -/
noncomputable def rankOf (ns : List Str) (x : Str) : Nat := ns.countP fun y => decide (SL y x)
theorem rank_perm {a b : List Str} (h : a.Perm b) (x : Str) : rankOf a x = rankOf b x := h.countP_eq _
theorem rank_at {srt : List Str} (h : srt.Pairwise SL) (k : Nat) (hk : k < srt.length) : rankOf srt srt[k] = k := by
  unfold rankOf
  have h1 : srt.take k ++ srt.drop k = srt := List.take_append_drop _ _
  have e : srt.countP (fun y => decide (SL y srt[k])) = (srt.take k).countP (fun y => decide (SL y srt[k])) + (srt.drop k).countP (fun y => decide (SL y srt[k])) := by
    rw [← List.countP_append, h1]
  rw [e]
  have hg := List.pairwise_iff_getElem.mp h
  have e1 : (srt.take k).countP (fun y => decide (SL y srt[k])) = k := by
    rw [List.countP_eq_length.mpr, List.length_take]
    · omega
    · intro y hy
      obtain ⟨j, hj, rfl⟩ := List.getElem_of_mem hy
      rw [List.getElem_take]
      rw [List.length_take] at hj
      exact decide_eq_true (hg j k (by omega) hk (by omega))
  have e2 : (srt.drop k).countP (fun y => decide (SL y srt[k])) = 0 := by
    rw [List.countP_eq_zero]
    intro y hy
    obtain ⟨j, hj, rfl⟩ := List.getElem_of_mem hy
    rw [List.length_drop] at hj
    rw [List.getElem_drop]
    simp only [decide_eq_true_eq]
    rcases Nat.eq_zero_or_pos j with rfl | hj0
    · exact SL.irr _
    · exact (hg k (k + j) hk (by omega) (by omega)).asym
  omega
/-- the name at the place where the rank is k -/
theorem row_at {ns srt : List Str} (hp : srt.Perm ns) (hs : srt.Pairwise SL) {k i : Nat} (hk : k < srt.length) (hi : i < ns.length) (hr : rankOf ns ns[i] = k) : ns[i] = srt[k] := by
  have hm : ns[i] ∈ srt := hp.mem_iff.mpr (List.getElem_mem hi)
  obtain ⟨j, hj, e⟩ := List.getElem_of_mem hm
  have h1 := rank_at hs j hj
  rw [rank_perm hp, e, hr] at h1
  subst h1
  exact e.symm
theorem rank_has {ns srt : List Str} (hp : srt.Perm ns) (hs : srt.Pairwise SL) {k : Nat} (hk : k < ns.length) : ∃ i, ∃ hi : i < ns.length, rankOf ns ns[i] = k := by
  have hk' : k < srt.length := by rw [hp.length_eq]; exact hk
  have hm : srt[k] ∈ ns := hp.mem_iff.mp (List.getElem_mem hk')
  obtain ⟨i, hi, e⟩ := List.getElem_of_mem hm
  exact ⟨i, hi, by rw [e, ← rank_perm hp]; exact rank_at hs k hk'⟩

/-- names: each text once -/
noncomputable def namesOf (ts : List Str) : List Str := ts.foldl (fun ns x => ensL x ns) []
theorem namesOf_snoc (ts : List Str) (x : Str) : namesOf (ts ++ [x]) = ensL x (namesOf ts) := by unfold namesOf; rw [List.foldl_append]; rfl
theorem mem_ensL {x y : Str} {ns : List Str} : y ∈ ensL x ns ↔ y ∈ ns ∨ y = x := by
  unfold ensL
  split
  · next h => exact ⟨.inl, fun q => q.elim id fun e => e ▸ h⟩
  · rw [List.mem_append, List.mem_singleton]
theorem nodup_ensL {x : Str} {ns : List Str} (h : ns.Nodup) : (ensL x ns).Nodup := by
  unfold ensL
  split
  · exact h
  · next q => rw [List.nodup_append]; exact ⟨h, List.nodup_cons.mpr ⟨List.not_mem_nil, .nil⟩, fun a ha b hb e => q (by rw [List.mem_singleton.mp hb] at e; exact e ▸ ha)⟩
theorem len_ensL {x : Str} {ns : List Str} : (ensL x ns).length ≤ ns.length + 1 := by
  unfold ensL
  split
  · omega
  · rw [List.length_append]; exact Nat.le_refl _
theorem namesOf_take (ts : List Str) (i : Nat) (hi : i < ts.length) : namesOf (ts.take (i + 1)) = ensL ts[i] (namesOf (ts.take i)) := by
  rw [List.take_add_one, List.getElem?_eq_getElem hi]
  exact namesOf_snoc _ _
theorem mem_namesOf (ts : List Str) : ∀ (i : Nat), i ≤ ts.length → ∀ x, x ∈ namesOf (ts.take i) ↔ x ∈ ts.take i
  | 0, _, x => by simp [namesOf]
  | i + 1, h, x => by
    rw [namesOf_take ts i h, mem_ensL, mem_namesOf ts i (by omega)]
    have : ts.take (i + 1) = ts.take i ++ [ts[i]] := by rw [List.take_add_one, List.getElem?_eq_getElem h]; rfl
    rw [this, List.mem_append, List.mem_singleton]
theorem nodup_namesOf (ts : List Str) : ∀ (i : Nat), i ≤ ts.length → (namesOf (ts.take i)).Nodup
  | 0, _ => by simp [namesOf]
  | i + 1, h => by rw [namesOf_take ts i h]; exact nodup_ensL (nodup_namesOf ts i (by omega))
theorem len_namesOf (ts : List Str) : ∀ (i : Nat), i ≤ ts.length → (namesOf (ts.take i)).length ≤ i
  | 0, _ => by simp [namesOf]
  | i + 1, h => by rw [namesOf_take ts i h]; exact Nat.le_trans len_ensL (by have := len_namesOf ts i (by omega); omega)
end Mine
end

section
open PySem PySem.W PyProof.Rows PySem.Calls
namespace Mine
theorem set_perm {α : Type} : ∀ (l : List α) (j : Nat) (p : α), j < l.length → (p :: l.eraseIdx j).Perm (l.set j p)
  | [], j, p, h => absurd h (Nat.not_lt_zero _)
  | a :: r, 0, p, _ => List.Perm.refl _
  | a :: r, j + 1, p, h => by
    rw [List.eraseIdx_cons_succ, List.set_cons_succ]
    exact (List.Perm.swap _ _ _).trans ((set_perm r j p (by simpa using h)).cons a)

section
variable {w : World} {h₀ : Heap} {A : Around} {E : Value → Shared → Prop} {h h' : Heap} {g : Array GenState} {d : Drawn} {t : Nat} {os : OsState} {led rest own : List (Addr × OP)} {env : Env} {outer : List Env} {gs : GenState}

theorem Led.unpick {a : Addr} {P P' : OP} {l : List (Addr × OP)} (j : Nat) (hj : l[j]? = some (a, P)) (D : Led h₀ h ((a, P') :: l.eraseIdx j)) : Led h₀ h (l.set j (a, P')) :=
  D.perm (set_perm l j _ (List.getElem?_eq_some_iff.mp hj).1)

/-- one item of an iterator to a name -/
theorem nz_draw {it : Addr} {ip : Nat → OP} {src : Addr × OP} {n i : Nat} {VP : Nat → Value → Prop} {x : Str} {p : Pos} {Q : Unit → Shared → Prop} {N' : Shared → Prop} (N : Ny w it ip src n VP) (D : Led h₀ h led) (j : Nat) (hj : led[j]? = some (it, ip i))
    (hs : src ∈ led.eraseIdx j) (hi : i < n) (q : ∀ v h' t', VP i v → Led h₀ h' (led.set j (it, ip (i + 1))) → wpAny (model PR w) A (storeName env x v) Q E ⟨h', g, d, t', os⟩) :
    draw w A (.Name x p) (.ref it) env Q N' E ⟨h, g, d, t, os⟩ := by
  obtain ⟨k, hk⟩ := List.mem_iff_getElem?.mp hs
  refine N.item i k hi (D.pick j hj) hk fun v h' t' hv D1 => ?_
  exact wpAny_pure (wpAny_assign_Name (q v h' t' hv (D1.unpick j hj)))
theorem nz_end {it : Addr} {ip : Nat → OP} {src : Addr × OP} {n : Nat} {VP : Nat → Value → Prop} {target : Expr} {Q : Unit → Shared → Prop} {N' : Shared → Prop} (N : Ny w it ip src n VP) (hA : A.handled = none) (D : Led h₀ h led) (j : Nat) (hj : led[j]? = some (it, ip n))
    (hs : src ∈ led.eraseIdx j) (q : ∀ h', Led h₀ h' (led.eraseIdx j) → N' ⟨h', g, d, t, os⟩) : draw w A target (.ref it) env Q N' E ⟨h, g, d, t, os⟩ := by
  obtain ⟨k, hk⟩ := List.mem_iff_getElem?.mp hs
  exact N.stop k hA (D.pick j hj) hk fun h' D1 => q h' D1

/-- an iterator over any list -/
theorem nz_ls (it T : Addr) (vs : List Value) : Nz w it (liP T) (T, lsP vs) vs.length (fun i v => vs[i]? = some v) where
  item i k hi D hk q := (nx_lst it T vs).item i k vs[i] (by simp [hi]) D hk fun h' D' => q _ h' _ (by simp [hi]) D'
  stop k hh D hk q := (nx_lst it T vs).stop vs.length k hh (by simp) D hk q
  self D q := by
    obtain ⟨o, ho, hc, hd⟩ := D.hd
    exact wpAny_pyIter_listiter (l := T) (i := 0) ⟨o, ho, hc, hd⟩ q
end
end Mine
end

section
open PySem PySem.W PyProof.Rows PySem.Calls
namespace Mine
/-- a list of pairs of texts -/
noncomputable abbrev Pr := Addr × (Str × Tok) × (Str × Tok)
noncomputable def prV (p : Pr) : Value := .ref p.1
noncomputable def prO (p : Pr) : Addr × OP := (p.1, tpP [.str p.2.1.1 p.2.1.2, .str p.2.2.1 p.2.2.2])
noncomputable def prE (ps : List Pr) : List (Str × Str) := ps.map fun p => (p.2.1.1, p.2.2.1)

section
variable {w : World} {h₀ : Heap} {A : Around} {E : Value → Shared → Prop} {h h' : Heap} {g : Array GenState} {d : Drawn} {t : Nat} {os : OsState} {led rest own : List (Addr × OP)} {env : Env} {outer : List Env} {gs : GenState}

theorem pr_draw {a b : Str} {pa pb p : Pos} {k : Nat} {it l : Addr} {ps : List Pr} {i : Nat} {m : Str → Option Value} {Q : Unit → Shared → Prop} {N : Shared → Prop} (hA : A.handled = none)
    (D : Led h₀ h ((env.locals, nsP m) :: led)) (j : Nat) (hj : led[j]? = some (it, liP l i)) (hs : (l, lsP (ps.map prV)) ∈ led.eraseIdx j) (hp : ∀ p ∈ ps, prO p ∈ led.set j (it, liP l (i + 1))) (hi : i < ps.length)
    (q : ∀ h' t', Led h₀ h' ((env.locals, nsP (fun y => if y = b then some (.str ps[i].2.2.1 ps[i].2.2.2) else if y = a then some (.str ps[i].2.1.1 ps[i].2.1.2) else m y)) :: led.set j (it, liP l (i + 1))) → Q () ⟨h', g, d, t', os⟩)
    (hk : env.scope.kind = .function := by rfl) (ha : env.kindOf a = some .local := by rfl) (hb : env.kindOf b = some .local := by rfl) :
    draw w A (.Tuple [.Name a pa, .Name b pb] k p) (.ref it) env Q N E ⟨h, g, d, t, os⟩ := by
  have hj' : ((env.locals, nsP m) :: led)[j + 1]? = some (it, liP l i) := by simpa using hj
  have hs' : (l, lsP (ps.map prV)) ∈ ((env.locals, nsP m) :: led).eraseIdx (j + 1) := List.mem_cons_of_mem _ hs
  obtain ⟨k, hk'⟩ := List.mem_iff_getElem?.mp hs'
  refine (nz_ls it l (ps.map prV)).item i k (by simpa using hi) (D.pick (j + 1) hj') hk' fun v h1 t1 hv D1 => ?_
  have D2 : Led h₀ h1 ((env.locals, nsP m) :: led.set j (it, liP l (i + 1))) := D1.unpick (j + 1) hj'
  obtain rfl : v = .ref ps[i].1 := by
    have : (ps.map prV)[i]? = some (.ref ps[i].1) := by simp [hi, prV]
    rw [this] at hv; exact (Option.some.inj hv).symm
  obtain ⟨o, ho, hc, hd⟩ := D1.hd
  refine wpAny_letOwnedTupleGo_listiter ⟨o, ho, hc, hd⟩ ?_
  obtain ⟨oT, hoT, n, rfl⟩ := D2.get (.tail _ (hp ps[i] (List.getElem_mem hi)))
  exact q_unpack2 hA D2 (T := ps[i].1) ⟨_, hoT, rfl, n, rfl⟩ (fun h' t' D3 => q h' t' D3) hk ha hb
theorem pr_end {target : Expr} {it l : Addr} {ps : List Pr} {Q : Unit → Shared → Prop} {N : Shared → Prop} (hA : A.handled = none)
    (D : Led h₀ h led) (j : Nat) (hj : led[j]? = some (it, liP l ps.length)) (hs : (l, lsP (ps.map prV)) ∈ led.eraseIdx j) (q : ∀ h', Led h₀ h' (led.eraseIdx j) → N ⟨h', g, d, t, os⟩) : draw w A target (.ref it) env Q N E ⟨h, g, d, t, os⟩ :=
  nz_end (n := (ps.map prV).length) (nz_ls it l (ps.map prV)).toNy hA D j (by rw [List.length_map]; exact hj) hs q
end
end Mine
end

section
open PySem PySem.W PyProof.Rows PySem.Calls
namespace Mine
section
variable {w : World} {h₀ : Heap} {A : Around} {E : Value → Shared → Prop} {h h' : Heap} {g : Array GenState} {d : Drawn} {t : Nat} {os : OsState} {led rest own : List (Addr × OP)} {env : Env} {outer : List Env} {gs : GenState}

theorem q_iterLm {T : Addr} {vs : List Value} {f : Addr × OP} {Q : Value → Shared → Prop} (D : Led h₀ h (f :: led)) (hm : (T, lsP vs) ∈ f :: led)
    (q : ∀ it h', Led h₀ h' (f :: (it, liP T 0) :: led) → Q (.ref it) ⟨h', g, d, t, os⟩) : wpAny (model PR w) A (pyIter (.ref T)) Q E ⟨h, g, d, t, os⟩ := by
  obtain ⟨k, hk⟩ := List.mem_iff_getElem?.mp hm
  exact q_iterLst D k hk q
theorem str_beq (x y : Str) : (x == y) = decide (x = y) := by rw [Bool.eq_iff_iff]; simp
theorem q_eqS {x y : Str} {u v : Tok} {Q : Value → Shared → Prop} (q : Q (.bool (decide (x = y))) ⟨h, g, d, t, os⟩) : wpAny (model PR w) A (compareOp .Eq (.str x u) (.str y v)) Q E ⟨h, g, d, t, os⟩ :=
  eq_str (by rw [str_beq]; exact q)
theorem q_neS {x y : Str} {u v : Tok} {Q : Value → Shared → Prop} (q : Q (.bool (!decide (x = y))) ⟨h, g, d, t, os⟩) : wpAny (model PR w) A (compareOp .NotEq (.str x u) (.str y v)) Q E ⟨h, g, d, t, os⟩ :=
  ne_str (by rw [bne, str_beq]; exact q)
theorem later_snoc (es : List (Str × Str)) (e : Str × Str) (left : List Str) (x : Str) : later (es ++ [e]) left x = (later es left x || (decide (e.2 = x) && decide (e.1 ∈ left))) := by
  unfold later; rw [List.any_append]; simp
theorem GPm.snoc {r s : List (List Str)} {a b : List Str} (h : GPm r s) (p : a.Perm b) : GPm (r ++ [a]) (s ++ [b]) := by
  induction h with
  | nil => exact .cons p .nil
  | cons q _ ih => exact .cons q ih
theorem rot2 {α : Type} (a b c : α) (r : List α) : (a :: b :: c :: r).Perm (b :: c :: a :: r) := (List.Perm.swap ..).trans ((List.Perm.swap ..).cons _)
theorem perm_eq {α : Type} {a b : List α} (h : a = b) : a.Perm b := h ▸ List.Perm.refl _
noncomputable def duO (p : Addr × List Str) : Addr × OP := (p.1, stP p.2)
theorem rounds_ {nA sA : Addr} {ns : List Str} {ps : List Pr} {gs : List (List Str)} {Q : Value → Shared → Prop} (O : Ok w h₀) (R : Rm 6 A) (D : Led h₀ h led) (hn : (nA, stP ns) ∈ led) (hs : (sA, lsP (ps.map prV)) ∈ led) (hp : ∀ p ∈ ps, prO p ∈ led) (hr : Rnd (prE ps) ns gs) (hg : gs.length ≤ 60) (hz : ns.length < 60) (hpz : ps.length ≤ 1000)
    (q : ∀ (Rl : Addr) (ds : List (Addr × List Str)) h' tk, GPm (ds.map (·.2)) gs → (∀ p ∈ ds, p.2.Pairwise fun a b => ¬ SL b a) → Led h₀ h' ((Rl, lsP (ds.map fun p : Addr × List Str => .ref p.1)) :: (ds.map duO ++ led)) → Q (.ref Rl) ⟨h', g, d, tk, os⟩) :
    wpAny (model PR w) A (call (.ref 179) [.ref nA, .ref sA]) Q E ⟨h, g, d, t, os⟩ := by
  refine r_callC O D R.room (a := 179) (binds := [("names", .ref nA), ("steps", .ref sA)]) (by rfl) (by rfl) (by rfl) (by rfl) (by rfl) (by rfl) (fun L => by show ([("later" : Str), "left", "steps"] : List Str).Nodup; decide) (fun L x hx => ?_) ?_
  · rcases List.mem_cons.mp hx with rfl | hx
    · exact .inl (by rfl)
    · obtain rfl := List.mem_singleton.mp hx
      exact .inr ⟨by rfl, by rfl⟩
  intro L h₁ tk E' D1
  refine wpAny_execs_cons (wpAny_Assign_Name (q_list0 D1 fun rl h2 D2 => r_store D2 fun h3 D3 => ?_))
  refine wpAny_execs_cons (wpAny_Assign_Name (r_local D3 (by rfl) (r_storeC D3 3 rfl fun h4 D4 => ?_)))
  have D4a : ∃ m cv, m ("rounds" : Str) = some (.ref rl) ∧ Led h₀ h4 ((L, nsP m) :: (rl, lsP []) :: (L + 1 + 1 + 1, ceP cv) :: (L + 1 + 1, ceP (some (.ref nA))) :: (L + 1, ceP (some (.ref sA))) :: led) := ⟨_, _, rfl, D4⟩
  obtain ⟨m4, cv4, hm4, D4b⟩ := D4a
  refine wpAny_execs_cons (wpAny_While (codeAny_whileLoop (fun k s => ∃ left lA X ds gd gr cv m h t, s = ⟨h, g, d, t, os⟩ ∧ m ("rounds" : Str) = some (.ref rl) ∧ Rnd (prE ps) left gr ∧ gr.length = k ∧ gs = gd ++ gr ∧ GPm (ds.map (·.2)) gd ∧ (∀ p ∈ ds, p.2.Pairwise fun a b => ¬ SL b a) ∧ left.length < 60 ∧ (lA, stP left) ∈ X ++ (ds.map duO ++ led) ∧
    Led h₀ h ((L, nsP m) :: (rl, lsP (ds.map fun p : Addr × List Str => .ref p.1)) :: (L + 1 + 1 + 1, ceP cv) :: (L + 1 + 1, ceP (some (.ref lA))) :: (L + 1, ceP (some (.ref sA))) :: (X ++ (ds.map duO ++ led)))) ?turn gs.length ⟨ns, nA, [], [], [], gs, cv4, m4, h4, _, rfl, hm4, hr, rfl, rfl, .nil, by simp, hz, hn, D4b⟩))
  rintro k s ⟨left, lA, X, ds, gd, gr, cv, m, h5, t5, rfl, hm5, hr5, hk, hgs, hpm, hso, hz5, hl5, D5⟩
  refine hide fun K1 E1 hK1 => ?_
  refine wpAny_isTrue_Compare1 (r_cell D5 3 rfl (q_list0 D5 fun e0 h6 D6 => ?_))
  have D6' := D6.reI (P' := stP []) 1 rfl fun o _ e => stP_nil o e
  refine q_neT D6' (xs := left) (ys := []) (List.mem_of_mem_drop (i := 6) hl5) (.tail _ (.head _)) (R.deeper _).units (wpAny_truthy_bool ?_)
  by_cases hleft : left = []
  · subst hleft
    rw [show (!decide (([] : List Str) = [])) = false by simp]
    refine hK1 _ _ ?_
    rw [if_neg (by decide)]
    refine wpAny_execs_nil ?_
    refine wpAny_execs_cons (wpAny_Return_some (r_local D6 hm5 ?_))
    cases hr5 with
    | stop =>
      rw [List.append_nil] at hgs
      subst hgs
      exact q rl ds h6 _ hpm hso (D6.tail.tail.sub (.cons_cons _ (.cons _ (.cons _ (.cons _ (List.sublist_append_right _ _))))))
    | step h _ => exact absurd rfl h
  · rw [show (!decide (left = [])) = true by simp [hleft]]
    refine hK1 _ _ ?_
    rw [if_pos rfl]
    refine hide fun K2 E2 hK2 => ?_
    have D7 : Led h₀ h6 ((L, nsP m) :: (rl, lsP (ds.map fun p : Addr × List Str => .ref p.1)) :: (L + 1 + 1 + 1, ceP cv) :: (L + 1 + 1, ceP (some (.ref lA))) :: (L + 1, ceP (some (.ref sA))) :: (X ++ (ds.map duO ++ led))) := D6.swap.tail
    refine wpAny_execs_cons (wpAny_Assign_Name (r_listComp (cl := [("steps", L + 1), ("left", L + 1 + 1)]) (by rfl) (by rfl) (by decide) (r_cell D7 3 rfl (q_iterSt D7 (List.mem_of_mem_drop (i := 5) hl5) fun it h8 D8 => ?_))))
    refine r_compD (pf := fun C τ => [(C + 1, ceP τ)]) (τ₀ := none) (n := left.length) (fun s : List Value => s)
      (fun i _ => (L, nsP m) :: (it, liP lA i) :: (rl, lsP (ds.map fun p : Addr × List Str => .ref p.1)) :: (L + 1 + 1 + 1, ceP cv) :: (L + 1 + 1, ceP (some (.ref lA))) :: (L + 1, ceP (some (.ref sA))) :: (X ++ (ds.map duO ++ led)))
      (fun _ => (L, nsP m) :: (rl, lsP (ds.map fun p : Addr × List Str => .ref p.1)) :: (L + 1 + 1 + 1, ceP cv) :: (L + 1 + 1, ceP (some (.ref lA))) :: (L + 1, ceP (some (.ref sA))) :: (X ++ (ds.map duO ++ led)))
      (fun i s => TX s ((left.take i).filter (later (prE ps) left))) (fun C i s _ τ => ∃ x u, left[i]? = some x ∧ τ = some (.str x u)) [] (fun C => by rfl) D8 rfl rfl ?clen ?cself ?citem ?cstop ?cturn ?cfin
    case clen =>
      intro i s hJ
      have h1 := hJ.len
      have h2 := List.length_filter_le (later (prE ps) left) (left.take i)
      have h3 := List.length_take_le i left
      show s.length ≤ 90000
      have h4 := List.length_take_le' i left
      omega
    case cself =>
      intro led' h t E Q D q
      obtain ⟨o, ho, hc, hd⟩ := D.get (a := it) (P := liP lA 0) (List.mem_append_right _ (.tail _ (.head _)))
      exact wpAny_pyIter_listiter (l := lA) (i := 0) ⟨o, ho, hc, hd⟩ q
    case citem =>
      intro C a i s m' τ h t E Q N hi hJ D q
      refine nz_draw (nz_st it lA left).toNy D 4 rfl (List.mem_of_mem_drop (i := 8) hl5) hi fun v h' t' hv D' => ?_
      obtain ⟨x, u, hx, rfl⟩ := hv
      exact r_storeC D' 1 rfl fun h2 D2 => q _ _ _ _ ⟨x, u, hx, rfl⟩ D2
    case cstop =>
      intro C a s m' τ h t E Q N hJ D q
      refine nz_end (nz_st it lA left).toNy (R.deeper _).hd D 4 rfl (List.mem_of_mem_drop (i := 8) hl5) fun h' D' => ?_
      exact q _ _ (D'.sub (.cons_cons _ (.cons _ (List.Sublist.refl _))))
    case cturn =>
      rintro C a i s m' τ h9 t9 E9 hi hJ ⟨x, u, hx, rfl⟩ D9
      refine hide fun K3 E3 hK3 => ?_
      refine wpAny_tests_one (wpAny_isTrue_Compare1 (r_listComp (cl := [("name", C + 1), ("left", L + 1 + 1)]) (by rfl) (by rfl) (by decide) (r_cell D9 8 rfl (q_iterLm D9 (List.mem_of_mem_drop (i := 9) (List.mem_append_right _ (List.mem_append_right _ hs))) fun it2 h10 D10 => ?_))))
      refine r_compD (pf := fun _ (_ : Unit) => []) (τ₀ := ()) (n := ps.length) (fun s : List Value => s)
        (fun i _ => (C, nsP m') :: (it2, liP sA i) :: (C + 1, ceP (some (.str x u))) :: (a, lsP s) :: (L, nsP m) :: (it, liP lA _) :: (rl, lsP (ds.map fun p : Addr × List Str => .ref p.1)) :: (L + 1 + 1 + 1, ceP cv) :: (L + 1 + 1, ceP (some (.ref lA))) :: (L + 1, ceP (some (.ref sA))) :: (X ++ (ds.map duO ++ led)))
        (fun _ => (C, nsP m') :: (C + 1, ceP (some (.str x u))) :: (a, lsP s) :: (L, nsP m) :: (it, liP lA (i + 1)) :: (rl, lsP (ds.map fun p : Addr × List Str => .ref p.1)) :: (L + 1 + 1 + 1, ceP cv) :: (L + 1 + 1, ceP (some (.ref lA))) :: (L + 1, ceP (some (.ref sA))) :: (X ++ (ds.map duO ++ led)))
        (fun i s => s.length ≤ i ∧ i ≤ ps.length ∧ s.isEmpty = !later (prE (ps.take i)) left x) (fun _ i _ m2 _ => ∃ p, ps[i]? = some p ∧ m2 ("one" : Str) = some (.str p.2.2.1 p.2.2.2) ∧ m2 ("ahead" : Str) = some (.str p.2.1.1 p.2.1.2)) [] (fun C => by rfl) D10 rfl ⟨by simp, by simp, by simp [prE, later]⟩ ?dlen ?dself ?ditem ?dstop ?dturn ?dfin
      case dlen => intro i s hJ; show s.length ≤ 90000; have := hJ.1; have := hJ.2.1; omega
      case dself =>
        intro led' h t E Q D q
        obtain ⟨o, ho, hc, hd⟩ := D.get (a := it2) (P := liP sA 0) (List.mem_append_right _ (.tail _ (.head _)))
        exact wpAny_pyIter_listiter (l := sA) (i := 0) ⟨o, ho, hc, hd⟩ q
      case ditem =>
        intro C2 a2 i2 s2 m2 τ h t E Q N hi2 hJ D q
        exact pr_draw (R.deeper _).hd D 2 rfl (List.mem_of_mem_drop (i := 10) (List.mem_append_right _ (List.mem_append_right _ hs))) (fun p hpp => List.mem_of_mem_drop (i := 11) (List.mem_append_right _ (List.mem_append_right _ (hp p hpp)))) hi2 fun h' t' D' => q _ () _ _ ⟨ps[i2], by simp [hi2], rfl, rfl⟩ D'
      case dstop =>
        intro C2 a2 s2 m2 τ h t E Q N hJ D q
        exact pr_end (R.deeper _).hd D 3 rfl (List.mem_of_mem_drop (i := 11) (List.mem_append_right _ (List.mem_append_right _ hs))) fun h' D' => q _ _ D'
      case dturn =>
        rintro C2 a2 i2 s2 m2 τ h11 t11 E11 hi2 ⟨j1, j2, j3⟩ ⟨p, hp2, hm1, hm2⟩ D11
        refine hide fun K4 E4 hK4 => ?_
        refine wpAny_tests_one (isTrue_and (wpAny_isTrue_Compare1 (r_local D11 hm1 (r_cell D11 4 rfl (q_eqS (wpAny_truthy_bool ?_))))))
        have hsn : later (prE (ps.take (i2 + 1))) left x = (later (prE (ps.take i2)) left x || (decide (p.2.2.1 = x) && decide (p.2.1.1 ∈ left))) := by
          rw [List.take_add_one, hp2]
          show later (prE (ps.take i2 ++ [p])) left x = _
          unfold prE
          rw [List.map_append]
          exact later_snoc _ _ _ _
        have no : (decide (p.2.2.1 = x) && decide (p.2.1.1 ∈ left)) = false → s2.length ≤ i2 + 1 ∧ i2 + 1 ≤ ps.length ∧ s2.isEmpty = !later (prE (ps.take (i2 + 1))) left x := fun e => ⟨by omega, by omega, by rw [hsn, e, Bool.or_false]; exact j3⟩
        by_cases hb : p.2.2.1 = x
        · rw [decide_eq_true hb, if_pos rfl]
          refine isTrue_and (wpAny_isTrue_Compare1 (r_local D11 hm2 (r_cell D11 10 rfl (q_inT D11 (xs := left) (List.mem_of_mem_drop (i := 12) hl5) (wpAny_truthy_bool ?_)))))
          by_cases ha : p.2.1.1 ∈ left
          · rw [decide_eq_true ha, if_pos rfl]
            refine isTrue_and_nil ?_
            refine hK4 _ _ ?_
            rw [if_pos rfl]
            refine q_int ⟨s2 ++ [_], h11, _, m2, (), rfl, ⟨by rw [List.length_append]; simp; omega, by omega, ?_⟩, rfl, D11⟩
            rw [hsn, decide_eq_true hb, decide_eq_true ha]
            simp
          · rw [decide_eq_false ha, if_neg (by decide)]
            refine hK4 _ _ ?_
            rw [if_neg (by decide)]
            exact ⟨s2, h11, _, m2, (), rfl, no (by rw [decide_eq_false ha, Bool.and_false]), rfl, D11⟩
        · rw [decide_eq_false hb, if_neg (by decide)]
          refine hK4 _ _ ?_
          rw [if_neg (by decide)]
          exact ⟨s2, h11, _, m2, (), rfl, no (by rw [decide_eq_false hb, Bool.false_and]), rfl, D11⟩
      case dfin =>
        intro C2 a2 s2 m2 h12 t12 ⟨j1, j2, j3⟩ D12
        rw [List.take_length] at j3
        refine post_value D12 fun h13 D13 => ?_
        have D14 : Led h₀ h13 ((C, nsP m') :: (a2, lsP s2) :: (C + 1, ceP (some (.str x u))) :: (a, lsP s) :: (L, nsP m) :: (it, liP lA (i + 1)) :: (rl, lsP (ds.map fun p : Addr × List Str => .ref p.1)) :: (L + 1 + 1 + 1, ceP cv) :: (L + 1 + 1, ceP (some (.ref lA))) :: (L + 1, ceP (some (.ref sA))) :: (X ++ (ds.map duO ++ led))) := D13.swap
        refine q_list0 D14 fun e1 h14 D15 => q_ne0 D15 (vs := s2) (.tail _ (.tail _ (.head _))) (.tail _ (.head _)) (R.deeper _).units (wpAny_truthy_bool ?_)
        have D16 : Led h₀ h14 ((C, nsP m') :: (C + 1, ceP (some (.str x u))) :: (a, lsP s) :: (L, nsP m) :: (it, liP lA (i + 1)) :: (rl, lsP (ds.map fun p : Addr × List Str => .ref p.1)) :: (L + 1 + 1 + 1, ceP cv) :: (L + 1 + 1, ceP (some (.ref lA))) :: (L + 1, ceP (some (.ref sA))) :: (X ++ (ds.map duO ++ led))) := D15.sub (.cons_cons _ (.cons _ (.cons _ (List.Sublist.refl _))))
        have htk : left.take (i + 1) = left.take i ++ [x] := by rw [List.take_add_one, hx]; rfl
        rw [j3, Bool.not_not]
        refine hK3 _ _ ?_
        cases hlt : later (prE ps) left x with
        | true =>
          rw [if_pos rfl]
          refine r_cell D16 1 rfl ⟨s ++ [_], h14, _, m', some (.str x u), rfl, ?_, rfl, D16⟩
          show TX _ _
          rw [htk, List.filter_append, List.filter_cons, hlt, if_pos rfl]
          exact hJ.snoc x u
        | false =>
          rw [if_neg (by decide)]
          refine ⟨s, h14, _, m', some (.str x u), rfl, ?_, rfl, D16⟩
          show TX _ _
          rw [htk, List.filter_append, List.filter_cons, hlt, if_neg (by decide), List.filter_nil, List.append_nil]
          exact hJ
    case cfin =>
      intro C a s m' h9 t9 hJ D9
      refine post_value D9 fun h10 D10 => ?_
      rw [List.take_length] at hJ
      have D11 : Led h₀ h10 ((L, nsP m) :: (a, stP (left.filter (later (prE ps) left))) :: (rl, lsP (ds.map fun p : Addr × List Str => .ref p.1)) :: (L + 1 + 1 + 1, ceP cv) :: (L + 1 + 1, ceP (some (.ref lA))) :: (L + 1, ceP (some (.ref sA))) :: (X ++ (ds.map duO ++ led))) :=
        (D10.reI (P' := stP (left.filter (later (prE ps) left))) 0 rfl fun o _ e => ⟨s, e, hJ⟩).swap
      refine r_storeC D11 3 rfl fun h11 D12 => ?_
      refine wpAny_execs_cons (wpAny_Expr (MethodCall_ (r_local D12 hm5 (r_gmList D12 2 rfl PySem.F.slot_list_append PySem.F.type_list_append (callWith_method1 (args_cons (Call_ (r_builtin (v := .builtin "sorted") O D12 (by kernel_rfl) (by kernel_rfl) (PyProof.Rows.callWith_builtin1 (args_cons (r_listComp (cl := [("later", L + 1 + 1 + 1)]) (by rfl) (by rfl) (by decide) (r_cell D12 4 rfl (q_iterSt D12 (List.mem_of_mem_drop (i := 6) hl5) fun it2 h13 D13 => ?_)))))))))))))
      refine r_compD (pf := fun _ (_ : Unit) => []) (τ₀ := ()) (n := left.length) (fun s : List Value => s)
        (fun i _ => (L, nsP m) :: (it2, liP lA i) :: (a, stP (left.filter (later (prE ps) left))) :: (rl, lsP (ds.map fun p : Addr × List Str => .ref p.1)) :: (L + 1 + 1 + 1, ceP (some (.ref a))) :: (L + 1 + 1, ceP (some (.ref lA))) :: (L + 1, ceP (some (.ref sA))) :: (X ++ (ds.map duO ++ led)))
        (fun _ => (L, nsP m) :: (a, stP (left.filter (later (prE ps) left))) :: (rl, lsP (ds.map fun p : Addr × List Str => .ref p.1)) :: (L + 1 + 1 + 1, ceP (some (.ref a))) :: (L + 1 + 1, ceP (some (.ref lA))) :: (L + 1, ceP (some (.ref sA))) :: (X ++ (ds.map duO ++ led)))
        (fun i s => TX s ((left.take i).filter fun x => !later (prE ps) left x)) (fun _ i _ m2 _ => ∃ x u, left[i]? = some x ∧ m2 ("name" : Str) = some (.str x u)) [] (fun C => by rfl) D13 rfl rfl ?elen ?eself ?eitem ?estop ?eturn ?efin
      case elen =>
        intro i s hJ
        have h1 := hJ.len
        have h2 := List.length_filter_le (fun x => !later (prE ps) left x) (left.take i)
        have h4 := List.length_take_le' i left
        show s.length ≤ 90000
        omega
      case eself =>
        intro led' h t E Q D q
        obtain ⟨o, ho, hc, hd⟩ := D.get (a := it2) (P := liP lA 0) (List.mem_append_right _ (.tail _ (.head _)))
        exact wpAny_pyIter_listiter (l := lA) (i := 0) ⟨o, ho, hc, hd⟩ q
      case eitem =>
        intro C a2 i s m' τ h t E Q N hi hJ D q
        refine nz_draw (nz_st it2 lA left).toNy D 3 rfl (List.mem_of_mem_drop (i := 8) hl5) hi fun v h' t' hv D' => ?_
        obtain ⟨x, u, hx, rfl⟩ := hv
        exact r_store D' fun h2 D2 => q _ () _ _ ⟨x, u, hx, rfl⟩ D2
      case estop =>
        intro C a2 s m' τ h t E Q N hJ D q
        exact nz_end (nz_st it2 lA left).toNy (R.deeper _).hd D 3 rfl (List.mem_of_mem_drop (i := 8) hl5) fun h' D' => q _ _ D'
      case eturn =>
        rintro C a2 i s2 m' τ h14 t14 E14 hi hJ2 ⟨x, u, hx, hmx⟩ D14
        refine hide fun K5 E5 hK5 => ?_
        refine wpAny_tests_one (wpAny_isTrue_Compare1 (r_local D14 hmx (r_cell D14 6 rfl (q_notinT D14 (xs := left.filter (later (prE ps) left)) (.tail _ (.tail _ (.tail _ (.tail _ (.head _))))) (wpAny_truthy_bool ?_)))))
        have hxl : x ∈ left := List.mem_of_getElem? hx
        have hmem : decide (x ∈ left.filter (later (prE ps) left)) = later (prE ps) left x := by
          rw [Bool.eq_iff_iff, decide_eq_true_iff, List.mem_filter]; simp [hxl]
        have htk : left.take (i + 1) = left.take i ++ [x] := by rw [List.take_add_one, hx]; rfl
        rw [hmem]
        refine hK5 _ _ ?_
        cases hlt : later (prE ps) left x with
        | false =>
          rw [Bool.not_false, if_pos rfl]
          refine r_local D14 hmx ⟨s2 ++ [_], h14, _, m', (), rfl, ?_, rfl, D14⟩
          show TX _ _
          rw [htk, List.filter_append, List.filter_cons, hlt, Bool.not_false, if_pos rfl]
          exact hJ2.snoc x u
        | true =>
          rw [Bool.not_true, if_neg (by decide)]
          refine ⟨s2, h14, _, m', (), rfl, ?_, rfl, D14⟩
          show TX _ _
          rw [htk, List.filter_append, List.filter_cons, hlt, Bool.not_true, if_neg (by decide), List.filter_nil, List.append_nil]
          exact hJ2
      case efin =>
        intro C a2 s2 m' h14 t14 hJ2 D14
        refine post_value D14 fun h15 D15 => ?_
        rw [List.take_length] at hJ2
        have hl2 := hJ2.len
        have hl3 := List.length_filter_le (fun x => !later (prE ps) left x) left
        obtain ⟨o15, ho15, n15, rfl⟩ := D15.hd
        refine args_nil (q_sorted (vs := s2) D15 ho15 (.inl rfl) rfl rfl hJ2 (by omega) fun S ys h16 hpy hsy D16 => args_nil ?_)
        have D17 : Led h₀ h16 ((L, nsP m) :: (rl, lsP (ds.map fun p : Addr × List Str => .ref p.1)) :: (L + 1 + 1 + 1, ceP (some (.ref a))) :: (S, stP ys) :: (a, stP (left.filter (later (prE ps) left))) :: (L + 1 + 1, ceP (some (.ref lA))) :: (L + 1, ceP (some (.ref sA))) :: (X ++ (ds.map duO ++ led))) :=
          (((((D16.swap.tail).pick 4 rfl).pick 4 rfl).pick 3 rfl).perm (List.Perm.refl _))
        have hdl : ds.length ≤ 60 := by
          have h1 := pm_len hpm
          rw [List.length_map] at h1
          rw [hgs, List.length_append] at hg
          omega
        refine r_append D17 1 rfl (by rw [List.length_map]; omega) fun h18 D18 => ?_
        refine wpAny_execs_cons (wpAny_Assign_Name (r_cell D18 2 rfl (r_storeC D18 5 rfl fun h19 D19 => ?_)))
        refine wpAny_execs_nil ?_
        cases hr5 with
        | stop => exact absurd rfl hleft
        | @step _ gs' _ hg' =>
          refine hK2 _ _ ⟨gs'.length, by rw [← hk, List.length_cons]; omega, left.filter (later (prE ps) left), a, (a, stP (left.filter (later (prE ps) left))) :: X, ds ++ [(S, ys)], gd ++ [left.filter fun x => !later (prE ps) left x], gs', some (.ref a), m, h19, _, rfl, hm5, hg', rfl, by rw [hgs]; simp, ?_, ?_, ?_, .head _, ?_⟩
          · rw [List.map_append]; exact hpm.snoc hpy
          · intro p hp
            rcases List.mem_append.mp hp with hp | hp
            · exact hso p hp
            · obtain rfl := List.mem_singleton.mp hp; exact hsy
          · have := List.length_filter_le (later (prE ps) left) left; omega
          · have D20 : Led h₀ h19 ((L, nsP m) :: (rl, lsP ((ds.map fun p : Addr × List Str => .ref p.1) ++ [.ref S])) :: (L + 1 + 1 + 1, ceP (some (.ref a))) :: (S, stP ys) :: (a, stP (left.filter (later (prE ps) left))) :: (L + 1 + 1, ceP (some (.ref a))) :: (L + 1, ceP (some (.ref sA))) :: (X ++ (ds.map duO ++ led))) := D19
            rw [List.map_append]
            refine D20.perm (.cons _ (.cons _ (.cons _ ?_)))
            refine (List.Perm.cons _ (rot2 _ _ _ _)).trans ?_
            rw [List.map_append]
            refine (perm_eq (by simp)).trans ((List.perm_middle (l₁ := (L + 1 + 1, ceP (some (.ref a))) :: (L + 1, ceP (some (.ref sA))) :: (a, stP (left.filter (later (prE ps) left))) :: (X ++ ds.map duO)) (l₂ := led) (a := (S, stP ys))).symm.trans (perm_eq (by simp [duO])))
end
end Mine
end

section
open PySem PySem.W PyProof.Rows PySem.Calls
namespace Mine
section
variable {w : World} {h₀ : Heap} {A : Around} {E : Value → Shared → Prop} {h h' : Heap} {g : Array GenState} {d : Drawn} {t : Nat} {os : OsState} {led rest own : List (Addr × OP)} {env : Env} {outer : List Env} {gs : GenState}

/-- a list of whole numbers -/
noncomputable def inP (ns : List Int) : OP := fun o => ∃ vs, lsP vs o ∧ IntsAre vs ns
theorem lsP_is {l : Addr} {vs : List Value} {o : Obj} (ho : h.get? l = some o) (x : lsP vs o) : h.IsList l vs.toArray := by
  obtain ⟨n, rfl⟩ := x; exact ⟨_, ho, rfl, n, rfl⟩

theorem tail_any {value slice : Expr} {o i : Value} {T id : String} {ops : List Value} {s : Shared} {Q : Value → Shared → Prop} (hT : s.TypeIs o T)
    (hl : typeLookup (.type T) "__getitem__" = pure (some (.builtin id))) (h : wpAny (model PR w) A (getItem o i) Q E s)
    (hs : subscripted slice false o i = operate ops (getItem o i)) :
    wpAny (model PR w) A (subscriptTail value slice o i) Q E s := by
  unfold subscriptTail
  refine wpAny_bind ?_
  rw [getitemInPython_of_ne hT.not_modules]
  refine wpAny_bind (wpAny_specialOf hT hl ?_)
  have fin : wpAny (model PR w) A (subscripted slice false o i) (fun r s₃ => wpAny (model PR w) A (letTemporaryGo value o r >>= fun _ => pure r) Q E s₃) E s := by
    rw [hs]
    exact wpAny_operating (wpAny_mono h (fun r s₃ h₃ => wpAny_bind (wpAny_letTemporaryGo (wpAny_pure h₃))) fun _ _ x => x)
  first
    | exact wpAny_pure (wpAny_bind fin)
    | exact wpAny_bind (wpAny_pure (wpAny_bind fin))
    | exact wpAny_bind fin
/-- list[:k] -/
theorem q_sliceTo {value slice : Expr} {l : Addr} {vs : List Value} {k : Int} {uk : Tok} {f : Addr × OP} {Q : Value → Shared → Prop} (D : Led h₀ h (f :: led)) (hl : h.IsList l vs.toArray) (h0 : 0 ≤ k) (hz : vs.length ≤ 100000)
    (q : ∀ a h', Led h₀ h' (f :: (a, lsP (vs.take k.toNat)) :: led) → Q (.ref a) ⟨h', g, d, t, os⟩)
    (hs : subscripted slice false (.ref l) (.ref h.objs.size) = operate [.ref h.objs.size, .ref l] (getItem (.ref l) (.ref h.objs.size)) := by with_unfolding_all rfl) :
    wpAny (model PR w) A (subscriptTail value slice (.ref l) (.ref h.objs.size)) Q E ⟨h.push { cls := .type "slice", data := .fields #[.none, .int k uk, .none] }, g, d, t, os⟩ := by
  refine tail_any (Heap.IsList.typeIs (s := ⟨h.push { cls := .type "slice", data := .fields #[.none, .int k uk, .none] }, g, d, t, os⟩) (hl.push _)) list_getitem_lookup
    (wpAny_getItem_list_slice (hl.push _) (Heap.IsSliceOf.new ..) .none (.int k uk) .none (by simp) ?_ (by rw [List.size_toArray, sizeLine_eq]; omega)) hs
  have ey : k = (k.toNat : Int) := by omega
  refine q _ _ ((D.push' _).new1 _ ⟨0, ?_⟩)
  rw [ey, slicePick_upto' vs.toArray k.toNat]
  rfl

/-- list + list -/
theorem q_addL {l b : Addr} {vs ws : List Value} {f : Addr × OP} {Q : Value → Shared → Prop} (D : Led h₀ h (f :: led)) (hl : (l, lsP vs) ∈ f :: led) (hb : (b, lsP ws) ∈ f :: led) (hz : vs.length + ws.length ≤ 1000)
    (q : ∀ a h', Led h₀ h' (f :: (a, lsP (vs ++ ws)) :: led) → Q (.ref a) ⟨h', g, d, t, os⟩) :
    wpAny (model PR w) A (binaryOp .Add (.ref l) (.ref b)) Q E ⟨h, g, d, t, os⟩ := by
  obtain ⟨o, ho, n, rfl⟩ := D.get hl
  obtain ⟨o2, ho2, n2, rfl⟩ := D.get hb
  have e : vs.toArray ++ ws.toArray = (vs ++ ws).toArray := by simp
  refine concat_meets (s := ⟨h, g, d, t, os⟩) ⟨_, ho, rfl⟩ ⟨_, ho2, rfl⟩ noFill_list_add seq_list_add PySem.F.slot_list_add PySem.F.entry_list_add (PySem.F.args_list_add_2 _ _) (list_addW l b vs.toArray ws.toArray n n2 none none #[] #[] (by rw [sizeLine_eq]; simp; omega)) ⟨ho, ho2, ?_⟩
  rw [e]
  exact q _ _ (D.new1 _ ⟨0, rfl⟩)

theorem q_lenL {l : Addr} {vs : List Value} {Q : Value → Shared → Prop} (D : Led h₀ h led) (hl : (l, lsP vs) ∈ led) (hz : vs.length ≤ 100000) (q : Q (.int (vs.length : Nat) (t + 1)) ⟨h, g, d, t + 1 + 1, os⟩) :
    wpAny (model PR w) A (call (.builtin "len") [.ref l]) Q E ⟨h, g, d, t, os⟩ := by
  obtain ⟨o, ho, x⟩ := D.get hl
  exact len_list (lsP_is ho x) (by rw [List.size_toArray]; omega) q
theorem q_lenS {l : Addr} {xs : List Str} {Q : Value → Shared → Prop} (D : Led h₀ h led) (hl : (l, stP xs) ∈ led) (hz : xs.length ≤ 100000) (q : Q (.int (xs.length : Nat) (t + 1)) ⟨h, g, d, t + 1 + 1, os⟩) :
    wpAny (model PR w) A (call (.builtin "len") [.ref l]) Q E ⟨h, g, d, t, os⟩ := by
  obtain ⟨o, ho, vs, x, tx⟩ := D.get hl
  have e := tx.len
  refine len_list (lsP_is ho x) (by rw [List.size_toArray]; omega) ?_
  rw [List.size_toArray, e]
  exact q

/-- list of texts, of numbers: one item -/
theorem q_itemT {value slice : Expr} {l : Addr} {xs : List Str} {k : Nat} {u : Tok} {Q : Value → Shared → Prop} (D : Led h₀ h led) (hl : (l, stP xs) ∈ led) (hk : k < xs.length) (hz : xs.length ≤ 100000)
    (q : ∀ v, Q (.str xs[k] v) ⟨h, g, d, t, os⟩)
    (hs : subscripted slice false (.ref l) (.int k u) = operate [.ref l, .int k u] (getItem (.ref l) (.int k u)) := by with_unfolding_all rfl) (hg : ∀ r, letTemporaryGo value (.ref l) r = pure () := by intro _; with_unfolding_all rfl) :
    wpAny (model PR w) A (subscriptTail value slice (.ref l) (.int k u)) Q E ⟨h, g, d, t, os⟩ := by
  obtain ⟨o, ho, vs, x, tx⟩ := D.get hl
  obtain ⟨v, hv⟩ := tx.at (i := k) (x := xs[k]) (by simp [hk])
  exact item_listL (lsP_is ho x) (by omega) (by omega) (x := .str xs[k] v) (by simpa using hv) (q v) hs hg
theorem q_itemI {value slice : Expr} {l : Addr} {ns : List Int} {k : Nat} {u : Tok} {Q : Value → Shared → Prop} (D : Led h₀ h led) (hl : (l, inP ns) ∈ led) (hk : k < ns.length) (hz : ns.length ≤ 100000)
    (q : ∀ v, Q (.int ns[k] v) ⟨h, g, d, t, os⟩)
    (hs : subscripted slice false (.ref l) (.int k u) = operate [.ref l, .int k u] (getItem (.ref l) (.int k u)) := by with_unfolding_all rfl) (hg : ∀ r, letTemporaryGo value (.ref l) r = pure () := by intro _; with_unfolding_all rfl) :
    wpAny (model PR w) A (subscriptTail value slice (.ref l) (.int k u)) Q E ⟨h, g, d, t, os⟩ := by
  obtain ⟨o, ho, vs, x, ix⟩ := D.get hl
  refine item_list_ints (lsP_is ho x) ix (by omega) (by omega) (by omega) (fun v => ?_) hs hg
  have e : ns.getD (k : Int).toNat 0 = ns[k] := by simp [List.getD, hk]
  rw [e]; exact q v
theorem q_indexI {l : Addr} {ns : List Int} {k : Int} {u : Tok} {Q : Value → Shared → Prop} (D : Led h₀ h led) (hl : (l, inP ns) ∈ led) (hk : k ∈ ns) (hz : ns.length ≤ 1000)
    (q : Q (.int (ns.idxOf k : Nat) t) ⟨h, g, d, t + 1, os⟩) : wpAny (model PR w) A (call (.builtin "list.index") [.ref l, .int k u]) Q E ⟨h, g, d, t, os⟩ := by
  obtain ⟨o, ho, vs, ⟨n, rfl⟩, hi⟩ := D.get hl
  have hlen := hi.length
  have hj : ns.idxOf k < ns.length := List.idxOf_lt_length_iff.mpr hk
  refine call_meets PySem.F.slot_list_index (s := ⟨h, g, d, t, os⟩) ⟨_, ho, rfl⟩ PySem.F.entry_list_index (PySem.F.args_list_index_2 _ _)
    (PySem.SeqAt.list_indexAt l vs.toArray n none #[] (.int k u) (isInt k) (ns.idxOf k) (by simpa [hlen] using hj) (by omega) ?_ ?_) ⟨ho, fun y hy => (eq_isInt k u hi y (by simpa using hy)).at _ _, q⟩
  · show isInt k vs[ns.idxOf k] = true
    rw [isInt_at k hi _ (by omega) hj]
    simpa using List.getElem_idxOf hj
  · intro j hjs hlt
    show isInt k vs[j] = false
    rw [isInt_at k hi j (by simpa using hjs) (by omega)]
    exact ne_of_lt_idxOf hlt _
end
end Mine
end

section
open PySem PySem.W PyProof.Rows PySem.Calls
namespace Mine
/-- law's own scope, body, frame -/
noncomputable def lawSc : Scope := match PR.main.body.getLast? with | some (.FunctionDef _ _ _ _ _ _ s _ _ _) => s | _ => default
noncomputable def lawBody : List Stmt := match PR.main.body.getLast? with | some (.FunctionDef _ _ b _ _ _ _ _ _ _) => b | _ => []
noncomputable def lawAt (k : Nat) : List Stmt := lawBody.drop k
noncomputable def lawS (k : Nat) : Stmt := (lawBody[k]?).getD (.Pass default)
theorem law_cons (k : Nat) (h : k < lawBody.length) : lawAt k = lawS k :: lawAt (k + 1) := by
  unfold lawAt lawS
  rw [List.drop_eq_getElem_cons h, List.getElem?_eq_getElem h]
  rfl
theorem law_len : lawBody.length = 16 := by decide +kernel
noncomputable def lawEnv (c : Value) (L : Addr) : Env := { scope := lawSc, locals := L, globals := mainGlobals, cells := [("ranks", L + 1 + 1 + 1), ("names", L + 1 + 1), ("texts", L + 1)], qual := "law.<locals>.", func := some 184, code := c, frame := some L, builtins := builtinsNs }

theorem ints_at : ∀ {vs : List Value} {ns : List Int}, IntsAre vs ns → ∀ {i : Nat} {v : Value}, vs[i]? = some v → ∃ n u, v = .int n u ∧ ns[i]? = some n
  | _, _, .nil, i, v, h => by simp at h
  | _, _, .cons n t _, 0, v, h => ⟨n, t, by simpa using h.symm, rfl⟩
  | _, _, .cons n t r, i + 1, v, h => by
    obtain ⟨m, u, h1, h2⟩ := ints_at r (i := i) (v := v) (by simpa using h)
    exact ⟨m, u, h1, by simpa using h2⟩
theorem isl_keep {h₀ h : Heap} {led : List (Addr × OP)} {l : Addr} {its : Array Value} (D : Led h₀ h led) (hl : h₀.IsList l its) : h.IsList l its := let ⟨o, ho, r⟩ := hl; ⟨o, D.keep l o ho, r⟩
theorem ints_snoc {vs : List Value} {ns : List Int} (h : IntsAre vs ns) (n : Int) (u : Tok) : IntsAre (vs ++ [.int n u]) (ns ++ [n]) := IntsAre.append h (.cons n u .nil)
theorem rot5 {α : Type} (a b c d e : α) (r : List α) : (a :: b :: c :: d :: e :: r).Perm (c :: d :: e :: a :: b :: r) := by
  have : (([a, b] ++ [c, d, e]) ++ r).Perm (([c, d, e] ++ [a, b]) ++ r) := List.perm_append_comm.append_right r
  exact this
noncomputable def Fig (ns : List Int) : Prop := ∀ n ∈ ns, 0 ≤ n ∧ n < 1000000
theorem Fig.snoc {ns : List Int} (h : Fig ns) {n : Int} (h0 : 0 ≤ n) (h1 : n < 1000000) : Fig (ns ++ [n]) := fun m hm => by
  rcases List.mem_append.mp hm with hm | hm
  · exact h m hm
  · obtain rfl := List.mem_singleton.mp hm; exact ⟨h0, h1⟩

section
variable {w : World} {h₀ : Heap} {A : Around} {E : Value → Shared → Prop} {h h' : Heap} {g : Array GenState} {d : Drawn} {t : Nat} {os : OsState} {led rest own : List (Addr × OP)} {env : Env} {outer : List Env} {gs : GenState} {fd : FuncData} {body : List Stmt}

theorem q_newList {vs : List Value} {f : Addr × OP} {Q : Value → Shared → Prop} (D : Led h₀ h (f :: led)) (hz : vs.length ≤ 1000) (q : ∀ T h', Led h₀ h' (f :: (T, lsP vs) :: led) → Q (.ref T) ⟨h', g, d, t, os⟩) :
    wpAny (model PR w) A (newList vs) Q E ⟨h, g, d, t, os⟩ :=
  wpAny_newObj_type (q _ _ (D.new1 _ ⟨0, rfl⟩)) (by show vs.toArray.size ≤ sizeLine; rw [List.size_toArray, sizeLine_eq]; omega)
set_option maxHeartbeats 8000000 in
/-- fixed, figures, texts -/
theorem segA {b : List Stmt} (hb : b = lawAt 0) {L l : Addr} {c : Value} {vs : List Value} {xs : List Int} {m : Str → Option Value} {Q : Flow → Shared → Prop} (O : Ok w h₀) (R : Rm 20 A) (hl : h₀.IsList l vs.toArray) (hi : IntsAre vs xs) (hz : xs.length ≤ 63)
    (hm : m ("script" : Str) = some (.ref l)) (D : Led h₀ h ((L, nsP m) :: (L + 1 + 1 + 1, ceP none) :: (L + 1 + 1, ceP none) :: (L + 1, ceP none) :: led))
    (q : ∀ m fA tA figs ts h' tk, m ("figures" : Str) = some (.ref fA) → figs.length = 8 → Fig figs → ts.length = 8 → (∀ x ∈ ts, x.cps.size ≤ 3) →
      Led h₀ h' ((L, nsP m) :: (L + 1 + 1 + 1, ceP none) :: (L + 1 + 1, ceP none) :: (L + 1, ceP (some (.ref tA))) :: (tA, stP ts) :: (fA, inP figs) :: led) → wpAny (model PR w) A (execs (lawAt 3) (lawEnv c L)) Q E ⟨h', g, d, tk, os⟩) :
    wpAny (model PR w) A (execs b (lawEnv c L)) Q E ⟨h, g, d, t, os⟩ := by
  subst hb
  rw [law_cons 0 (by rw [law_len]; decide)]
  refine wpAny_execs_cons ?_
  refine wpAny_Assign_Name ?_
  refine List_ ?_
  refine args_cons ?_
  refine q_int ?_
  refine args_cons ?_
  refine q_int ?_
  refine args_cons ?_
  refine q_int ?_
  refine args_cons ?_
  refine q_int ?_
  refine args_cons ?_
  refine q_int ?_
  refine args_cons ?_
  refine q_int ?_
  refine args_cons ?_
  refine q_int ?_
  refine args_cons ?_
  refine q_int ?_
  refine args_nil ?_
  refine q_newList D (by simp) fun fx h1 D1 => ?_
  refine r_store D1 fun h2 D2 => ?_
  obtain ⟨fv, hfv, hfi, D2⟩ : ∃ fv : List Value, fv.length = 8 ∧ IntsAre fv [9, 865, 1778, 3456, 8645, 3457, 27746, 56282] ∧ Led h₀ h2 ((L, nsP (fun y => if y = ("fixed" : Str) then some (.ref fx) else m y)) :: (fx, lsP fv) :: (L + 1 + 1 + 1, ceP none) :: (L + 1 + 1, ceP none) :: (L + 1, ceP none) :: led) :=
    ⟨_, rfl, .cons _ _ (.cons _ _ (.cons _ _ (.cons _ _ (.cons _ _ (.cons _ _ (.cons _ _ (.cons _ _ .nil))))))), D2⟩
  show wpAny (model PR w) A (execs (lawAt 1) (lawEnv c L)) Q E _
  rw [law_cons 1 (by rw [law_len]; decide)]
  have hvl := hi.length
  refine wpAny_execs_cons ?_
  refine wpAny_Assign_Name ?_
  refine Subscript_ ?_
  refine wpAny_BinOp ?_
  refine r_listComp (cl := []) (by rfl) (by rfl) (by decide) ?_
  refine Subscript_ ?_
  refine r_local D2 hm ?_
  refine wpAny_Slice ?_
  refine evalPart_none_step ?_
  refine evalPart_some_step ?_
  refine q_int ?_
  refine evalPart_none_step ?_
  refine q_sliceTo D2 (vs := vs) (isl_keep D2 hl) (by decide) (by omega) fun sA h3 D3 => ?_
  refine q_iterLst D3 1 rfl fun it h4 D4 => ?_
  refine r_comp (nz_ls it sA _) (fun s : List Value => s) (fun _ => (L, nsP (fun y => if y = ("fixed" : Str) then some (.ref fx) else m y)) :: (sA, lsP (vs.take (63 : Int).toNat)) :: (fx, lsP fv) :: (L + 1 + 1 + 1, ceP none) :: (L + 1 + 1, ceP none) :: (L + 1, ceP none) :: led)
    (fun i s => i ≤ 63 ∧ ∃ ns : List Int, IntsAre s ns ∧ ns.length = i ∧ Fig ns) [] R.hd (by decide) (by rfl) D4.swap rfl ⟨by decide, [], .nil, rfl, by intro n hn; cases hn⟩ (fun _ _ _ => ⟨1, rfl⟩) ?_ ?_ ?_
  · rintro i s ⟨hi63, ns, hs, hl', _⟩
    have := hs.length
    show s.length ≤ 90000
    omega
  · rintro C a i v s m1 h5 t5 E5 hi' hv ⟨hi63, ns, hs, hl', hF⟩ D5
    rw [List.length_take] at hi'
    have hv' : vs[i]? = some v := by
      rw [List.getElem?_take] at hv
      split at hv
      · exact hv
      · cases hv
    obtain ⟨n, u, rfl, _⟩ := ints_at hi hv'
    refine wpAny_assign_Name ?_
    refine r_store D5 fun h6 D6 => ?_
    refine wpAny_tests_nil ?_
    rw [if_pos rfl]
    refine wpAny_BinOp ?_
    refine r_local D6 (by rfl) ?_
    refine wpAny_BinOp ?_
    refine q_int ?_
    refine q_int ?_
    refine pow_int_small (by decide) (by decide) (by decide) ?_
    refine mod_int (by decide) ?_
    refine ⟨s ++ [_], h6, _, _, rfl, ⟨by have : (63 : Int).toNat = 63 := rfl; omega, ns ++ [_], ints_snoc hs _ _, by rw [List.length_append, hl']; rfl, hF.snoc ?_ ?_⟩, rfl, D6⟩
    · have e : n.fmod (10 ^ (6 : Int).toNat) = n % 1000000 := Int.fmod_eq_emod_of_nonneg _ (by decide)
      rw [e]; omega
    · have e : n.fmod (10 ^ (6 : Int).toNat) = n % 1000000 := Int.fmod_eq_emod_of_nonneg _ (by decide)
      rw [e]; omega
  · rintro s a h5 t5 ⟨_, ns, hs, hl', hF⟩ D5
    have hsl := hs.length
    rw [List.length_take] at hl'
    have h63 : (63 : Int).toNat = 63 := rfl
    have D6 := D5.swap
    refine r_local D6 (by rfl) ?_
    refine q_addL D6 (vs := s) (ws := fv) (.tail _ (.head _)) (.tail _ (.tail _ (.tail _ (.head _)))) (by omega) fun b h6 D7 => ?_
    refine wpAny_Slice ?_
    refine evalPart_none_step ?_
    refine evalPart_some_step ?_
    refine q_int ?_
    refine evalPart_none_step ?_
    obtain ⟨ob, hob, hbp⟩ := D7.at 1 rfl
    refine q_sliceTo D7 (vs := s ++ fv) (lsP_is hob hbp) (by decide) (by rw [List.length_append]; omega) fun fA h8 D8 => ?_
    refine r_store D8 fun h9 D9 => ?_
    have hfI : IntsAre ((s ++ fv).take (8 : Int).toNat) ((ns ++ [9, 865, 1778, 3456, 8645, 3457, 27746, 56282]).take 8) := (IntsAre.append hs hfi).take 8
    have hfl : ((ns ++ [9, 865, 1778, 3456, 8645, 3457, 27746, 56282]).take 8).length = 8 := by rw [List.length_take, List.length_append]; simp
    have hfF : Fig ((ns ++ [9, 865, 1778, 3456, 8645, 3457, 27746, 56282]).take 8) := by
      intro n hn
      rcases List.mem_append.mp (List.mem_of_mem_take hn) with h | h
      · exact hF n h
      · simp only [List.mem_cons, List.not_mem_nil, or_false] at h
        omega
    generalize (ns ++ [9, 865, 1778, 3456, 8645, 3457, 27746, 56282]).take 8 = figs at hfI hfl hfF
    obtain ⟨m9, hm9, D9⟩ : ∃ m9, m9 ("figures" : Str) = some (.ref fA) ∧ Led h₀ h9 ((L, nsP m9) :: (fA, inP figs) :: (L + 1 + 1 + 1, ceP none) :: (L + 1 + 1, ceP none) :: (L + 1, ceP none) :: led) := ⟨_, rfl, (D9.reI (P' := inP figs) 1 rfl fun o _ e => ⟨_, e, hfI⟩).sub (.cons_cons _ (.cons_cons _ (.cons _ (.cons _ (.cons _ (.cons _ (List.Sublist.refl _)))))))⟩
    show wpAny (model PR w) A (execs (lawAt 2) (lawEnv c L)) Q E _
    rw [law_cons 2 (by rw [law_len]; decide)]
    refine wpAny_execs_cons ?_
    refine wpAny_Assign_Name ?_
    refine r_listComp (cl := []) (by rfl) (by rfl) (by decide) ?_
    refine r_local D9 hm9 ?_
    obtain ⟨ofA, hofA, fvs, hfvs, hfx⟩ := D9.at 1 rfl
    have D10 : Led h₀ h9 ((L, nsP m9) :: (fA, lsP fvs) :: (L + 1 + 1 + 1, ceP none) :: (L + 1 + 1, ceP none) :: (L + 1, ceP none) :: led) := D9.reI (P' := lsP fvs) 1 rfl fun o ho _ => by
      rw [hofA] at ho; obtain rfl := Option.some.inj ho; exact hfvs
    have hfvl := hfx.length
    refine q_iterLst D10 1 rfl fun it h11 D11 => ?_
    refine r_comp (nz_ls it fA _) (fun s : List Value => s) (fun _ => (L, nsP m9) :: (fA, lsP fvs) :: (L + 1 + 1 + 1, ceP none) :: (L + 1 + 1, ceP none) :: (L + 1, ceP none) :: led)
      (fun i s => i ≤ 8 ∧ ∃ ts : List Str, TX s ts ∧ ts.length = i ∧ ∀ x ∈ ts, x.cps.size ≤ 3) [] R.hd (by decide) (by rfl) D11.swap rfl ⟨by decide, [], rfl, rfl, by intro n hn; cases hn⟩ (fun _ _ _ => ⟨1, rfl⟩) ?_ ?_ ?_
    · rintro i s ⟨hi8, ts, hs, hl', _⟩
      have := hs.len
      show s.length ≤ 90000
      omega
    · rintro C a i v s m1 h5 t5 E5 hi' hv ⟨hi8, ts, hs, hl', hF⟩ D5
      obtain ⟨n, u, rfl, hn⟩ := ints_at hfx hv
      have hnF := hfF n (List.mem_of_getElem? hn)
      refine wpAny_assign_Name ?_
      refine r_store D5 fun h6 D6 => ?_
      refine wpAny_tests_nil ?_
      rw [if_pos rfl]
      refine Call_ ?_
      refine r_global (v := .ref 153) O D6 (by kernel_rfl) ?_
      refine q_call1 O (by kernel_rfl) ?_
      refine args_cons ?_
      refine r_local D6 (by rfl) ?_
      refine args_nil ?_
      refine ⟨⟨_, D6⟩, ?_⟩
      refine text_ O D6 R.less hnF.1 hnF.2 fun x v h7 t7 hx D7 => ?_
      refine ⟨s ++ [_], h7, _, _, rfl, ⟨by omega, ts ++ [x], hs.snoc _ _, by rw [List.length_append, hl']; rfl, ?_⟩, rfl, D7⟩
      intro y hy
      rcases List.mem_append.mp hy with hy | hy
      · exact hF y hy
      · obtain rfl := List.mem_singleton.mp hy; exact hx
    · rintro s a h5 t5 ⟨_, ts, hs, hl', hF⟩ D5
      have D6 : Led h₀ h5 ((L, nsP m9) :: (a, stP ts) :: (fA, inP figs) :: (L + 1 + 1 + 1, ceP none) :: (L + 1 + 1, ceP none) :: (L + 1, ceP none) :: led) :=
        ((D5.reI (P' := stP ts) 0 rfl fun o _ e => ⟨_, e, hs⟩).swap).reI (P' := inP figs) 2 rfl fun o _ e => ⟨_, e, hfx⟩
      refine r_storeC D6 5 rfl fun h7 D7 => ?_
      refine q m9 fA a figs ts h7 _ hm9 hfl hfF (by omega) hF ?_
      exact D7.perm (.cons _ (((rot5 _ _ _ _ _ _))))
end
end Mine
end

section
open PySem PySem.W PyProof.Rows PySem.Calls
namespace Mine
noncomputable def forBody : Stmt → List Stmt
  | .For _ _ b _ _ => b
  | _ => []
/-- the outer loop's body, the inner loop's body -/
noncomputable def lawOut (k : Nat) : List Stmt := (forBody (lawS 6)).drop k
noncomputable def lawIn (k : Nat) : List Stmt := (forBody (((forBody (lawS 6))[2]?).getD (.Pass default))).drop k

section
variable {w : World} {h₀ : Heap} {A : Around} {E : Value → Shared → Prop} {h h' : Heap} {g : Array GenState} {d : Drawn} {t : Nat} {os : OsState} {led rest own : List (Addr × OP)} {env : Env} {outer : List Env} {gs : GenState}

theorem r_gmLm {l : Addr} {vs : List Value} {name : Str} {id : String} {pl : Sem Bool} {Q : Value × List Value → Shared → Prop} (D : Led h₀ h led) (hi : (l, lsP vs) ∈ led)
    (slot : Slot "list" name id) (hty : typeOf (.builtin id) = pure (.type "method_descriptor")) (q : Q (.builtin id, [.ref l]) ⟨h, g, d, t, os⟩) : wpAny (model PR w) A (getMethod (.ref l) name pl) Q E ⟨h, g, d, t, os⟩ := by
  obtain ⟨i, hi⟩ := List.mem_iff_getElem?.mp hi
  exact r_gmList D i hi slot hty q
theorem r_appendX {l : Addr} {vs : List Value} {v : Value} {Q : Value → Shared → Prop} (F : List (Addr × OP)) (D : Led h₀ h (F ++ (l, lsP vs) :: rest)) (hz : vs.length ≤ 100000)
    (q : ∀ h', Led h₀ h' (F ++ (l, lsP (vs ++ [v])) :: rest) → Q .none ⟨h', g, d, t, os⟩) : wpAny (model PR w) A (call (.builtin "list.append") [.ref l, v]) Q E ⟨h, g, d, t, os⟩ :=
  r_append (D.perm List.perm_middle) 0 rfl hz fun h' D' => q h' (Led.perm D' List.perm_middle.symm)

/-- what the loops hold: the list of steps and the two sorters, behind F -/
noncomputable def lpLed (w : World) (stA : Addr) (ps : List Pr) (SF SP : So) (nF nP : List Nd) (rest : List (Addr × OP)) : List (Addr × OP) :=
  (stA, lsP (ps.map prV)) :: (ps.map prO ++ (soLed w { SF with nds := nF } ++ (soLed w { SP with nds := nP } ++ rest)))
theorem Led.toF {F : List (Addr × OP)} {stA : Addr} {ps : List Pr} {SF SP : So} {nF nP : List Nd} (D : Led h₀ h (F ++ lpLed w stA ps SF SP nF nP rest)) :
    Led h₀ h ((F ++ (stA, lsP (ps.map prV)) :: ps.map prO) ++ (soLed w { SF with nds := nF } ++ (soLed w { SP with nds := nP } ++ rest))) := by
  unfold lpLed at D
  rw [List.append_assoc]
  exact D
theorem Led.ofF {F : List (Addr × OP)} {stA : Addr} {ps : List Pr} {SF SP : So} {nF nP : List Nd} (D : Led h₀ h ((F ++ (stA, lsP (ps.map prV)) :: ps.map prO) ++ (soLed w { SF with nds := nF } ++ (soLed w { SP with nds := nP } ++ rest)))) :
    Led h₀ h (F ++ lpLed w stA ps SF SP nF nP rest) := by
  unfold lpLed
  rw [List.append_assoc] at D
  exact D
theorem Led.toP {F : List (Addr × OP)} {stA : Addr} {ps : List Pr} {SF SP : So} {nF nP : List Nd} (D : Led h₀ h (F ++ lpLed w stA ps SF SP nF nP rest)) :
    Led h₀ h ((F ++ (stA, lsP (ps.map prV)) :: (ps.map prO ++ soLed w { SF with nds := nF })) ++ (soLed w { SP with nds := nP } ++ rest)) := by
  unfold lpLed at D
  rw [List.append_assoc, List.cons_append, List.append_assoc]
  exact D
theorem Led.ofP {F : List (Addr × OP)} {stA : Addr} {ps : List Pr} {SF SP : So} {nF nP : List Nd} (D : Led h₀ h ((F ++ (stA, lsP (ps.map prV)) :: (ps.map prO ++ soLed w { SF with nds := nF })) ++ (soLed w { SP with nds := nP } ++ rest))) :
    Led h₀ h (F ++ lpLed w stA ps SF SP nF nP rest) := by
  unfold lpLed
  rw [List.append_assoc, List.cons_append, List.append_assoc] at D
  exact D
theorem Led.addP {f : Addr × OP} {F : List (Addr × OP)} {stA T : Addr} {ps : List Pr} {a b : Str × Tok} {SF SP : So} {nF nP : List Nd}
    (D : Led h₀ h ((f :: (T, tpP [.str a.1 a.2, .str b.1 b.2]) :: F) ++ (stA, lsP (ps.map prV ++ [.ref T])) :: (ps.map prO ++ (soLed w { SF with nds := nF } ++ (soLed w { SP with nds := nP } ++ rest))))) :
    Led h₀ h (f :: F ++ lpLed w stA (ps ++ [(T, a, b)]) SF SP nF nP rest) := by
  unfold lpLed
  have D1 : Led h₀ h ((T, tpP [.str a.1 a.2, .str b.1 b.2]) :: ((f :: F ++ (stA, lsP (ps.map prV ++ [.ref T])) :: ps.map prO) ++ (soLed w { SF with nds := nF } ++ (soLed w { SP with nds := nP } ++ rest)))) := D.perm ((List.Perm.swap ..).trans (perm_eq (by simp)))
  exact (D1.perm (List.perm_middle (l₁ := (f :: F ++ (stA, lsP (ps.map prV ++ [.ref T])) :: ps.map prO))).symm).perm (perm_eq (by simp [prV, prO]))

set_option maxHeartbeats 8000000 in
/-- one turn of the inner loop -/
theorem turnI {L fA stA : Addr} {c : Value} {F1 : List (Addr × OP)} {figs : List Int} {ps : List Pr} {SF SP : So} {nF nP : List Nd} {x y : Str} {u v ul ue : Tok} {i j B : Nat} {m : Str → Option Value} {Q : Flow → Shared → Prop}
    (O : Ok w h₀) (R : Rm 15 A) (hx : x.cps.size ≤ 3) (hy : y.cps.size ≤ 3) (hm1 : m ("one" : Str) = some (.str x u)) (hm2 : m ("two" : Str) = some (.str y v)) (hm3 : m ("full" : Str) = some (.ref SF.a)) (hm4 : m ("part" : Str) = some (.ref SP.a))
    (hm5 : m ("steps" : Str) = some (.ref stA)) (hm6 : m ("figures" : Str) = some (.ref fA)) (hm7 : m ("late" : Str) = some (.int i ul)) (hm8 : m ("early" : Str) = some (.int j ue)) (hi : i < 8) (hj : j < 8) (hfl : figs.length = 8) (hF : Fig figs)
    (hfA : (fA, inP figs) ∈ F1) (hps : ps.length ≤ 1000) (hrF : SF.rd = none) (hrP : SP.rd = none) (hzF : nF.length ≤ 700) (hzP : nP.length ≤ 700) (hBF : SucB B (nF.map absN)) (hBP : SucB B (nP.map absN)) (hb : B ≤ 70000)
    (D : Led h₀ h ((L, nsP m) :: F1 ++ lpLed w stA ps SF SP nF nP rest))
    (q : ∀ nF' nP' pe h' tk, nF'.map absN = tellG x y (nF.map absN) →
      ((nP'.map absN = nP.map absN ∧ pe = []) ∨ (nP'.map absN = tellG x y (nP.map absN) ∧ ∃ p : Pr, pe = [p] ∧ (p.2.1.1, p.2.2.1) = if SL x y then (x, y) else (y, x))) →
      Led h₀ h' ((L, nsP m) :: F1 ++ lpLed w stA (ps ++ pe) SF SP nF' nP' rest) → Q .next ⟨h', g, d, tk, os⟩) :
    wpAny (model PR w) A (execs (lawIn 0) (lawEnv c L)) Q E ⟨h, g, d, t, os⟩ := by
  have hx3 : x.cps.size ≤ 1000 := by omega
  have hy3 : y.cps.size ≤ 1000 := by omega
  refine wpAny_execs_cons ?_
  refine wpAny_If ?_
  refine isTrue_not ?_
  refine isTrue_plain ?_
  refine Call_ ?_
  refine r_global (v := .ref 167) O D (by kernel_rfl) ?_
  refine q_call1 O (by kernel_rfl) ?_
  refine args_cons ?_
  refine r_local D hm1 ?_
  refine args_cons ?_
  refine r_local D hm2 ?_
  refine args_nil ?_
  refine ⟨⟨_, D⟩, ?_⟩
  refine is_told_ O D R.less hx3 hy3 fun h1 t1 D1 => ?_
  refine wpAny_truthy_bool ?_
  refine wpAny_execs_nil ?_
  refine wpAny_execs_cons ?_
  refine wpAny_Expr ?_
  refine Call_ ?_
  refine r_global (v := .ref 174) O D1 (by kernel_rfl) ?_
  refine q_call1 O (by kernel_rfl) ?_
  refine args_cons ?_
  refine r_local D1 hm3 ?_
  refine args_cons ?_
  refine r_local D1 hm1 ?_
  refine args_cons ?_
  refine r_local D1 hm2 ?_
  refine args_nil ?_
  refine ⟨⟨_, D1⟩, ?_⟩
  refine tell_ (S := { SF with nds := nF }) O R.less hrF (by show nF.length ≤ 800; omega) hBF (by omega) D1.toF fun nF' h2 t2 eF D2 => ?_
  have D3 : Led h₀ h2 ((L, nsP m) :: F1 ++ lpLed w stA ps SF SP nF' nP rest) := D2.ofF
  show wpAny (model PR w) A (execs (lawIn 2) (lawEnv c L)) Q E _
  have hmf : (fA, inP figs) ∈ (L, nsP m) :: F1 ++ lpLed w stA ps SF SP nF' nP rest := List.mem_append_left _ (.tail _ hfA)
  have h864 : (2 : Int) ^ (j : Int).toNat ≠ 0 ∧ ((2 : Int) ^ (j : Int).toNat).natAbs < 1073741824 := by
    have : j = 0 ∨ j = 1 ∨ j = 2 ∨ j = 3 ∨ j = 4 ∨ j = 5 ∨ j = 6 ∨ j = 7 := by omega
    rcases this with rfl | rfl | rfl | rfl | rfl | rfl | rfl | rfl <;> decide
  refine wpAny_execs_cons ?_
  refine wpAny_If ?_
  refine wpAny_isTrue_Compare1 ?_
  refine wpAny_BinOp ?_
  refine wpAny_BinOp ?_
  refine wpAny_BinOp ?_
  refine Subscript_ ?_
  refine r_local D3 hm6 ?_
  refine r_local D3 hm7 ?_
  refine q_itemI D3 hmf (by omega) (by omega) fun vf => ?_
  refine q_int ?_
  refine floordiv_int (by decide) ?_ (Or.inl (PyProof.noPylong_small (by decide)))
  refine wpAny_BinOp ?_
  refine q_int ?_
  refine r_local D3 hm8 ?_
  refine pow_int_small (by omega) (by omega) (by decide) ?_
  refine floordiv_int h864.1 ?_ (Or.inl (PyProof.noPylong_small h864.2))
  refine q_int ?_
  refine mod_int (by decide) ?_
  refine q_int ?_
  refine eq_int ?_
  refine wpAny_truthy_bool ?_
  generalize ((((figs[i].fdiv 864).fdiv (2 ^ (j : Int).toNat)).fmod 2) == 1) = bb
  cases bb with
  | false =>
    refine wpAny_execs_nil ?_
    refine wpAny_execs_nil ?_
    have D4 : Led h₀ h2 ((L, nsP m) :: F1 ++ lpLed w stA (ps ++ []) SF SP nF' nP rest) := by rw [List.append_nil]; exact D3
    exact q nF' nP [] h2 _ eF (.inl ⟨rfl, rfl⟩) D4
  | true =>
    refine wpAny_execs_cons ?_
    refine wpAny_Expr ?_
    refine Call_ ?_
    refine r_global (v := .ref 174) O D3 (by kernel_rfl) ?_
    refine q_call1 O (by kernel_rfl) ?_
    refine args_cons ?_
    refine r_local D3 hm4 ?_
    refine args_cons ?_
    refine r_local D3 hm1 ?_
    refine args_cons ?_
    refine r_local D3 hm2 ?_
    refine args_nil ?_
    refine ⟨⟨_, D3⟩, ?_⟩
    refine tell_ (S := { SP with nds := nP }) O R.less hrP (by show nP.length ≤ 800; omega) hBP (by omega) D3.toP fun nP' h4 t4 eP D4 => ?_
    have D5 : Led h₀ h4 ((L, nsP m) :: F1 ++ lpLed w stA ps SF SP nF' nP' rest) := D4.ofP
    have hms : (stA, lsP (ps.map prV)) ∈ (L, nsP m) :: F1 ++ lpLed w stA ps SF SP nF' nP' rest := List.mem_append_right _ (.head _)
    refine wpAny_execs_cons ?_
    refine wpAny_Expr ?_
    refine MethodCall_ ?_
    refine r_local D5 hm5 ?_
    refine r_gmLm D5 hms PySem.F.slot_list_append PySem.F.type_list_append ?_
    refine callWith_method1 ?_
    refine args_cons ?_
    refine IfExp_ ?_
    refine wpAny_isTrue_Compare1 ?_
    refine Call_ ?_
    refine r_global (v := .ref 160) O D5 (by kernel_rfl) ?_
    refine q_call1 O (by kernel_rfl) ?_
    refine args_cons ?_
    refine r_local D5 hm1 ?_
    refine args_cons ?_
    refine r_local D5 hm2 ?_
    refine args_nil ?_
    refine ⟨⟨_, D5⟩, ?_⟩
    refine sign_ O D5 R.less hx3 hy3 fun h6 t6 n6 D6 => ?_
    refine q_int ?_
    refine lt_int ?_
    refine wpAny_truthy_bool ?_
    by_cases hxy : SL x y
    · rw [sg_lt hxy, show decide ((-1 : Int) < 0) = true by decide, if_pos rfl]
      refine Tuple_ ?_
      refine args_cons ?_
      refine r_local D6 hm1 ?_
      refine args_cons ?_
      refine r_local D6 hm2 ?_
      refine args_nil ?_
      refine q_newTuple D6 (by simp) fun T h7 D7 => ?_
      refine args_nil ?_
      refine r_appendX ((L, nsP m) :: (T, tpP [.str x u, .str y v]) :: F1) D7 (by rw [List.length_map]; omega) fun h8 D8 => ?_
      refine wpAny_execs_nil ?_
      refine wpAny_execs_nil ?_
      exact q nF' nP' [(T, (x, u), (y, v))] h8 _ eF (.inr ⟨eP, _, rfl, by rw [if_pos hxy]⟩) (D8.addP (a := (x, u)) (b := (y, v)))
    · have hs0 : decide (sg x y < 0) = false := by
        rcases SL.tri x y with h1 | rfl | h1
        · exact absurd h1 hxy
        · rw [sg_eq]; decide
        · rw [sg_gt h1]; decide
      rw [hs0, if_neg (by decide)]
      refine Tuple_ ?_
      refine args_cons ?_
      refine r_local D6 hm2 ?_
      refine args_cons ?_
      refine r_local D6 hm1 ?_
      refine args_nil ?_
      refine q_newTuple D6 (by simp) fun T h7 D7 => ?_
      refine args_nil ?_
      refine r_appendX ((L, nsP m) :: (T, tpP [.str y v, .str x u]) :: F1) D7 (by rw [List.length_map]; omega) fun h8 D8 => ?_
      refine wpAny_execs_nil ?_
      refine wpAny_execs_nil ?_
      exact q nF' nP' [(T, (y, v), (x, u))] h8 _ eF (.inr ⟨eP, _, rfl, by rw [if_neg hxy]⟩) (D8.addP (a := (y, v)) (b := (x, u)))
end
end Mine
end

section
open PySem PySem.W PyProof.Rows PySem.Calls
namespace Mine
theorem edge_up (x y : Str) : ∀ e ∈ edge x y, SL e.1 e.2 := by
  intro e he
  unfold edge at he
  split at he
  · next h => obtain rfl := List.mem_singleton.mp he; exact h
  · split at he
    · next h => obtain rfl := List.mem_singleton.mp he; exact h
    · cases he
theorem edge_mem {x y : Str} {ns : List Str} (hx : x ∈ ns) (hy : y ∈ ns) : ∀ e ∈ edge x y, e.1 ∈ ns ∧ e.2 ∈ ns := by
  intro e he
  unfold edge at he
  split at he
  · obtain rfl := List.mem_singleton.mp he; exact ⟨hx, hy⟩
  · split at he
    · obtain rfl := List.mem_singleton.mp he; exact ⟨hy, hx⟩
    · cases he
theorem edge_len (x y : Str) : (edge x y).length ≤ 1 := by
  unfold edge
  split
  · simp
  · split <;> simp
theorem edge_lt {x y : Str} (h : SL x y) : (x, y) ∈ edge x y := by unfold edge; rw [if_pos h]; simp
theorem edge_gt {x y : Str} (h : SL y x) : (y, x) ∈ edge x y := by unfold edge; rw [if_neg h.asym, if_pos h]; simp
theorem edge_filter (x y : Str) {e : Str × Str} (he : e = if SL x y then (x, y) else (y, x)) : edge x y = [e].filter (fun e => decide (e.1 ≠ e.2)) := by
  subst he
  unfold edge
  rcases SL.tri x y with h | rfl | h
  · have : x ≠ y := fun q => SL.irr y (q ▸ h)
    simp [h, this]
  · have := SL.irr x
    simp [this]
  · have : y ≠ x := fun q => SL.irr x (q ▸ h)
    have h' := h.asym
    simp [h, h', this]

/-- a sorter's graph -/
structure Gr (nds : List Nd) (ns : List Str) (es : List (Str × Str)) (b : Nat) : Prop where
  g : nds.map absN = stG ns es (inE es)
  up : ∀ e ∈ es, SL e.1 e.2
  mem : ∀ e ∈ es, e.1 ∈ ns ∧ e.2 ∈ ns
  len : es.length ≤ b
section
variable {nds nds' : List Nd} {ns : List Str} {es : List (Str × Str)} {b : Nat} {x y : Str}
theorem Gr.size (G : Gr nds ns es b) : nds.length = ns.length := by
  have := congrArg List.length G.g
  simpa [stG] using this
theorem Gr.sucB (G : Gr nds ns es b) : SucB b (nds.map absN) := by
  rw [G.g]
  intro n hn
  obtain ⟨z, _, rfl⟩ := List.mem_map.mp hn
  show ((es.filter fun p => p.1 = z).map (·.2)).length ≤ b
  rw [List.length_map]
  exact Nat.le_trans (List.length_filter_le _ _) G.len
theorem Gr.tell (G : Gr nds ns es b) (hx : x ∈ ns) (hy : y ∈ ns) (e : nds'.map absN = tellG x y (nds.map absN)) : Gr nds' ns (es ++ edge x y) (b + 1) where
  g := by rw [e, G.g, tellG_st hx hy]
  up := fun e he => by
    rcases List.mem_append.mp he with he | he
    · exact G.up e he
    · exact edge_up x y e he
  mem := fun e he => by
    rcases List.mem_append.mp he with he | he
    · exact G.mem e he
    · exact edge_mem hx hy e he
  len := by have := G.len; have := edge_len x y; rw [List.length_append]; omega
theorem Gr.add0 (G : Gr nds ns es b) (e : nds'.map absN = addG x [] (nds.map absN)) : Gr nds' (ensL x ns) es b where
  g := by rw [e, G.g, addG0 G.mem]
  up := G.up
  mem := fun e he => ⟨mem_ensL.mpr (.inl (G.mem e he).1), mem_ensL.mpr (.inl (G.mem e he).2)⟩
  len := G.len
theorem Gr.same (G : Gr nds ns es b) (e : nds'.map absN = nds.map absN) : Gr nds' ns es b := ⟨by rw [e]; exact G.g, G.up, G.mem, G.len⟩
theorem Gr.more (G : Gr nds ns es b) {b' : Nat} (h : b ≤ b') : Gr nds ns es b' := ⟨G.g, G.up, G.mem, Nat.le_trans G.len h⟩
theorem Gr.nil : Gr [] [] [] 0 := ⟨rfl, by simp, by simp, by simp⟩
end
noncomputable def fl (es : List (Str × Str)) : List (Str × Str) := es.filter fun e => decide (e.1 ≠ e.2)
theorem fl_app (a b : List (Str × Str)) : fl (a ++ b) = fl a ++ fl b := List.filter_append ..
theorem prE_app (a b : List Pr) : prE (a ++ b) = prE a ++ prE b := List.map_append ..
end Mine
end

section
open PySem PySem.W PyProof.Rows PySem.Calls
namespace Mine
theorem TX.take {vs : List Value} {xs : List Str} (h : TX vs xs) (k : Nat) : TX (vs.take k) (xs.take k) := by
  unfold TX at *; rw [List.map_take, List.map_take, h]
/-- what the loops carry along -/
structure Lo where
  m : Str → Option Value
  nF : List Nd
  nP : List Nd
  ps : List Pr
  es : List (Str × Str)

section
variable {w : World} {h₀ : Heap} {A : Around} {E : Value → Shared → Prop} {h h' : Heap} {g : Array GenState} {d : Drawn} {t : Nat} {os : OsState} {led rest own : List (Addr × OP)} {env : Env} {outer : List Env} {gs : GenState}

theorem q_iterEn {e it : Addr} {i : Nat} {Q : Value → Shared → Prop} (D : Led h₀ h led) (hm : (e, enP it i) ∈ led) (q : Q (.ref e) ⟨h, g, d, t, os⟩) : wpAny (model PR w) A (pyIter (.ref e)) Q E ⟨h, g, d, t, os⟩ := by
  obtain ⟨o, ho, old, rfl⟩ := D.get hm
  exact wpAny_pyIter_enum ho q

/-- the names that stay put -/
structure Nm (m : Str → Option Value) (SF SP : So) (stA fA : Addr) : Prop where
  full : m ("full" : Str) = some (.ref SF.a)
  part : m ("part" : Str) = some (.ref SP.a)
  steps : m ("steps" : Str) = some (.ref stA)
  figures : m ("figures" : Str) = some (.ref fA)
theorem Nm.put {m : Str → Option Value} {SF SP : So} {stA fA : Addr} (N : Nm m SF SP stA fA) {a b : Str} {va vb : Value} (ha : a ∈ [("early" : Str), "late"]) (hb : b ∈ [("one" : Str), "two"]) :
    Nm (fun y => if y = b then some vb else if y = a then some va else m y) SF SP stA fA := by
  have h1 : a ≠ ("full" : Str) ∧ a ≠ ("part" : Str) ∧ a ≠ ("steps" : Str) ∧ a ≠ ("figures" : Str) := by
    simp only [List.mem_cons, List.not_mem_nil, or_false] at ha
    rcases ha with rfl | rfl <;> decide
  have h2 : b ≠ ("full" : Str) ∧ b ≠ ("part" : Str) ∧ b ≠ ("steps" : Str) ∧ b ≠ ("figures" : Str) := by
    simp only [List.mem_cons, List.not_mem_nil, or_false] at hb
    rcases hb with rfl | rfl <;> decide
  refine ⟨?_, ?_, ?_, ?_⟩
  · rw [if_neg (Ne.symm h2.1), if_neg (Ne.symm h1.1)]; exact N.full
  · rw [if_neg (Ne.symm h2.2.1), if_neg (Ne.symm h1.2.1)]; exact N.part
  · rw [if_neg (Ne.symm h2.2.2.1), if_neg (Ne.symm h1.2.2.1)]; exact N.steps
  · rw [if_neg (Ne.symm h2.2.2.2), if_neg (Ne.symm h1.2.2.2)]; exact N.figures

/-- ahead of turn j of the inner loop -/
structure JI (SF SP : So) (stA fA : Addr) (ts : List Str) (i : Nat) (y : Str) (j : Nat) (s : Lo) : Prop where
  nm : Nm s.m SF SP stA fA
  late : ∃ ul, s.m ("late" : Str) = some (.int i ul)
  two : ∃ v, s.m ("two" : Str) = some (.str y v)
  gF : Gr s.nF (namesOf (ts.take (i + 1))) s.es (9 * i + j)
  gP : Gr s.nP (namesOf (ts.take (i + 1))) (fl (prE s.ps)) (9 * i + j)
  len : s.ps.length ≤ 9 * i + j
  old : ∀ a ∈ ts.take i, ∀ b ∈ ts.take i, SL a b → (a, b) ∈ s.es
  cov : ∀ a ∈ ts.take j, (SL a y → (a, y) ∈ s.es) ∧ (SL y a → (y, a) ∈ s.es)

set_option maxHeartbeats 8000000 in
/-- the inner loop -/
theorem loopI {L fA stA tA : Addr} {c : Value} {F1 : List (Addr × OP)} {figs : List Int} {SF SP : So} {ts : List Str} {i : Nat} {s : Lo} {Q : Flow → Shared → Prop}
    (O : Ok w h₀) (R : Rm 17 A) (hi : i < 8) (hts : ts.length = 8) (h3 : ∀ x ∈ ts, x.cps.size ≤ 3) (hfl : figs.length = 8) (hF : Fig figs) (hfA : (fA, inP figs) ∈ F1) (htA : (tA, stP ts) ∈ F1) (hrF : SF.rd = none) (hrP : SP.rd = none)
    (hJ : JI SF SP stA fA ts i (ts[i]'(by omega)) 0 s)
    (D : Led h₀ h ((L, nsP s.m) :: (L + 1, ceP (some (.ref tA))) :: F1 ++ lpLed w stA s.ps SF SP s.nF s.nP rest))
    (q : ∀ s' h' tk, JI SF SP stA fA ts i (ts[i]'(by omega)) (i + 1) s' → Led h₀ h' ((L, nsP s'.m) :: (L + 1, ceP (some (.ref tA))) :: F1 ++ lpLed w stA s'.ps SF SP s'.nF s'.nP rest) → Q .next ⟨h', g, d, tk, os⟩) :
    wpAny (model PR w) A (execs (lawOut 2) (lawEnv c L)) Q E ⟨h, g, d, t, os⟩ := by
  obtain ⟨ul, hlate⟩ := hJ.late
  obtain ⟨o, ho, tv, hov, txv⟩ := D.get (a := tA) (P := stP ts) (.tail _ (.tail _ (List.mem_append_left _ htA)))
  have hlt := txv.len
  refine wpAny_execs_cons ?_
  refine wpAny_For ?_
  refine Call_ ?_
  refine r_builtin (v := .type "enumerate") O D (by kernel_rfl) (by kernel_rfl) ?_
  refine PyProof.Rows.callWith_type1 ?_
  refine args_cons ?_
  refine Subscript_ ?_
  refine r_cell D 1 rfl ?_
  refine wpAny_Slice ?_
  refine evalPart_none_step ?_
  refine evalPart_some_step ?_
  refine wpAny_BinOp ?_
  refine r_local D hlate ?_
  refine q_int ?_
  refine add_int ?_
  refine evalPart_none_step ?_
  refine q_sliceTo D (lsP_is ho hov) (by omega) (by omega) fun sl h1 D1 => ?_
  refine args_nil ?_
  have hk1 : ((i : Int) + 1).toNat = i + 1 := by omega
  rw [hk1] at D1
  have D2 : Led h₀ h1 ((L, nsP s.m) :: (sl, stP (ts.take (i + 1))) :: ((L + 1, ceP (some (.ref tA))) :: F1 ++ lpLed w stA s.ps SF SP s.nF s.nP rest)) :=
    D1.reI (P' := stP (ts.take (i + 1))) 1 rfl fun o _ e => ⟨_, e, txv.take (i + 1)⟩
  refine q_enum D2 (.tail _ (.head _)) fun e2 it2 h3' D3 => ?_
  refine q_iterEn D3 (.tail _ (.head _)) ?_
  have htl : (ts.take (i + 1)).length = i + 1 := by rw [List.length_take]; omega
  have hy : ts[i] ∈ namesOf (ts.take (i + 1)) := (mem_namesOf ts (i + 1) (by omega) _).mpr (List.mem_take_iff_getElem.mpr ⟨i, by omega, rfl⟩)
  refine r_forD (n := i + 1) (fun s : Lo => s.m)
    (fun j s => (e2, enP it2 j) :: (it2, liP sl j) :: (sl, stP (ts.take (i + 1))) :: ((L + 1, ceP (some (.ref tA))) :: F1 ++ lpLed w stA s.ps SF SP s.nF s.nP rest))
    (fun s => (sl, stP (ts.take (i + 1))) :: ((L + 1, ceP (some (.ref tA))) :: F1 ++ lpLed w stA s.ps SF SP s.nF s.nP rest))
    (JI SF SP stA fA ts i ts[i]) (fun j s m' => ∃ (hj : j < 8) (ue u : Tok), m' = fun y => if y = ("one" : Str) then some (.str (ts[j]'(by omega)) u) else if y = ("early" : Str) then some (.int j ue) else s.m y) s D3 hJ ?item ?stop ?turn ?fin
  case item =>
    intro j s h t E Q N hj hJ D q
    have hj8 : j < 8 := by omega
    have e : (ts.take (i + 1))[j]'(by omega) = ts[j]'(by omega) := List.getElem_take
    refine en_item R.hd D (.head _) (by omega) fun ua ub h' t' D' => ?_
    rw [e] at D'
    exact q _ _ _ ⟨hj8, ua, ub, rfl⟩ D'
  case stop =>
    intro s h t E Q N hJ D q
    have D' : Led h₀ h ((L, nsP s.m) :: (e2, enP it2 (ts.take (i + 1)).length) :: (it2, liP sl (ts.take (i + 1)).length) :: (sl, stP (ts.take (i + 1))) :: ((L + 1, ceP (some (.ref tA))) :: F1 ++ lpLed w stA s.ps SF SP s.nF s.nP rest)) := by rw [htl]; exact D
    exact en_stop R.hd D' (.head _) q
  case turn =>
    rintro j s m' h t E hj hJ ⟨hj8, ue, u, rfl⟩ D
    have hxm : ts[j] ∈ namesOf (ts.take (i + 1)) := (mem_namesOf ts (i + 1) (by omega) _).mpr (List.mem_take_iff_getElem.mpr ⟨j, by omega, rfl⟩)
    obtain ⟨ul, hla⟩ := hJ.late
    obtain ⟨v, htw⟩ := hJ.two
    have N' := hJ.nm.put (a := "early") (b := "one") (va := .int j ue) (vb := .str (ts[j]'(by omega)) u) (.head _) (.head _)
    have hzF := hJ.gF.size
    have hzP := hJ.gP.size
    have hzn := len_namesOf ts (i + 1) (by omega)
    refine turnI (F1 := (e2, enP it2 (j + 1)) :: (it2, liP sl (j + 1)) :: (sl, stP (ts.take (i + 1))) :: (L + 1, ceP (some (.ref tA))) :: F1) (x := ts[j]) (y := ts[i]) (u := u) (v := v) (ul := ul) (ue := ue) (i := i) (j := j) (B := 9 * i + j) (ps := s.ps) (m := fun y => if y = ("one" : Str) then some (.str (ts[j]'(by omega)) u) else if y = ("early" : Str) then some (.int j ue) else s.m y)
      O R.less (h3 _ (List.getElem_mem _)) (h3 _ (List.getElem_mem _)) rfl htw N'.full N'.part N'.steps N'.figures hla rfl hi hj8 hfl hF (.tail _ (.tail _ (.tail _ (.tail _ hfA)))) (by have := hJ.len; omega) hrF hrP (by omega) (by omega) hJ.gF.sucB hJ.gP.sucB (by omega) D fun nF' nP' pe h' tk eF eP D' => ?_
    refine ⟨⟨_, nF', nP', s.ps ++ pe, s.es ++ edge ts[j] ts[i]⟩, h', tk, rfl, ?_, D'⟩
    refine ⟨N', ⟨ul, hla⟩, ⟨v, htw⟩, (hJ.gF.tell hxm hy eF).more (by omega), ?_, ?_, fun a ha b hb hab => List.mem_append_left _ (hJ.old a ha b hb hab), fun a ha => ?_⟩
    · show Gr nP' _ (fl (prE (s.ps ++ pe))) _
      rw [prE_app, fl_app]
      rcases eP with ⟨eP, rfl⟩ | ⟨eP, p, rfl, hpe⟩
      · rw [show fl (prE []) = [] from rfl, List.append_nil]
        exact (hJ.gP.same eP).more (by omega)
      · rw [show fl (prE [p]) = edge ts[j] ts[i] from (edge_filter _ _ hpe).symm]
        exact (hJ.gP.tell hxm hy eP).more (by omega)
    · show (s.ps ++ pe).length ≤ 9 * i + (j + 1)
      have h1 := hJ.len
      have h2 : pe.length ≤ 1 := by
        rcases eP with ⟨_, rfl⟩ | ⟨_, p, rfl, _⟩ <;> simp
      rw [List.length_append]; omega
    · rw [List.take_add_one] at ha
      rcases List.mem_append.mp ha with ha | ha
      · have := hJ.cov a ha
        exact ⟨fun h => List.mem_append_left _ (this.1 h), fun h => List.mem_append_left _ (this.2 h)⟩
      · have : a = ts[j] := by
          have hh : ts[j]? = some ts[j] := by simp
          rw [hh] at ha
          simpa using ha
        subst this
        exact ⟨fun h => List.mem_append_right _ (edge_lt h), fun h => List.mem_append_right _ (edge_gt h)⟩
  case fin =>
    intro s h t hJ D
    refine wpAny_execs_nil ?_
    exact q s h t hJ (D.sub (.cons_cons _ (.cons _ (List.Sublist.refl _))))
end
end Mine
end

section
open PySem PySem.W PyProof.Rows PySem.Calls
namespace Mine
/-- ahead of turn i of the outer loop -/
structure JO (SF SP : So) (stA fA : Addr) (ts : List Str) (i : Nat) (s : Lo) : Prop where
  nm : Nm s.m SF SP stA fA
  gF : Gr s.nF (namesOf (ts.take i)) s.es (9 * i)
  gP : Gr s.nP (namesOf (ts.take i)) (fl (prE s.ps)) (9 * i)
  len : s.ps.length ≤ 9 * i
  old : ∀ a ∈ ts.take i, ∀ b ∈ ts.take i, SL a b → (a, b) ∈ s.es

section
variable {w : World} {h₀ : Heap} {A : Around} {E : Value → Shared → Prop} {h h' : Heap} {g : Array GenState} {d : Drawn} {t : Nat} {os : OsState} {led rest own : List (Addr × OP)} {env : Env} {outer : List Env} {gs : GenState}

theorem JI.out {SF SP : So} {stA fA : Addr} {ts : List Str} {i : Nat} {s : Lo} (hi : i < 8) (hts : ts.length = 8) (J : JI SF SP stA fA ts i (ts[i]'(by omega)) (i + 1) s) : JO SF SP stA fA ts (i + 1) s where
  nm := J.nm
  gF := J.gF.more (by omega)
  gP := J.gP.more (by omega)
  len := by have := J.len; omega
  old := fun a ha b hb hab => by
    have e : ts.take (i + 1) = ts.take i ++ [ts[i]] := by
      rw [List.take_add_one]; simp [hts, hi]
    have hc := J.cov
    have ha' := ha
    have hb' := hb
    rw [e] at ha' hb'
    rcases List.mem_append.mp ha' with ha' | ha'
    · rcases List.mem_append.mp hb' with hb' | hb'
      · exact J.old a ha' b hb' hab
      · obtain rfl := List.mem_singleton.mp hb'; exact (hc a ha).1 hab
    · obtain rfl := List.mem_singleton.mp ha'
      exact (hc b hb).2 hab

set_option maxHeartbeats 8000000 in
/-- the outer loop -/
theorem segC {L fA stA tA : Addr} {c : Value} {figs : List Int} {SF SP : So} {ts : List Str} {m : Str → Option Value} {Q : Flow → Shared → Prop}
    (O : Ok w h₀) (R : Rm 18 A) (hts : ts.length = 8) (h3 : ∀ x ∈ ts, x.cps.size ≤ 3) (hfl : figs.length = 8) (hF : Fig figs) (hrF : SF.rd = none) (hrP : SP.rd = none) (hm : Nm m SF SP stA fA)
    (D : Led h₀ h ((L, nsP m) :: (L + 1, ceP (some (.ref tA))) :: (tA, stP ts) :: (fA, inP figs) :: (L + 1 + 1 + 1, ceP none) :: (L + 1 + 1, ceP none) :: lpLed w stA [] SF SP [] [] rest))
    (q : ∀ s h' tk, JO SF SP stA fA ts 8 s → Led h₀ h' ((L, nsP s.m) :: (L + 1, ceP (some (.ref tA))) :: (tA, stP ts) :: (fA, inP figs) :: (L + 1 + 1 + 1, ceP none) :: (L + 1 + 1, ceP none) :: lpLed w stA s.ps SF SP s.nF s.nP rest) → wpAny (model PR w) A (execs (lawAt 7) (lawEnv c L)) Q E ⟨h', g, d, tk, os⟩) :
    wpAny (model PR w) A (execs (lawAt 6) (lawEnv c L)) Q E ⟨h, g, d, t, os⟩ := by
  rw [law_cons 6 (by rw [law_len]; decide)]
  refine wpAny_execs_cons ?_
  refine wpAny_For ?_
  refine Call_ ?_
  refine r_builtin (v := .type "enumerate") O D (by kernel_rfl) (by kernel_rfl) ?_
  refine PyProof.Rows.callWith_type1 ?_
  refine args_cons ?_
  refine r_cell D 1 rfl ?_
  refine args_nil ?_
  refine q_enum D (.tail _ (.tail _ (.head _))) fun e it h1 D1 => ?_
  refine q_iterEn D1 (.tail _ (.head _)) ?_
  refine r_forD (n := 8) (fun s : Lo => s.m)
    (fun i s => (e, enP it i) :: (it, liP tA i) :: (L + 1, ceP (some (.ref tA))) :: (tA, stP ts) :: (fA, inP figs) :: (L + 1 + 1 + 1, ceP none) :: (L + 1 + 1, ceP none) :: lpLed w stA s.ps SF SP s.nF s.nP rest)
    (fun s => (L + 1, ceP (some (.ref tA))) :: (tA, stP ts) :: (fA, inP figs) :: (L + 1 + 1 + 1, ceP none) :: (L + 1 + 1, ceP none) :: lpLed w stA s.ps SF SP s.nF s.nP rest)
    (JO SF SP stA fA ts) (fun i s m' => ∃ (hi : i < 8) (ul u : Tok), m' = fun y => if y = ("two" : Str) then some (.str (ts[i]'(by omega)) u) else if y = ("late" : Str) then some (.int i ul) else s.m y) ⟨m, [], [], [], []⟩ D1
    ⟨hm, Gr.nil, Gr.nil, Nat.le_refl _, by intro a ha; cases ha⟩ ?item ?stop ?turn ?fin
  case item =>
    intro i s h t E Q N hi hJ D q
    exact en_item R.hd D (.tail _ (.head _)) (by omega) fun ua ub h' t' D' => q _ _ _ ⟨hi, ua, ub, rfl⟩ D'
  case stop =>
    intro s h t E Q N hJ D q
    refine en_stop (xs := ts) (l := tA) (e := e) (it := it) R.hd ?_ (.tail _ (.head _)) q
    rw [hts]; exact D
  case turn =>
    rintro i s m' h t E hi hJ ⟨_, ul, u, rfl⟩ D
    have N' := hJ.nm.put (a := "late") (b := "two") (va := .int i ul) (vb := .str (ts[i]'(by omega)) u) (.tail _ (.head _)) (.tail _ (.head _))
    have hzF := hJ.gF.size
    have hzP := hJ.gP.size
    have hzn := len_namesOf ts i (by omega)
    show wpAny (model PR w) A (execs (lawOut 0) (lawEnv c L)) _ E _
    have D0 : Led h₀ h (((L, nsP _) :: (e, enP it (i + 1)) :: (it, liP tA (i + 1)) :: (L + 1, ceP (some (.ref tA))) :: (tA, stP ts) :: (fA, inP figs) :: (L + 1 + 1 + 1, ceP none) :: (L + 1 + 1, ceP none) :: []) ++ lpLed w stA s.ps SF SP s.nF s.nP rest) := D
    refine wpAny_execs_cons ?_
    refine wpAny_Expr ?_
    refine MethodCall_ ?_
    refine r_local D N'.full ?_
    refine gm (S := { SF with nds := s.nF }) O D0.toF rfl (f := 94) (by kernel_rfl) (by kernel_rfl) (by kernel_rfl) (by rfl) ?_
    refine q_call1 O (by kernel_rfl) ?_
    refine args_cons ?_
    refine Call_ ?_
    refine r_global (v := .ref 28) O D (by kernel_rfl) ?_
    refine q_call1 O (by kernel_rfl) ?_
    refine args_cons ?_
    refine r_local D (by rfl) ?_
    refine args_nil ?_
    refine ⟨⟨_, D⟩, ?_⟩
    refine strxfrm O D0.toF R.less fun h2 t2 D2 => ?_
    refine args_nil ?_
    refine ⟨⟨_, D2⟩, ?_⟩
    refine add_ (S := { SF with nds := s.nF }) (vs := []) (us := []) O R.less rfl hrF (by show s.nF.length + 0 ≤ 900; omega) hJ.gF.sucB (by show 9 * i + 0 ≤ 90000; omega) D2 fun nF' h3' t3 eF D3 => ?_
    have D4 := D3.ofF
    show wpAny (model PR w) A (execs (lawOut 1) (lawEnv c L)) _ E _
    refine wpAny_execs_cons ?_
    refine wpAny_Expr ?_
    refine MethodCall_ ?_
    refine r_local D4 N'.part ?_
    refine gm (S := { SP with nds := s.nP }) O D4.toP rfl (f := 94) (by kernel_rfl) (by kernel_rfl) (by kernel_rfl) (by rfl) ?_
    refine q_call1 O (by kernel_rfl) ?_
    refine args_cons ?_
    refine Call_ ?_
    refine r_global (v := .ref 28) O D4 (by kernel_rfl) ?_
    refine q_call1 O (by kernel_rfl) ?_
    refine args_cons ?_
    refine r_local D4 (by rfl) ?_
    refine args_nil ?_
    refine ⟨⟨_, D4⟩, ?_⟩
    refine strxfrm O D4.toP R.less fun h5 t5 D5 => ?_
    refine args_nil ?_
    refine ⟨⟨_, D5⟩, ?_⟩
    refine add_ (S := { SP with nds := s.nP }) (vs := []) (us := []) O R.less rfl hrP (by show s.nP.length + 0 ≤ 900; omega) hJ.gP.sucB (by show 9 * i + 0 ≤ 90000; omega) D5 fun nP' h6 t6 eP D6 => ?_
    have D7 := D6.ofP
    have D8 : Led h₀ h6 ((L, nsP _) :: (L + 1, ceP (some (.ref tA))) :: ((e, enP it (i + 1)) :: (it, liP tA (i + 1)) :: (tA, stP ts) :: (fA, inP figs) :: (L + 1 + 1 + 1, ceP none) :: (L + 1 + 1, ceP none) :: []) ++ lpLed w stA s.ps SF SP nF' nP' rest) := (D7.pick 3 rfl).swap
    have gF' := hJ.gF.add0 (x := ts[i]) eF
    have gP' := hJ.gP.add0 (x := ts[i]) eP
    rw [← namesOf_take ts i (by omega)] at gF' gP'
    show wpAny (model PR w) A (execs (lawOut 2) (lawEnv c L)) _ E _
    refine loopI (figs := figs) (ts := ts) (i := i) (s := ⟨_, nF', nP', s.ps, s.es⟩) O R.less hi hts h3 hfl hF (.tail _ (.tail _ (.tail _ (.head _)))) (.tail _ (.tail _ (.head _))) hrF hrP ⟨N', ⟨ul, rfl⟩, ⟨u, rfl⟩, gF', gP', hJ.len, hJ.old, by intro a ha; cases ha⟩ D8 fun s' h9 t9 hJ' D9 => ?_
    exact ⟨s', h9, t9, rfl, hJ'.out hi hts, D9.perm (.cons _ (rot2 _ _ _ _))⟩
  case fin =>
    intro s h t hJ D
    exact q s h t hJ D

set_option maxHeartbeats 8000000 in
/-- the two sorters, the list of steps -/
theorem segB {L fA tA : Addr} {c : Value} {figs : List Int} {ts : List Str} {m : Str → Option Value} {Q : Flow → Shared → Prop}
    (O : Ok w h₀) (R : Rm 18 A) (hm : m ("figures" : Str) = some (.ref fA))
    (D : Led h₀ h ((L, nsP m) :: (L + 1 + 1 + 1, ceP none) :: (L + 1 + 1, ceP none) :: (L + 1, ceP (some (.ref tA))) :: (tA, stP ts) :: (fA, inP figs) :: rest))
    (q : ∀ m SF SP stA h' tk, SF.rd = none → SP.rd = none → SF.np = SF.nf → SP.np = 0 → SP.nf = 0 → Nm m SF SP stA fA → Led h₀ h' ((L, nsP m) :: (L + 1, ceP (some (.ref tA))) :: (tA, stP ts) :: (fA, inP figs) :: (L + 1 + 1 + 1, ceP none) :: (L + 1 + 1, ceP none) :: lpLed w stA [] SF SP [] [] rest) → wpAny (model PR w) A (execs (lawAt 6) (lawEnv c L)) Q E ⟨h', g, d, tk, os⟩) :
    wpAny (model PR w) A (execs (lawAt 3) (lawEnv c L)) Q E ⟨h, g, d, t, os⟩ := by
  rw [law_cons 3 (by rw [law_len]; decide)]
  refine wpAny_execs_cons ?_
  refine wpAny_Assign_Name ?_
  refine Call_ ?_
  refine r_global (v := .ref 144) O D (by kernel_rfl) ?_
  refine q_call0 O D (by kernel_rfl) ?_
  refine make_sorter O R.less D fun a dx n u v h1 t1 D1 => ?_
  have D2 := D1.perm List.perm_middle
  refine r_store D2 fun h3 D3 => ?_
  show wpAny (model PR w) A (execs (lawAt 4) (lawEnv c L)) Q E _
  rw [law_cons 4 (by rw [law_len]; decide)]
  refine wpAny_execs_cons ?_
  refine wpAny_Assign_Name ?_
  refine Call_ ?_
  refine r_global (v := .ref 144) O D3 (by kernel_rfl) ?_
  refine q_call0 O D3 (by kernel_rfl) ?_
  refine make_sorter O R.less D3 fun a2 dx2 n2 u2 v2 h4 t4 D4 => ?_
  have D5 := D4.perm List.perm_middle
  refine r_store D5 fun h6 D6 => ?_
  show wpAny (model PR w) A (execs (lawAt 5) (lawEnv c L)) Q E _
  rw [law_cons 5 (by rw [law_len]; decide)]
  refine wpAny_execs_cons ?_
  refine wpAny_Assign_Name ?_
  refine q_list0 D6 fun stA h7 D7 => ?_
  refine r_store D7 fun h8 D8 => ?_
  show wpAny (model PR w) A (execs (lawAt 6) (lawEnv c L)) Q E _
  obtain ⟨m8, D9, hN8⟩ : ∃ m8, Led h₀ h8 ((L, nsP m8) :: (stA, lsP []) :: (soLed w ⟨a2, dx2, n2, none, 0, u2, 0, v2, []⟩ ++ (soLed w ⟨a, dx, n, none, 0, u, 0, v, []⟩ ++ ((L + 1 + 1 + 1, ceP none) :: (L + 1 + 1, ceP none) :: (L + 1, ceP (some (.ref tA))) :: (tA, stP ts) :: (fA, inP figs) :: rest)))) ∧ Nm m8 ⟨a, dx, n, none, 0, u, 0, v, []⟩ ⟨a2, dx2, n2, none, 0, u2, 0, v2, []⟩ stA fA := ⟨_, D8, rfl, rfl, rfl, hm⟩
  refine q m8 ⟨a, dx, n, none, 0, u, 0, v, []⟩ ⟨a2, dx2, n2, none, 0, u2, 0, v2, []⟩ stA h8 _ rfl rfl rfl rfl rfl hN8 (D9.perm ?_)
  refine List.Perm.cons _ ?_
  unfold lpLed
  refine List.Perm.trans (l₂ := (stA, lsP []) :: (soLed w ⟨a, dx, n, none, 0, u, 0, v, []⟩ ++ (soLed w ⟨a2, dx2, n2, none, 0, u2, 0, v2, []⟩ ++ ((L + 1 + 1 + 1, ceP none) :: (L + 1 + 1, ceP none) :: (L + 1, ceP (some (.ref tA))) :: (tA, stP ts) :: (fA, inP figs) :: rest)))) (List.Perm.cons _ ?_) ?_
  · rw [← List.append_assoc, ← List.append_assoc]
    exact List.perm_append_comm.append_right _
  · refine List.Perm.trans (l₂ := ((L + 1 + 1 + 1, ceP none) :: (L + 1 + 1, ceP none) :: (L + 1, ceP (some (.ref tA))) :: (tA, stP ts) :: (fA, inP figs) :: []) ++ ((stA, lsP []) :: (soLed w ⟨a, dx, n, none, 0, u, 0, v, []⟩ ++ (soLed w ⟨a2, dx2, n2, none, 0, u2, 0, v2, []⟩ ++ rest)))) ?_ ?_
    · have := (List.perm_append_comm (l₁ := (stA, lsP []) :: (soLed w ⟨a, dx, n, none, 0, u, 0, v, []⟩ ++ soLed w ⟨a2, dx2, n2, none, 0, u2, 0, v2, []⟩)) (l₂ := ((L + 1 + 1 + 1, ceP none) :: (L + 1 + 1, ceP none) :: (L + 1, ceP (some (.ref tA))) :: (tA, stP ts) :: (fA, inP figs) :: []))).append_right rest
      simpa using this
    · exact rot5 _ _ _ _ _ _
end
end Mine
end

section
open PySem PySem.W PyProof.Rows PySem.Calls
namespace Mine
section
variable {w : World} {h₀ : Heap} {A : Around} {E : Value → Shared → Prop} {h h' : Heap} {g : Array GenState} {d : Drawn} {t : Nat} {os : OsState} {led rest own : List (Addr × OP)} {env : Env} {outer : List Env} {gs : GenState}

theorem prO_in {F : List (Addr × OP)} {stA : Addr} {ps : List Pr} {SF SP : So} {nF nP : List Nd} : ∀ p ∈ ps, prO p ∈ F ++ lpLed w stA ps SF SP nF nP rest := fun p hp =>
  List.mem_append_right _ (.tail _ (List.mem_append_left _ (List.mem_map.mpr ⟨p, hp, rfl⟩)))

set_option maxHeartbeats 8000000 in
/-- the steps between different texts -/
theorem segD {L stA : Addr} {c : Value} {F : List (Addr × OP)} {ps : List Pr} {SF SP : So} {nF nP : List Nd} {m : Str → Option Value} {Q : Flow → Shared → Prop}
    (O : Ok w h₀) (R : Rm 18 A) (hm : m ("steps" : Str) = some (.ref stA)) (hz : ps.length ≤ 1000)
    (D : Led h₀ h ((L, nsP m) :: F ++ lpLed w stA ps SF SP nF nP rest))
    (q : ∀ stB ps' h' tk, prE ps' = fl (prE ps) → ps'.length ≤ ps.length → Led h₀ h' ((L, nsP (fun z => if z = ("steps" : Str) then some (.ref stB) else m z)) :: F ++ lpLed w stB ps' SF SP nF nP rest) → wpAny (model PR w) A (execs (lawAt 8) (lawEnv c L)) Q E ⟨h', g, d, tk, os⟩) :
    wpAny (model PR w) A (execs (lawAt 7) (lawEnv c L)) Q E ⟨h, g, d, t, os⟩ := by
  rw [law_cons 7 (by rw [law_len]; decide)]
  have hst : (stA, lsP (ps.map prV)) ∈ F ++ lpLed w stA ps SF SP nF nP rest := List.mem_append_right _ (.head _)
  have hpr := prO_in (w := w) (F := F) (stA := stA) (ps := ps) (SF := SF) (SP := SP) (nF := nF) (nP := nP) (rest := rest)
  generalize hX : F ++ lpLed w stA ps SF SP nF nP rest = X0 at hst hpr
  have D0 : Led h₀ h ((L, nsP m) :: X0) := by rw [← hX]; exact D
  refine wpAny_execs_cons ?_
  refine r_assignComp (cl := []) (by rfl) (by rfl) (by rfl) (by decide) ?_
  refine r_local D0 hm ?_
  refine q_iterLm D0 (.tail _ hst) fun it h1 D1 => ?_
  refine r_compD (pf := fun _ (_ : Unit) => []) (τ₀ := ()) (n := ps.length) (fun s : List Pr => s.map prV)
    (fun i s => (L, nsP m) :: (it, liP stA i) :: (s.map prO ++ X0)) (fun s => (L, nsP m) :: (s.map prO ++ X0))
    (fun i s => prE s = fl (prE (ps.take i)) ∧ s.length ≤ i ∧ i ≤ ps.length) (fun _ i _ m2 _ => ∃ p, ps[i]? = some p ∧ m2 ("two" : Str) = some (.str p.2.2.1 p.2.2.2) ∧ m2 ("one" : Str) = some (.str p.2.1.1 p.2.1.2)) [] (fun C => by rfl) D1 rfl ⟨rfl, Nat.le_refl _, Nat.zero_le _⟩ ?dlen ?dself ?ditem ?dstop ?dturn ?dfin
  case dlen => rintro i s ⟨_, h1, h2⟩; rw [List.length_map]; omega
  case dself =>
    intro led' h t E Q D q
    obtain ⟨o, ho, hc, hd⟩ := D.get (a := it) (P := liP stA 0) (List.mem_append_right _ (.tail _ (.head _)))
    exact wpAny_pyIter_listiter (l := stA) (i := 0) ⟨o, ho, hc, hd⟩ q
  case ditem =>
    intro C a i s m2 τ h t E Q N hi hJ D q
    exact pr_draw R.hd D 2 rfl (.tail _ (.tail _ (List.mem_append_right _ hst))) (fun p hpp => .tail _ (.tail _ (.tail _ (List.mem_append_right _ (hpr p hpp))))) hi fun h' t' D' => q _ () _ _ ⟨ps[i], by simp [hi], rfl, rfl⟩ D'
  case dstop =>
    intro C a s m2 τ h t E Q N hJ D q
    exact pr_end R.hd D 3 rfl (.tail _ (.tail _ (.tail _ (List.mem_append_right _ hst)))) fun h' D' => q _ _ D'
  case dturn =>
    rintro C a i s m2 τ h2 t2 E2 hi ⟨j1, j2, j3⟩ ⟨p, hp, hm1, hm2⟩ D2
    have htk : prE (ps.take (i + 1)) = prE (ps.take i) ++ [(p.2.1.1, p.2.2.1)] := by
      rw [List.take_add_one, hp]; exact prE_app _ _
    refine wpAny_tests_one ?_
    refine wpAny_isTrue_Compare1 ?_
    refine r_local D2 hm2 ?_
    refine r_local D2 hm1 ?_
    refine q_neS ?_
    refine wpAny_truthy_bool ?_
    by_cases hb : p.2.1.1 = p.2.2.1
    · rw [decide_eq_true hb, Bool.not_true, if_neg (by decide)]
      refine ⟨s, h2, _, m2, (), rfl, ⟨?_, by omega, by omega⟩, rfl, D2⟩
      rw [htk, fl_app, j1, show fl [(p.2.1.1, p.2.2.1)] = [] by simp [fl, hb], List.append_nil]
    · rw [decide_eq_false hb, Bool.not_false, if_pos rfl]
      refine Tuple_ ?_
      refine args_cons ?_
      refine r_local D2 hm2 ?_
      refine args_cons ?_
      refine r_local D2 hm1 ?_
      refine args_nil ?_
      refine q_newTuple D2 (by simp) fun T h3 D3 => ?_
      refine ⟨s ++ [(T, (p.2.1.1, p.2.1.2), (p.2.2.1, p.2.2.2))], h3, _, m2, (), rfl, ⟨?_, by rw [List.length_append]; simp; omega, by omega⟩, by rw [List.map_append]; rfl, D3.perm (.cons _ ?_)⟩
      · rw [htk, fl_app, prE_app, j1, show fl [(p.2.1.1, p.2.2.1)] = [(p.2.1.1, p.2.2.1)] by simp [fl, hb]]; rfl
      · rw [List.map_append, List.append_assoc]
        exact (List.perm_middle (l₁ := (a, lsP (s.map prV)) :: (L, nsP m) :: (it, liP stA (i + 1)) :: s.map prO) (l₂ := X0) (a := prO (T, (p.2.1.1, p.2.1.2), (p.2.2.1, p.2.2.2)))).symm
  case dfin =>
    rintro C a s m2 h2 t2 ⟨j1, j2, j3⟩ D2
    rw [List.take_length] at j1
    refine post_assign (env := lawEnv c L) D2 fun h3 t3 D3 => ?_
    refine q a s h3 t3 j1 j2 ?_
    rw [← hX] at D3
    unfold lpLed at D3 ⊢
    refine Led.perm (D3.sub (.cons_cons _ (.cons_cons _ ((List.Sublist.refl (s.map prO)).append ((List.Sublist.refl F).append (.cons _ (List.sublist_append_right _ _))))))) (.cons _ ?_)
    rw [← List.append_assoc]
    refine ((List.perm_append_comm (l₁ := s.map prO) (l₂ := F)).append_right _ |>.cons _).trans ?_
    rw [List.append_assoc]
    exact List.perm_middle.symm
end
end Mine
end

section
open PySem PySem.W PyProof.Rows PySem.Calls
namespace Mine
theorem rot4 {α : Type} (a b c d : α) (r : List α) : (a :: b :: c :: d :: r).Perm (c :: d :: a :: b :: r) := by
  have : (([a, b] ++ [c, d]) ++ r).Perm (([c, d] ++ [a, b]) ++ r) := List.perm_append_comm.append_right r
  exact this
section
variable {w : World} {h₀ : Heap} {A : Around} {E : Value → Shared → Prop} {h h' : Heap} {g : Array GenState} {d : Drawn} {t : Nat} {os : OsState} {led rest own : List (Addr × OP)} {env : Env} {outer : List Env} {gs : GenState}

set_option maxHeartbeats 8000000 in
/-- the names -/
theorem segE {L tA fA : Addr} {c : Value} {ts : List Str} {figs : List Int} {m : Str → Option Value} {X : List (Addr × OP)} {Q : Flow → Shared → Prop}
    (O : Ok w h₀) (R : Rm 18 A) (hts : ts.length = 8)
    (D : Led h₀ h ((L, nsP m) :: (L + 1, ceP (some (.ref tA))) :: (tA, stP ts) :: (fA, inP figs) :: (L + 1 + 1 + 1, ceP none) :: (L + 1 + 1, ceP none) :: X))
    (q : ∀ nA h' tk, Led h₀ h' ((L, nsP m) :: (L + 1, ceP (some (.ref tA))) :: (tA, stP ts) :: (nA, stP (namesOf ts)) :: (L + 1 + 1 + 1, ceP none) :: (L + 1 + 1, ceP (some (.ref nA))) :: X) → wpAny (model PR w) A (execs (lawAt 9) (lawEnv c L)) Q E ⟨h', g, d, tk, os⟩) :
    wpAny (model PR w) A (execs (lawAt 8) (lawEnv c L)) Q E ⟨h, g, d, t, os⟩ := by
  rw [law_cons 8 (by rw [law_len]; decide)]
  refine wpAny_execs_cons ?_
  refine wpAny_Assign_Name ?_
  refine r_listComp (cl := [("texts", L + 1)]) (by rfl) (by rfl) (by decide) ?_
  refine Call_ ?_
  refine r_builtin (v := .type "enumerate") O D (by kernel_rfl) (by kernel_rfl) ?_
  refine PyProof.Rows.callWith_type1 ?_
  refine args_cons ?_
  refine r_cell D 1 rfl ?_
  refine args_nil ?_
  refine q_enum D (.tail _ (.tail _ (.head _))) fun e it h1 D1 => ?_
  refine q_iterEn D1 (.tail _ (.head _)) ?_
  refine r_compD (pf := fun _ (_ : Unit) => []) (τ₀ := ()) (n := 8) (fun s : List Value => s)
    (fun i _ => (L, nsP m) :: (e, enP it i) :: (it, liP tA i) :: (L + 1, ceP (some (.ref tA))) :: (tA, stP ts) :: (fA, inP figs) :: (L + 1 + 1 + 1, ceP none) :: (L + 1 + 1, ceP none) :: X)
    (fun _ => (L, nsP m) :: (L + 1, ceP (some (.ref tA))) :: (tA, stP ts) :: (fA, inP figs) :: (L + 1 + 1 + 1, ceP none) :: (L + 1 + 1, ceP none) :: X)
    (fun i s => i ≤ 8 ∧ TX s (namesOf (ts.take i))) (fun _ i _ m2 _ => ∃ (hi : i < 8) (ua ub : Tok), m2 ("text" : Str) = some (.str (ts[i]'(by omega)) ub) ∧ m2 ("place" : Str) = some (.int i ua)) [] (fun C => by rfl) D1 rfl ⟨by decide, rfl⟩ ?elen ?eself ?eitem ?estop ?eturn ?efin
  case elen =>
    rintro i s ⟨h8, hJ⟩
    have h1 := hJ.len
    have h2 := len_namesOf ts i (by omega)
    show s.length ≤ 90000
    omega
  case eself =>
    intro led' h t E Q D q
    exact q_iterEn D (List.mem_append_right _ (.tail _ (.head _))) q
  case eitem =>
    intro C a i s m2 τ h t E Q N hi hJ D q
    refine en_item R.hd (D.perm (.cons _ (rot4 _ _ _ _ _))) (.tail _ (.tail _ (.tail _ (.head _)))) (by omega) fun ua ub h' t' D' => ?_
    exact q _ () _ _ ⟨hi, ua, ub, rfl, rfl⟩ (D'.perm (.cons _ (rot4 _ _ _ _ _)))
  case estop =>
    intro C a s m2 τ h t E Q N hJ D q
    refine en_stop (xs := ts) (l := tA) (e := e) (it := it) R.hd ?_ (.tail _ (.tail _ (.tail _ (.head _)))) fun h' t' D' => q h' t' D'
    rw [hts]
    exact D.perm (.cons _ (rot4 _ _ _ _ _))
  case eturn =>
    rintro C a i s m2 τ h2 t2 E2 hi ⟨_, hJ⟩ ⟨_, ua, ub, hm1, hm2⟩ D2
    obtain ⟨o, ho, tv, hov, txv⟩ := D2.get (a := tA) (P := stP ts) (.tail _ (.tail _ (.tail _ (.tail _ (.tail _ (.tail _ (.head _)))))))
    have hlt := txv.len
    refine wpAny_tests_one ?_
    refine wpAny_isTrue_Compare1 ?_
    refine r_local D2 hm1 ?_
    refine Subscript_ ?_
    refine r_cell D2 5 rfl ?_
    refine wpAny_Slice ?_
    refine evalPart_none_step ?_
    refine evalPart_some_step ?_
    refine r_local D2 hm2 ?_
    refine evalPart_none_step ?_
    refine q_sliceTo D2 (lsP_is ho hov) (by omega) (by omega) fun sl h3 D3 => ?_
    have hk1 : (i : Int).toNat = i := by omega
    rw [hk1] at D3
    have D4 := D3.reI (P' := stP (ts.take i)) 1 rfl fun o _ e => ⟨_, e, txv.take i⟩
    refine q_notinT D4 (xs := ts.take i) (.tail _ (.head _)) ?_
    refine wpAny_truthy_bool ?_
    have D5 := D4.sub (.cons_cons _ (.cons _ (List.Sublist.refl _)))
    have hmem : decide (ts[i] ∈ ts.take i) = decide (ts[i] ∈ namesOf (ts.take i)) := by
      rw [decide_eq_decide]; exact (mem_namesOf ts i (by omega) _).symm
    rw [hmem]
    by_cases hb : ts[i] ∈ namesOf (ts.take i)
    · rw [decide_eq_true hb, Bool.not_true, if_neg (by decide)]
      refine ⟨s, h3, _, m2, (), rfl, ⟨by omega, ?_⟩, rfl, D5⟩
      rw [namesOf_take ts i (by omega)]
      unfold ensL; rw [if_pos hb]; exact hJ
    · rw [decide_eq_false hb, Bool.not_false, if_pos rfl]
      refine r_local D5 hm1 ⟨s ++ [_], h3, _, m2, (), rfl, ⟨by omega, ?_⟩, rfl, D5⟩
      rw [namesOf_take ts i (by omega)]
      unfold ensL; rw [if_neg hb]; exact hJ.snoc _ _
  case efin =>
    rintro C a s m2 h2 t2 ⟨_, hJ⟩ D2
    refine post_value D2 fun h3 D3 => ?_
    rw [show ts.take 8 = ts by rw [← hts, List.take_length]] at hJ
    have D4 : Led h₀ h3 ((L, nsP m) :: (a, stP (namesOf ts)) :: (L + 1, ceP (some (.ref tA))) :: (tA, stP ts) :: (fA, inP figs) :: (L + 1 + 1 + 1, ceP none) :: (L + 1 + 1, ceP none) :: X) :=
      (D3.reI (P' := stP (namesOf ts)) 0 rfl fun o _ e => ⟨_, e, hJ⟩).swap
    refine r_storeC D4 6 rfl fun h4 D5 => ?_
    refine q a h4 _ ?_
    exact (Led.sub D5 (.cons_cons _ (.cons_cons _ (.cons_cons _ (.cons_cons _ (.cons _ (List.Sublist.refl _))))))).perm (.cons _ (rot2 _ _ _ _))
end
end Mine
end

section
open PySem PySem.W PyProof.Rows PySem.Calls
namespace Mine
noncomputable def rks (ns : List Str) : List Int := ns.map fun x => (rankOf ns x : Int)
theorem sg_neg (x y : Str) : decide (sg x y < 0) = decide (SL x y) := by
  rcases SL.tri x y with h | rfl | h
  · rw [sg_lt h, decide_eq_true h]; rfl
  · rw [sg_eq, decide_eq_false (SL.irr x)]; rfl
  · rw [sg_gt h, decide_eq_false h.asym]; rfl
section
variable {w : World} {h₀ : Heap} {A : Around} {E : Value → Shared → Prop} {h h' : Heap} {g : Array GenState} {d : Drawn} {t : Nat} {os : OsState} {led rest own : List (Addr × OP)} {env : Env} {outer : List Env} {gs : GenState}

set_option maxHeartbeats 8000000 in
/-- the ranks -/
theorem segF {L tA nA : Addr} {c : Value} {ts ns : List Str} {m : Str → Option Value} {X : List (Addr × OP)} {Q : Flow → Shared → Prop}
    (O : Ok w h₀) (R : Rm 18 A) (hz : ns.length ≤ 8) (h3 : ∀ x ∈ ns, x.cps.size ≤ 3)
    (D : Led h₀ h ((L, nsP m) :: (L + 1, ceP (some (.ref tA))) :: (tA, stP ts) :: (nA, stP ns) :: (L + 1 + 1 + 1, ceP none) :: (L + 1 + 1, ceP (some (.ref nA))) :: X))
    (q : ∀ rA h' tk, Led h₀ h' ((L, nsP m) :: (L + 1, ceP (some (.ref tA))) :: (tA, stP ts) :: (nA, stP ns) :: (rA, inP (rks ns)) :: (L + 1 + 1 + 1, ceP (some (.ref rA))) :: (L + 1 + 1, ceP (some (.ref nA))) :: X) → wpAny (model PR w) A (execs (lawAt 10) (lawEnv c L)) Q E ⟨h', g, d, tk, os⟩) :
    wpAny (model PR w) A (execs (lawAt 9) (lawEnv c L)) Q E ⟨h, g, d, t, os⟩ := by
  rw [law_cons 9 (by rw [law_len]; decide)]
  have hz3 : ∀ x ∈ ns, x.cps.size ≤ 1000 := fun x hx => Nat.le_trans (h3 x hx) (by decide)
  refine wpAny_execs_cons ?_
  refine wpAny_Assign_Name ?_
  refine r_listComp (cl := [("names", L + 1 + 1)]) (by rfl) (by rfl) (by decide) ?_
  refine r_cell D 5 rfl ?_
  refine q_iterSt D (.tail _ (.tail _ (.tail _ (.head _)))) fun it h1 D1 => ?_
  refine r_compD (pf := fun C τ => [(C + 1, ceP τ)]) (τ₀ := none) (n := ns.length) (fun s : List Value => s)
    (fun i _ => (L, nsP m) :: (it, liP nA i) :: (L + 1, ceP (some (.ref tA))) :: (tA, stP ts) :: (nA, stP ns) :: (L + 1 + 1 + 1, ceP none) :: (L + 1 + 1, ceP (some (.ref nA))) :: X)
    (fun _ => (L, nsP m) :: (L + 1, ceP (some (.ref tA))) :: (tA, stP ts) :: (nA, stP ns) :: (L + 1 + 1 + 1, ceP none) :: (L + 1 + 1, ceP (some (.ref nA))) :: X)
    (fun i s => i ≤ ns.length ∧ IntsAre s ((ns.take i).map fun x => (rankOf ns x : Int))) (fun _ i _ _ τ => ∃ x u, ns[i]? = some x ∧ τ = some (.str x u)) [] (fun C => by rfl) D1 rfl ⟨Nat.zero_le _, .nil⟩ ?clen ?cself ?citem ?cstop ?cturn ?cfin
  case clen =>
    rintro i s ⟨h1, h2⟩
    have h2 := h2.length
    rw [List.length_map, List.length_take] at h2
    show s.length ≤ 90000
    omega
  case cself =>
    intro led' h t E Q D q
    obtain ⟨o, ho, hc, hd⟩ := D.get (a := it) (P := liP nA 0) (List.mem_append_right _ (.tail _ (.head _)))
    exact wpAny_pyIter_listiter (l := nA) (i := 0) ⟨o, ho, hc, hd⟩ q
  case citem =>
    intro C a i s m' τ h t E Q N hi hJ D q
    refine nz_draw (nz_st it nA ns).toNy D 4 rfl (List.mem_of_mem_drop (i := 6) (.head _)) hi fun v h' t' hv D' => ?_
    obtain ⟨x, u, hx, rfl⟩ := hv
    exact r_storeC D' 1 rfl fun h2 D2 => q _ _ _ _ ⟨x, u, hx, rfl⟩ D2
  case cstop =>
    intro C a s m' τ h t E Q N hJ D q
    refine nz_end (nz_st it nA ns).toNy R.hd D 4 rfl (List.mem_of_mem_drop (i := 6) (.head _)) fun h' D' => ?_
    exact q _ _ (D'.sub (.cons_cons _ (.cons _ (List.Sublist.refl _))))
  case cturn =>
    rintro C a i s m' τ h2 t2 E2 hi ⟨_, hJ⟩ ⟨x, u, hx, rfl⟩ D2
    have hxn : x ∈ ns := List.mem_of_getElem? hx
    refine wpAny_tests_nil ?_
    rw [if_pos rfl]
    refine Call_ ?_
    refine r_builtin (v := .builtin "len") O D2 (by kernel_rfl) (by kernel_rfl) ?_
    refine PyProof.Rows.callWith_builtin1 ?_
    refine args_cons ?_
    refine r_listComp (cl := [("one", C + 1)]) (by rfl) (by rfl) (by decide) ?_
    refine r_cell D2 9 rfl ?_
    refine q_iterSt D2 (List.mem_of_mem_drop (i := 7) (.head _)) fun it2 h3' D3 => ?_
    refine r_compD (pf := fun _ (_ : Unit) => []) (τ₀ := ()) (n := ns.length) (fun s : List Value => s)
      (fun j _ => (C, nsP m') :: (it2, liP nA j) :: (C + 1, ceP (some (.str x u))) :: (a, lsP s) :: (L, nsP m) :: (it, liP nA (i + 1)) :: (L + 1, ceP (some (.ref tA))) :: (tA, stP ts) :: (nA, stP ns) :: (L + 1 + 1 + 1, ceP none) :: (L + 1 + 1, ceP (some (.ref nA))) :: X)
      (fun _ => (C, nsP m') :: (C + 1, ceP (some (.str x u))) :: (a, lsP s) :: (L, nsP m) :: (it, liP nA (i + 1)) :: (L + 1, ceP (some (.ref tA))) :: (tA, stP ts) :: (nA, stP ns) :: (L + 1 + 1 + 1, ceP none) :: (L + 1 + 1, ceP (some (.ref nA))) :: X)
      (fun j s => j ≤ ns.length ∧ s.length = (ns.take j).countP fun y => decide (SL y x)) (fun _ j _ m2 _ => ∃ y v, ns[j]? = some y ∧ m2 ("two" : Str) = some (.str y v)) [] (fun C => by rfl) D3 rfl ⟨Nat.zero_le _, rfl⟩ ?dlen ?dself ?ditem ?dstop ?dturn ?dfin
    case dlen =>
      rintro j s ⟨h1, h2⟩
      have h4 := List.countP_le_length (p := fun y => decide (SL y x)) (l := ns.take j)
      rw [List.length_take] at h4
      show s.length ≤ 90000
      omega
    case dself =>
      intro led' h t E Q D q
      obtain ⟨o, ho, hc, hd⟩ := D.get (a := it2) (P := liP nA 0) (List.mem_append_right _ (.tail _ (.head _)))
      exact wpAny_pyIter_listiter (l := nA) (i := 0) ⟨o, ho, hc, hd⟩ q
    case ditem =>
      intro C2 a2 j s2 m2 τ h t E Q N hj hJ2 D q
      refine nz_draw (nz_st it2 nA ns).toNy D 3 rfl (List.mem_of_mem_drop (i := 9) (.head _)) hj fun v h' t' hv D' => ?_
      obtain ⟨y, v, hy, rfl⟩ := hv
      exact r_store D' fun h2 D2 => q _ () _ _ ⟨y, v, hy, rfl⟩ D2
    case dstop =>
      intro C2 a2 s2 m2 τ h t E Q N hJ2 D q
      exact nz_end (nz_st it2 nA ns).toNy R.hd D 3 rfl (List.mem_of_mem_drop (i := 9) (.head _)) fun h' D' => q _ _ D'
    case dturn =>
      rintro C2 a2 j s2 m2 τ h4 t4 E4 hj ⟨_, hJ2⟩ ⟨y, v, hy, hmy⟩ D4
      have hyn : y ∈ ns := List.mem_of_getElem? hy
      have htk : ns.take (j + 1) = ns.take j ++ [y] := by rw [List.take_add_one, hy]; rfl
      refine wpAny_tests_one ?_
      refine wpAny_isTrue_Compare1 ?_
      refine Call_ ?_
      refine r_global (v := .ref 160) O D4 (by kernel_rfl) ?_
      refine q_call1 O (by kernel_rfl) ?_
      refine args_cons ?_
      refine r_local D4 hmy ?_
      refine args_cons ?_
      refine r_cell D4 4 rfl ?_
      refine args_nil ?_
      refine ⟨⟨_, D4⟩, ?_⟩
      refine sign_ O D4 R.less (hz3 y hyn) (hz3 x hxn) fun h5 t5 n5 D5 => ?_
      refine q_int ?_
      refine lt_int ?_
      refine wpAny_truthy_bool ?_
      rw [sg_neg]
      by_cases hb : SL y x
      · rw [decide_eq_true hb, if_pos rfl]
        refine q_int ⟨s2 ++ [_], h5, _, m2, (), rfl, ⟨by omega, ?_⟩, rfl, D5⟩
        rw [htk, List.countP_append, List.length_append, hJ2, List.countP_singleton, decide_eq_true hb]; rfl
      · rw [decide_eq_false hb, if_neg (by decide)]
        refine ⟨s2, h5, _, m2, (), rfl, ⟨by omega, ?_⟩, rfl, D5⟩
        rw [htk, List.countP_append, hJ2, List.countP_singleton, decide_eq_false hb]; rfl
    case dfin =>
      rintro C2 a2 s2 m2 h4 t4 ⟨_, hJ2⟩ D4
      refine post_value D4 fun h5 D5 => ?_
      rw [List.take_length] at hJ2
      have h6 := List.countP_le_length (p := fun y => decide (SL y x)) (l := ns)
      refine args_nil ?_
      refine q_lenL D5 (vs := s2) (.head _) (by omega) ?_
      refine ⟨s ++ [_], h5, _, m', _, rfl, ⟨by omega, ?_⟩, rfl, D5.tail⟩
      have htk : ns.take (i + 1) = ns.take i ++ [x] := by rw [List.take_add_one, hx]; rfl
      rw [htk, List.map_append]
      have : (s2.length : Int) = (rankOf ns x : Int) := by rw [hJ2]; rfl
      rw [this]
      exact ints_snoc hJ _ _
  case cfin =>
    rintro C a s m' h2 t2 ⟨_, hJ⟩ D2
    refine post_value D2 fun h3 D3 => ?_
    rw [List.take_length] at hJ
    have D4 : Led h₀ h3 ((L, nsP m) :: (a, inP (rks ns)) :: (L + 1, ceP (some (.ref tA))) :: (tA, stP ts) :: (nA, stP ns) :: (L + 1 + 1 + 1, ceP none) :: (L + 1 + 1, ceP (some (.ref nA))) :: X) :=
      (D3.reI (P' := inP (rks ns)) 0 rfl fun o _ e => ⟨_, e, hJ⟩).swap
    refine r_storeC D4 5 rfl fun h4 D5 => ?_
    refine q a h4 _ ?_
    exact D5.perm (.cons _ (rot2 _ _ _ _ |>.trans (.cons _ (.cons _ (List.Perm.swap ..)))))
end
end Mine
end

section
open PySem PySem.W PyProof.Rows PySem.Calls
namespace Mine
section
variable {w : World} {h₀ : Heap} {A : Around} {E : Value → Shared → Prop} {h h' : Heap} {g : Array GenState} {d : Drawn} {t : Nat} {os : OsState} {led rest own : List (Addr × OP)} {env : Env} {outer : List Env} {gs : GenState}

theorem r_gmIm {l : Addr} {ns : List Int} {name : Str} {id : String} {pl : Sem Bool} {Q : Value × List Value → Shared → Prop} (D : Led h₀ h led) (hi : (l, inP ns) ∈ led)
    (slot : Slot "list" name id) (hty : typeOf (.builtin id) = pure (.type "method_descriptor")) (q : Q (.builtin id, [.ref l]) ⟨h, g, d, t, os⟩) : wpAny (model PR w) A (getMethod (.ref l) name pl) Q E ⟨h, g, d, t, os⟩ := by
  obtain ⟨o, ho, vs, ⟨n, rfl⟩, _⟩ := D.get hi
  exact getMethod_builtin ⟨_, ho, rfl⟩ F.plainAttrs_list slot hty (fun a e => ⟨_, by cases e; exact ho, rfl⟩) q
theorem rks_has {ns srt : List Str} (hp : srt.Perm ns) (hs : srt.Pairwise SL) {k : Nat} (hk : k < ns.length) : (k : Int) ∈ rks ns := by
  obtain ⟨i, hi, e⟩ := rank_has hp hs hk
  exact List.mem_map.mpr ⟨ns[i], List.getElem_mem _, by rw [e]⟩
theorem rks_get (ns : List Str) (i : Nat) (h : i < (rks ns).length) (h' : i < ns.length) : (rks ns)[i] = (rankOf ns ns[i] : Int) := by simp [rks]
theorem rks_at {ns srt : List Str} (hp : srt.Perm ns) (hs : srt.Pairwise SL) {k : Nat} (hk : k < srt.length) (hi : (rks ns).idxOf (k : Int) < ns.length) : ns[(rks ns).idxOf (k : Int)] = srt[k] := by
  refine row_at hp hs hk hi ?_
  have h2 : (rks ns).idxOf (k : Int) < (rks ns).length := by unfold rks at hi ⊢; rw [List.length_map]; exact hi
  have h1 := List.getElem_idxOf h2
  rw [rks_get _ _ h2 hi] at h1
  omega

set_option maxHeartbeats 8000000 in
/-- the row -/
theorem segG {L tA nA rA : Addr} {c : Value} {ts ns srt : List Str} {m : Str → Option Value} {X : List (Addr × OP)} {Q : Flow → Shared → Prop}
    (O : Ok w h₀) (R : Rm 18 A) (hz : ns.length ≤ 8) (hp : srt.Perm ns) (hs : srt.Pairwise SL)
    (D : Led h₀ h ((L, nsP m) :: (L + 1, ceP (some (.ref tA))) :: (tA, stP ts) :: (nA, stP ns) :: (rA, inP (rks ns)) :: (L + 1 + 1 + 1, ceP (some (.ref rA))) :: (L + 1 + 1, ceP (some (.ref nA))) :: X))
    (q : ∀ wA h' tk, Led h₀ h' ((L, nsP (fun z => if z = ("row" : Str) then some (.ref wA) else m z)) :: (wA, stP srt) :: (L + 1, ceP (some (.ref tA))) :: (tA, stP ts) :: (nA, stP ns) :: (L + 1 + 1, ceP (some (.ref nA))) :: X) → wpAny (model PR w) A (execs (lawAt 11) (lawEnv c L)) Q E ⟨h', g, d, tk, os⟩) :
    wpAny (model PR w) A (execs (lawAt 10) (lawEnv c L)) Q E ⟨h, g, d, t, os⟩ := by
  rw [law_cons 10 (by rw [law_len]; decide)]
  have hpl := hp.length_eq
  refine wpAny_execs_cons ?_
  refine r_assignComp (cl := [("ranks", L + 1 + 1 + 1), ("names", L + 1 + 1)]) (by rfl) (by rfl) (by rfl) (by decide) ?_
  refine Call_ ?_
  refine r_builtin (v := .type "range") O D (by kernel_rfl) (by kernel_rfl) ?_
  refine PyProof.Rows.callWith_type1 ?_
  refine args_cons ?_
  refine Call_ ?_
  refine r_builtin (v := .builtin "len") O D (by kernel_rfl) (by kernel_rfl) ?_
  refine PyProof.Rows.callWith_builtin1 ?_
  refine args_cons ?_
  refine r_cell D 6 rfl ?_
  refine args_nil ?_
  refine q_lenS D (xs := ns) (List.mem_of_mem_drop (i := 3) (.head _)) (by omega) ?_
  refine args_nil ?_
  refine q_range D fun r h1 t1 D1 => ?_
  refine q_iterRange D1 1 rfl (by omega) fun it h2 D2 => ?_
  refine r_compD (pf := fun _ (_ : Unit) => []) (τ₀ := ()) (n := ns.length) (fun s : List Value => s)
    (fun i _ => (L, nsP m) :: (it, riP ns.length i) :: (r, rgP ns.length) :: (L + 1, ceP (some (.ref tA))) :: (tA, stP ts) :: (nA, stP ns) :: (rA, inP (rks ns)) :: (L + 1 + 1 + 1, ceP (some (.ref rA))) :: (L + 1 + 1, ceP (some (.ref nA))) :: X)
    (fun _ => (L, nsP m) :: (r, rgP ns.length) :: (L + 1, ceP (some (.ref tA))) :: (tA, stP ts) :: (nA, stP ns) :: (rA, inP (rks ns)) :: (L + 1 + 1 + 1, ceP (some (.ref rA))) :: (L + 1 + 1, ceP (some (.ref nA))) :: X)
    (fun i s => i ≤ ns.length ∧ TX s (srt.take i)) (fun _ i _ m2 _ => ∃ u, m2 ("rank" : Str) = some (.int i u)) [] (fun C => by rfl) D2 rfl ⟨Nat.zero_le _, rfl⟩ ?clen ?cself ?citem ?cstop ?cturn ?cfin
  case clen =>
    rintro i s ⟨h1, h2⟩
    have h2 := h2.len
    rw [List.length_take] at h2
    show s.length ≤ 90000
    omega
  case cself =>
    intro led' h t E Q D q
    obtain ⟨o, ho, rfl⟩ := D.get (a := it) (P := riP ns.length 0) (List.mem_append_right _ (.tail _ (.head _)))
    exact wpAny_pyIter_rangeiter ho q
  case citem =>
    intro C a i s m' τ h t E Q N hi hJ D q
    refine nz_draw (nz_range it r ns.length).toNy D 3 rfl (List.mem_of_mem_drop (i := 3) (.head _)) hi fun v h' t' hv D' => ?_
    obtain ⟨u, rfl⟩ := hv
    exact r_store D' fun h2 D2 => q _ () _ _ ⟨u, rfl⟩ D2
  case cstop =>
    intro C a s m' τ h t E Q N hJ D q
    exact nz_end (nz_range it r ns.length).toNy R.hd D 3 rfl (List.mem_of_mem_drop (i := 3) (.head _)) fun h' D' => q _ _ D'
  case cturn =>
    rintro C a i s m' τ h2 t2 E2 hi ⟨_, hJ⟩ ⟨u, hmi⟩ D2
    have hin := rks_has hp hs hi
    have hrl : (rks ns).length = ns.length := by unfold rks; rw [List.length_map]
    have hix : (rks ns).idxOf (i : Int) < ns.length := by rw [← hrl]; exact List.idxOf_lt_length_iff.mpr hin
    have hsi : i < srt.length := by omega
    have hat := rks_at hp hs hsi hix
    refine wpAny_tests_nil ?_
    rw [if_pos rfl]
    refine Subscript_ ?_
    refine r_cell D2 10 rfl ?_
    refine MethodCall_ ?_
    refine r_cell D2 9 rfl ?_
    refine r_gmIm D2 (List.mem_of_mem_drop (i := 8) (.head _)) PySem.F.slot_list_index PySem.F.type_list_index ?_
    refine callWith_method1 ?_
    refine args_cons ?_
    refine r_local D2 hmi ?_
    refine args_nil ?_
    refine q_indexI D2 (ns := rks ns) (List.mem_of_mem_drop (i := 8) (.head _)) hin (by omega) ?_
    refine q_itemT D2 (xs := ns) (List.mem_of_mem_drop (i := 7) (.head _)) hix (by omega) fun v => ?_
    refine ⟨s ++ [_], h2, _, m', (), rfl, ⟨by omega, ?_⟩, rfl, D2⟩
    rw [hat, show srt.take (i + 1) = srt.take i ++ [srt[i]] by rw [List.take_add_one]; simp [hsi]]
    exact hJ.snoc _ _
  case cfin =>
    rintro C a s m' h2 t2 ⟨_, hJ⟩ D2
    rw [← hpl, List.take_length] at hJ
    refine post_assign (env := lawEnv c L) D2 fun h3 t3 D3 => ?_
    have D4 := D3.reI (P' := stP srt) 1 rfl fun o _ e => ⟨_, e, hJ⟩
    refine q a h3 t3 ?_
    exact Led.sub D4 (.cons_cons _ (.cons_cons _ (.cons _ (.cons_cons _ (.cons_cons _ (.cons_cons _ (.cons _ (.cons _ (List.Sublist.refl _)))))))))
end
end Mine
end

section
open PySem PySem.W PyProof.Rows PySem.Calls
namespace Mine
section
variable {w : World} {h₀ : Heap} {A : Around} {E : Value → Shared → Prop} {h h' : Heap} {g : Array GenState} {d : Drawn} {t : Nat} {os : OsState} {led rest own : List (Addr × OP)} {env : Env} {outer : List Env} {gs : GenState}
  {elt t1 i1 t2 i2 : Expr} {f2 : List Expr} {scope : Scope} {pos : Pos} {it acc : Value} {R : Result → Shared → Prop} {s : Shared}

/-- [elt for t1 in i1 for t2 in i2 if f2]: the turns -/
theorem turn_in : compTurn (.ListComp elt [⟨t1, i1, [], 0⟩, ⟨t2, i2, f2, 0⟩] scope pos) 1 it acc env = (do
      standAt i2.pos
      match ← pyNext it with
      | none => pure (.done .next)
      | some v =>
        letOwnedTupleGo t2 it v
        assign t2 env v
        let mut ok := true
        for c in f2 do
          if ok then ok ← isTrue c env (eval c env)
        if ok then
          (do let _ ← call (.builtin "list.append") [acc, ← eval elt env])
        again (.compLoop (.ListComp elt [⟨t1, i1, [], 0⟩, ⟨t2, i2, f2, 0⟩] scope pos) 1 it acc env)) := by rfl
theorem turn_out : compTurn (.ListComp elt [⟨t1, i1, [], 0⟩, ⟨t2, i2, f2, 0⟩] scope pos) 0 it acc env = (do
      standAt i1.pos
      match ← pyNext it with
      | none => pure (.done .next)
      | some v =>
        letOwnedTupleGo t1 it v
        assign t1 env v
        let x ← eval i2 env
        standAt i2.pos
        let x ← foldedSetIterable i2 env x
        let it2 ← holding [x] (pyIter x)
        let _ ← runOwn (.compStart (.ListComp elt [⟨t1, i1, [], 0⟩, ⟨t2, i2, f2, 0⟩] scope pos) 1 it2 acc env) env
        again (.compLoop (.ListComp elt [⟨t1, i1, [], 0⟩, ⟨t2, i2, f2, 0⟩] scope pos) 0 it acc env)) := by rfl

theorem loop_in (I : Nat → Shared → Prop)
    (turn : ∀ n s, I n s → draw w A t2 it env (fun _ s₂ =>
          wpAny (model PR w) A (forIn f2 true fun c r => if r = true then do let ok ← isTrue c env (eval c env); pure (ForInStep.yield ok) else pure (ForInStep.yield r)) (fun ok s₃ =>
            if ok = true then wpAny (model PR w) A (eval elt env) (fun x s₄ =>
              wpAny (model PR w) A (call (.builtin "list.append") [acc, x]) (fun _ s₅ => ∃ m, m < n ∧ I m s₅) (notedBy (model PR w) A env fun e s' => R (.error e) s') s₄) (notedBy (model PR w) A env fun e s' => R (.error e) s') s₃
            else ∃ m, m < n ∧ I m s₃) (notedBy (model PR w) A env fun e s' => R (.error e) s') s₂) (fun s₁ => R (.ok .next) s₁) (notedBy (model PR w) A env fun e s' => R (.error e) s') s)
    (n : Nat) (h : I n s) :
    codeAny (model PR w) A (.compLoop (.ListComp elt [⟨t1, i1, [], 0⟩, ⟨t2, i2, f2, 0⟩] scope pos) 1 it acc env) R s := by
  refine codeAny_loop rfl I (fun n s hI => ?_) n h
  show wpAny _ A ((compTurn (.ListComp elt [⟨t1, i1, [], 0⟩, ⟨t2, i2, f2, 0⟩] scope pos) 1 it acc env).onRaise (fun x => do noteFrame x env; theTreesLotGoes x)) _ _ s
  refine wpAny_noted ?_
  rw [turn_in]
  refine wpAny_bind (wpAny_standAt (wpAny_bind (wpAny_mono (turn n s hI) (fun r s₁ h₁ => ?_) fun _ _ h' => h')))
  cases r with
  | none => exact wpAny_pure h₁
  | some v =>
    refine wpAny_bind (wpAny_mono h₁ (fun _ s₁' h₁' => ?_) fun _ _ h' => h')
    refine wpAny_bind (wpAny_mono h₁' (fun _ s₂ h₂ => wpAny_bind (wpAny_mono h₂ (fun ok s₃ h₃ => ?_) fun _ _ h' => h')) fun _ _ h' => h')
    cases ok with
    | false => exact wpAny_pure ⟨rfl, h₃⟩
    | true =>
      exact wpAny_bind (wpAny_bind (wpAny_mono h₃ (fun x s₄ h₄ => wpAny_bind (wpAny_mono h₄ (fun _ s₅ h₅ => wpAny_pure (wpAny_pure ⟨rfl, h₅⟩)) fun _ _ h' => h')) fun _ _ h' => h'))

theorem start_in (h0 : codeAny (model PR w) A (.compLoop (.ListComp elt [⟨t1, i1, [], 0⟩, ⟨t2, i2, f2, 0⟩] scope pos) 1 it acc env) R s)
    (h : wpAny (model PR w) A (pyIter it) (fun it' s' => codeAny (model PR w) A (.compLoop (.ListComp elt [⟨t1, i1, [], 0⟩, ⟨t2, i2, f2, 0⟩] scope pos) 1 it' acc env) R s')
      (notedBy (model PR w) A env fun x s' => R (.error x) s') s) :
    codeAny (model PR w) A (.compStart (.ListComp elt [⟨t1, i1, [], 0⟩, ⟨t2, i2, f2, 0⟩] scope pos) 1 it acc env) R s := by
  refine codeAny_of_tree ?_
  show wpAny _ _ ((compStart (.ListComp elt [⟨t1, i1, [], 0⟩, ⟨t2, i2, f2, 0⟩] scope pos) 1 it acc env).onRaise (fun x => do noteFrame x env; standAt theWindowsPlace)) _ _ s
  refine wpAny_notedAt ?_
  unfold compStart
  show wpAny _ _ (ask >>= _) _ _ s
  refine wpAny_bind (wpAny_askSetting (wpAny_ite ?_))
  split
  · first
      | exact wpAny_bind (wpAny_pure (wpAny_pure (And.intro rfl h0)))
      | exact wpAny_pure (And.intro rfl h0)
  · first
      | exact wpAny_bind (wpAny_rule (wpAny_bind (wpAny_standAt (wpAny_bind (wpAny_mono h (fun it' s' h' => wpAny_pure (And.intro rfl h')) fun _ _ x => x)))))
      | (refine wpAny_bind (wpAny_rule ?_); show wpAny _ _ (standAt i2.pos >>= _) _ _ s; exact wpAny_bind (wpAny_standAt (wpAny_bind (wpAny_mono h (fun it' s' h' => wpAny_pure (And.intro rfl h')) fun _ _ x => x))))

theorem loop_out (I : Nat → Shared → Prop)
    (turn : ∀ n s, I n s → draw w A t1 it env (fun _ s₂ => wpAny (model PR w) A (eval i2 env) (fun x s₃ => wpAny (model PR w) A (pyIter x) (fun it2 s₄ =>
          codeAny (model PR w) A (.compStart (.ListComp elt [⟨t1, i1, [], 0⟩, ⟨t2, i2, f2, 0⟩] scope pos) 1 it2 acc env) (fun r s' => match r with
            | .ok _ => ∃ m, m < n ∧ I m s'
            | .error e => cameBackBy (model PR w) A env (notedBy (model PR w) A env fun e s' => R (.error e) s') e s') s₄) (notedBy (model PR w) A env fun e s' => R (.error e) s') s₃) (notedBy (model PR w) A env fun e s' => R (.error e) s') s₂)
          (fun s₁ => R (.ok .next) s₁) (notedBy (model PR w) A env fun e s' => R (.error e) s') s)
    (n : Nat) (h : I n s) (hs : ∀ x, foldedSetIterable i2 env x = pure x) :
    codeAny (model PR w) A (.compLoop (.ListComp elt [⟨t1, i1, [], 0⟩, ⟨t2, i2, f2, 0⟩] scope pos) 0 it acc env) R s := by
  refine codeAny_loop rfl I (fun n s hI => ?_) n h
  show wpAny _ A ((compTurn (.ListComp elt [⟨t1, i1, [], 0⟩, ⟨t2, i2, f2, 0⟩] scope pos) 0 it acc env).onRaise (fun x => do noteFrame x env; theTreesLotGoes x)) _ _ s
  refine wpAny_noted ?_
  rw [turn_out]
  refine wpAny_bind (wpAny_standAt (wpAny_bind (wpAny_mono (turn n s hI) (fun r s₁ h₁ => ?_) fun _ _ h' => h')))
  cases r with
  | none => exact wpAny_pure h₁
  | some v =>
    refine wpAny_bind (wpAny_mono h₁ (fun _ s₁' h₁' => ?_) fun _ _ h' => h')
    refine wpAny_bind (wpAny_mono h₁' (fun _ s₂ h₂ => wpAny_bind (wpAny_mono h₂ (fun x s₃ h₃ => ?_) fun _ _ h' => h')) fun _ _ h' => h')
    refine wpAny_bind (wpAny_standAt (wpAny_bind (wpAny_of_eq (hs x) (wpAny_bind (wpAny_holding (wpAny_mono h₃ (fun it2 s₄ h₄ => ?_) fun _ _ h' => h'))))))
    exact wpAny_bind (wpAny_runOwn (codeAny_mono h₄ fun r s' h5 => by
      cases r with
      | ok f => exact wpAny_pure ⟨rfl, h5⟩
      | error e => exact h5))
end
end Mine
end

section
open PySem PySem.W PyProof.Rows PySem.Calls
namespace Mine
section
variable {nds nds' : List Nd} {ns : List Str} {es : List (Str × Str)} {b : Nat} {x y : Str}
theorem Gr.names (G : Gr nds ns es b) : nds.map (·.name) = ns := by
  rw [← absN_names, G.g, stG_names]
theorem Gr.suc (G : Gr nds ns es b) {nd : Nd} (h : nd ∈ nds) : nd.suc = (es.filter fun p => p.1 = nd.name).map (·.2) := by
  have h1 : absN nd ∈ stG ns es (inE es) := by rw [← G.g]; exact List.mem_map.mpr ⟨nd, h, rfl⟩
  obtain ⟨z, _, e⟩ := List.mem_map.mp h1
  have e1 : z = nd.name := congrArg Prod.fst e
  have e2 : (es.filter fun p => p.1 = z).map (·.2) = nd.suc := congrArg (fun q : GN => q.2.2) e
  rw [← e2, e1]
theorem Gr.sucIn (G : Gr nds ns es b) {nd : Nd} (h : nd ∈ nds) {s : Str} (hs : s ∈ nd.suc) : (nd.name, s) ∈ es := by
  rw [G.suc h] at hs
  obtain ⟨e, he, rfl⟩ := List.mem_map.mp hs
  obtain ⟨he, hq⟩ := List.mem_filter.mp he
  have : e.1 = nd.name := by simpa using hq
  rw [← this]; exact he
theorem Gr.sucLen (G : Gr nds ns es b) {nd : Nd} (h : nd ∈ nds) : nd.suc.length ≤ b := by
  rw [G.suc h, List.length_map]
  exact Nat.le_trans (List.length_filter_le _ _) G.len
theorem Gr.sucNm (G : Gr nds ns es b) {nd : Nd} (h : nd ∈ nds) {s : Str} (hs : s ∈ nd.suc) : s ∈ nds.map (·.name) := by
  rw [G.names]; exact (G.mem _ (G.sucIn h hs)).2
theorem Gr.sucLt (G : Gr nds ns es b) {nd : Nd} (h : nd ∈ nds) {s : Str} (hs : s ∈ nd.suc) : SL nd.name s := G.up _ (G.sucIn h hs)
theorem ready_st (ns : List Str) (es : List (Str × Str)) (f : Str → Int) : ready0 (stG ns es f) = ns.filter fun x => decide (f x = 0) := by
  unfold ready0 stG
  rw [List.filter_map, List.map_map]
  exact List.map_id'' (fun _ => rfl) _
theorem inE_cnt (hm : ∀ e ∈ es, e.1 ∈ ns ∧ e.2 ∈ ns) (x : Str) : inE es x = (cntFrom es ns x : Nat) := by
  have h : es.countP (fun p => decide (p.2 = x)) = es.countP fun p => decide (p.1 ∈ ns) && decide (p.2 = x) := List.countP_congr fun e he => by simp [(hm e he).1]
  unfold inE cntFrom
  rw [h]
theorem Gr.run (G : Gr nds ns es b) (hn : ns.Nodup) (hz : ns.length ≤ 1000) {gs : List (List Str)} (hr : Rnd es ns gs) : ∃ gs', Run (nds.map absN) (ready0 (nds.map absN)) gs' ∧ GPm gs' gs := by
  rw [G.g]
  refine run_of_rnd (fun e he => (G.mem e he).2) G.up hr (inE es) _ hn hz (fun _ h => h) (fun e he _ => (G.mem e he).2) (fun x _ => inE_cnt G.mem x) ?_
  rw [ready_st]
  refine perm_eq (List.filter_congr fun x hx => ?_)
  rw [Bool.eq_iff_iff, decide_eq_true_iff, inE_cnt G.mem x]
  have h1 : later es ns x = true ↔ 0 < cntFrom es ns x := later_iff.trans cntFrom_pos.symm
  rw [Bool.not_eq_true', ← Bool.not_eq_true, h1]
  omega
end
/-- the full sorter's order -/
theorem Gr.full {nds : List Nd} {ns : List Str} {es : List (Str × Str)} {b : Nat} (G : Gr nds ns es b) (hn : ns.Nodup) (hz : ns.length ≤ 1000) (all : ∀ x ∈ ns, ∀ y ∈ ns, SL x y → (x, y) ∈ es) :
    ∃ gs' srt, Run (nds.map absN) (ready0 (nds.map absN)) gs' ∧ gs'.flatten = srt ∧ srt.Perm ns ∧ srt.Pairwise SL := by
  obtain ⟨gs, hr, _⟩ := rnd_exists G.up ns.length ns (Nat.le_refl _)
  obtain ⟨gs', h1, h2⟩ := G.run hn hz hr
  obtain ⟨a, b, c⟩ := rnd_full G.up all hr hn fun _ h => h
  exact ⟨gs', gs.flatten, h1, pm_flat h2 a, b, c⟩
end Mine
end

section
open PySem PySem.W PyProof.Rows PySem.Calls
namespace Mine
/-- the steps and one sorter -/
noncomputable def lp2 (w : World) (stA : Addr) (ps : List Pr) (S : So) (rest : List (Addr × OP)) : List (Addr × OP) := (stA, lsP (ps.map prV)) :: (ps.map prO ++ (soLed w S ++ rest))
section
variable {w : World} {h₀ : Heap} {A : Around} {E : Value → Shared → Prop} {h h' : Heap} {g : Array GenState} {d : Drawn} {t : Nat} {os : OsState} {led rest own : List (Addr × OP)} {env : Env} {outer : List Env} {gs : GenState}

set_option maxHeartbeats 8000000 in
/-- list(full.static_order()) is the row -/
theorem segH {L wA stA : Addr} {c : Value} {ps : List Pr} {SF SP : So} {nF nP : List Nd} {ns srt : List Str} {es : List (Str × Str)} {gs : List (List Str)} {m : Str → Option Value} {F : List (Addr × OP)} {Q : Flow → Shared → Prop}
    (O : Ok w h₀) (R : Rm 18 A) (hfr : A.frames = some [lawEnv c L]) (hrF : SF.rd = none) (hnp : SF.np = SF.nf) (hm1 : m ("full" : Str) = some (.ref SF.a)) (hm2 : m ("row" : Str) = some (.ref wA))
    (G : Gr nF ns es 72) (hz : ns.length ≤ 8) (run : Run (nF.map absN) (ready0 (nF.map absN)) gs) (hgs : gs.flatten = srt) (hsl : srt.length ≤ 8)
    (D : Led h₀ h ((L, nsP m) :: (wA, stP srt) :: F ++ lpLed w stA ps SF SP nF nP rest))
    (q : ∀ h' tk, Led h₀ h' ((L, nsP m) :: (wA, stP srt) :: F ++ lp2 w stA ps { SP with nds := nP } rest) → wpAny (model PR w) A (execs (lawAt 12) (lawEnv c L)) Q E ⟨h', g.push .finished, d, tk, os⟩) :
    wpAny (model PR w) A (execs (lawAt 11) (lawEnv c L)) Q E ⟨h, g, d, t, os⟩ := by
  rw [law_cons 11 (by rw [law_len]; decide)]
  have hGz := G.size
  refine wpAny_execs_cons ?_
  refine wpAny_If ?_
  refine wpAny_isTrue_Compare1 ?_
  refine Call_ ?_
  refine r_builtin (v := .type "list") O D (by kernel_rfl) (by kernel_rfl) ?_
  refine PyProof.Rows.callWith_type1 ?_
  refine args_cons ?_
  refine MethodCall_ ?_
  refine r_local D hm1 ?_
  refine gm (S := { SF with nds := nF }) O D.toF rfl (f := 141) (by kernel_rfl) (by kernel_rfl) (by kernel_rfl) (by rfl) ?_
  refine q_call0 O D (by kernel_rfl) ?_
  refine static_order_ (S := { SF with nds := nF }) (B := 72) (lt := SL) O R.less hrF hnp (by show nF.length ≤ 900; omega) (fun nd hnd => G.sucLen hnd) (by decide) (fun nd hnd s hs => G.sucNm hnd hs) (fun nd hnd s hs => G.sucLt hnd hs) (fun a b c => SL.tr) SL.irr run D.toF fun I cc own h1 t1 hG D1 => ?_
  refine args_nil ?_
  have hFr : Frs [lawEnv c L] (((L, nsP m) :: (wA, stP srt) :: F ++ (stA, lsP (ps.map prV)) :: ps.map prO) ++ (soLed w { SP with nds := nP } ++ rest)) := by
    refine Frs.cons (m := m) (L := L) (fun e he => by cases he) (by show lawSc.kind ≠ .module; decide) rfl (.head _)
  rw [hgs] at hG
  refine q_listGen O R.less hfr hFr (by omega) hG D1 fun S h2 t2 D2 => ?_
  have D3 : Led h₀ h2 ((L, nsP m) :: (S, stP srt) :: (((wA, stP srt) :: F ++ (stA, lsP (ps.map prV)) :: ps.map prO) ++ (soLed w { SP with nds := nP } ++ rest))) := D2.swap
  refine r_local D3 hm2 ?_
  refine q_neT D3 (xs := srt) (ys := srt) (.tail _ (.head _)) (.tail _ (.tail _ (.head _))) R.units ?_
  refine wpAny_truthy_bool ?_
  rw [show (!decide (srt = srt)) = false by simp]
  refine wpAny_execs_nil ?_
  show wpAny (model PR w) A (execs (lawAt 12) (lawEnv c L)) Q E _
  refine q h2 _ ?_
  have D4 := Led.sub D3 (.cons_cons _ (.cons _ (List.Sublist.refl _)))
  unfold lp2
  exact D4.perm (perm_eq (by simp))
end
end Mine
end

section
open PySem PySem.W PyProof.Rows PySem.Calls
namespace Mine
section
variable {w : World} {h₀ : Heap} {A : Around} {E : Value → Shared → Prop} {h h' : Heap} {g : Array GenState} {d : Drawn} {t : Nat} {os : OsState} {led rest own : List (Addr × OP)} {env : Env} {outer : List Env} {gs : GenState}

theorem CallK_ {func : Expr} {args : List Expr} {kws : List Keyword} {pos : Pos} {s : Shared} {Q : Value → Shared → Prop}
    (h : wpAny (model PR w) A (eval func env) (fun f s₁ => wpAny (model PR w) A (callWith pos f [] (backTo pos (starEach args env)) (backToKw pos (keywordEach kws env))) Q E s₁) E s)
    (he : eval (.Call func args kws pos) env = (do callWith pos (← eval func env) [] (backTo pos (starEach args env)) (backToKw pos (keywordEach kws env))) := by rfl) :
    wpAny (model PR w) A (eval (.Call func args kws pos) env) Q E s := by
  rw [he]; exact wpAny_bind h

theorem start0 {elt target iter : Expr} {ifs : List Expr} {more : List Comprehension} {scope : Scope} {pos : Pos} {it acc : Value} {R : Result → Shared → Prop} {s : Shared} (hi : ∀ (Q : Value → Shared → Prop) E, Q it s → wpAny (model PR w) A (pyIter it) Q E s)
    (h0 : codeAny (model PR w) A (.compLoop (.ListComp elt (⟨target, iter, ifs, 0⟩ :: more) scope pos) 0 it acc env) R s) : codeAny (model PR w) A (.compStart (.ListComp elt (⟨target, iter, ifs, 0⟩ :: more) scope pos) 0 it acc env) R s :=
  codeAny_compStart_list h0 (hi _ _ h0)
theorem start1 {elt t1 i1 t2 i2 : Expr} {f2 : List Expr} {scope : Scope} {pos : Pos} {it acc : Value} {R : Result → Shared → Prop} {s : Shared} (hi : ∀ (Q : Value → Shared → Prop) E, Q it s → wpAny (model PR w) A (pyIter it) Q E s)
    (h0 : codeAny (model PR w) A (.compLoop (.ListComp elt [⟨t1, i1, [], 0⟩, ⟨t2, i2, f2, 0⟩] scope pos) 1 it acc env) R s) : codeAny (model PR w) A (.compStart (.ListComp elt [⟨t1, i1, [], 0⟩, ⟨t2, i2, f2, 0⟩] scope pos) 1 it acc env) R s :=
  start_in h0 (hi _ _ h0)
theorem iter_self {it T : Addr} {Q : Value → Shared → Prop} (D : Led h₀ h led) (hm : (it, liP T 0) ∈ led) (q : Q (.ref it) ⟨h, g, d, t, os⟩) : wpAny (model PR w) A (pyIter (.ref it)) Q E ⟨h, g, d, t, os⟩ := by
  obtain ⟨o, ho, hc, hd⟩ := D.get hm
  exact wpAny_pyIter_listiter (l := T) (i := 0) ⟨o, ho, hc, hd⟩ q
noncomputable def flat (ts srt : List Str) : List Str := srt.flatMap fun n => ts.filter fun x => x = n
theorem flat_snoc (ts srt : List Str) (n : Str) : flat ts (srt ++ [n]) = flat ts srt ++ ts.filter fun x => x = n := by
  unfold flat; rw [List.flatMap_append]; simp
theorem flat_len (ts srt : List Str) : (flat ts srt).length ≤ srt.length * ts.length := by
  unfold flat
  induction srt with
  | nil => simp
  | cons a r ih =>
    rw [List.flatMap_cons, List.length_append, List.length_cons, Nat.add_mul]
    have := List.length_filter_le (fun x => decide (x = a)) ts
    omega

set_option maxHeartbeats 8000000 in
/-- sorted(texts, key=_strxfrm) is the row with its doubles -/
theorem segI {L wA tA : Addr} {c : Value} {ts srt : List Str} {m : Str → Option Value} {X : List (Addr × OP)} {Q : Flow → Shared → Prop}
    (O : Ok w h₀) (R : Rm 18 A) (hm2 : m ("row" : Str) = some (.ref wA)) (hts : ts.length = 8) (hsl : srt.length ≤ 8) (hs : srt.Pairwise SL) (hin : ∀ x ∈ ts, x ∈ srt)
    (D : Led h₀ h ((L, nsP m) :: (wA, stP srt) :: (L + 1, ceP (some (.ref tA))) :: (tA, stP ts) :: X))
    (q : ∀ h' tk, Led h₀ h' ((L, nsP m) :: X) → wpAny (model PR w) A (execs (lawAt 13) (lawEnv c L)) Q E ⟨h', g, d, tk, os⟩) :
    wpAny (model PR w) A (execs (lawAt 12) (lawEnv c L)) Q E ⟨h, g, d, t, os⟩ := by
  rw [law_cons 12 (by rw [law_len]; decide)]
  refine wpAny_execs_cons ?_
  refine wpAny_If ?_
  refine wpAny_isTrue_Compare1 ?_
  refine CallK_ ?_
  refine r_builtin (v := .builtin "sorted") O D (by kernel_rfl) (by kernel_rfl) ?_
  refine callWith_kw ?_
  refine args_cons ?_
  refine r_cell D 2 rfl ?_
  refine args_nil ?_
  refine kws_cons ?_
  refine r_global (v := .ref 28) O D (by kernel_rfl) ?_
  refine kws_nil ?_
  refine q_sortedKey O R.less D (xs := ts) (.tail _ (.tail _ (.tail _ (.head _)))) (by omega) (by omega) fun S ys h1 t1 hp hpw D1 => ?_
  have D2 : Led h₀ h1 ((L, nsP m) :: (S, stP ys) :: (wA, stP srt) :: (L + 1, ceP (some (.ref tA))) :: (tA, stP ts) :: X) := D1.swap
  refine r_listComp (cl := [("texts", L + 1)]) (by rfl) (by rfl) (by decide) ?_
  refine r_local D2 hm2 ?_
  refine q_iterSt D2 (xs := srt) (.tail _ (.tail _ (.head _))) fun it h3 D3 => ?_
  refine r_compBlockG D3 fun C a h4 D4 => ?_
  have D5 : Led h₀ h4 ((C, nsP (fun _ => none)) :: (a, lsP []) :: (L, nsP m) :: (it, liP wA 0) :: (S, stP ys) :: (wA, stP srt) :: (L + 1, ceP (some (.ref tA))) :: (tA, stP ts) :: X) := D4
  refine start0 (fun Q E hq => iter_self D5 (.tail _ (.tail _ (.tail _ (.head _)))) hq) ?_
  refine loop_out (fun k s => ∃ i st m' h' t', k + i = srt.length ∧ s = ⟨h', g, d, t', os⟩ ∧ TX st (flat ts (srt.take i)) ∧ Led h₀ h' ((C, nsP m') :: (a, lsP st) :: (L, nsP m) :: (it, liP wA i) :: (S, stP ys) :: (wA, stP srt) :: (L + 1, ceP (some (.ref tA))) :: (tA, stP ts) :: X)) ?_ srt.length ⟨0, [], _, h4, t1, rfl, rfl, rfl, D5⟩ (by intro _; rfl)
  rintro k s ⟨i, st, m', h6, t6, e, rfl, hst, D6⟩
  cases k with
  | zero =>
    have e' : i = srt.length := by omega
    subst e'
    refine nz_end (nz_st it wA srt).toNy R.hd D6 3 rfl (.tail _ (.tail _ (.tail _ (.tail _ (.head _))))) fun h7 D7 => ?_
    rw [List.take_length] at hst
    refine post_value D7 fun h8 D8 => ?_
    have D9 : Led h₀ h8 ((L, nsP m) :: (a, stP (flat ts srt)) :: (S, stP ys) :: (wA, stP srt) :: (L + 1, ceP (some (.ref tA))) :: (tA, stP ts) :: X) :=
      (D8.reI (P' := stP (flat ts srt)) 0 rfl fun o _ e => ⟨_, e, hst⟩).swap
    have hyf : ys = flat ts srt := sorted_row hs hin hp hpw
    refine q_neT D9 (xs := ys) (ys := flat ts srt) (.tail _ (.tail _ (.head _))) (.tail _ (.head _)) R.units (wpAny_truthy_bool ?_)
    rw [show (!decide (ys = flat ts srt)) = false by simp [hyf]]
    refine wpAny_execs_nil ?_
    show wpAny (model PR w) A (execs (lawAt 13) (lawEnv c L)) Q E _
    exact q h8 _ (Led.sub D9 (.cons_cons _ (.cons _ (.cons _ (.cons _ (.cons _ (.cons _ (List.Sublist.refl _))))))))
  | succ k =>
    have hi : i < srt.length := by omega
    refine hideD fun K0 N0 E0 hK0 hN0 => ?_
    refine nz_draw (nz_st it wA srt).toNy D6 3 rfl (.tail _ (.tail _ (.tail _ (.tail _ (.head _))))) hi fun v h7 t7 hv D7 => ?_
    obtain ⟨nm, u, hnm, rfl⟩ := hv
    refine r_store D7 fun h8 D8 => hK0 _ _ ?_
    have hnm' : srt[i]? = some nm := hnm
    have hfs : flat ts (srt.take (i + 1)) = flat ts (srt.take i) ++ ts.filter fun x => x = nm := by
      rw [List.take_add_one, hnm']; exact flat_snoc _ _ _
    refine hide fun K1 E1 hK1 => ?_
    refine r_cell D8 6 rfl ?_
    refine hK1 _ _ ?_
    refine hide fun K2 E2 hK2 => ?_
    refine q_iterSt D8 (xs := ts) (.tail _ (.tail _ (.tail _ (.tail _ (.tail _ (.tail _ (.tail _ (.head _)))))))) fun it2 h9 D9 => hK2 _ _ ?_
    refine hideC fun K3 hK3 => ?_
    refine start1 (fun Q E hq => iter_self D9 (.tail _ (.head _)) hq) ?_
    obtain ⟨m9, hm9, D10⟩ : ∃ m9, m9 ("name" : Str) = some (.str nm u) ∧ Led h₀ h9 ((C, nsP m9) :: (it2, liP tA 0) :: (a, lsP st) :: (L, nsP m) :: (it, liP wA (i + 1)) :: (S, stP ys) :: (wA, stP srt) :: (L + 1, ceP (some (.ref tA))) :: (tA, stP ts) :: X) := by
      have D9' := D9
      exact ⟨_, (by rfl), D9'⟩
    refine loop_in (fun k2 s => ∃ j st' m' h' t', k2 + j = 8 ∧ s = ⟨h', g, d, t', os⟩ ∧ m' ("name" : Str) = some (.str nm u) ∧ TX st' (flat ts (srt.take i) ++ (ts.take j).filter fun x => x = nm) ∧ Led h₀ h' ((C, nsP m') :: (it2, liP tA j) :: (a, lsP st') :: (L, nsP m) :: (it, liP wA (i + 1)) :: (S, stP ys) :: (wA, stP srt) :: (L + 1, ceP (some (.ref tA))) :: (tA, stP ts) :: X)) ?_ 8 ⟨0, st, m9, h9, _, rfl, rfl, hm9, by rw [List.take_zero, List.filter_nil, List.append_nil]; exact hst, D10⟩
    rintro k2 s ⟨j, st', m', h11, t11, e2, rfl, hm', hst', D11⟩
    cases k2 with
    | zero =>
      have e' : j = ts.length := by omega
      subst e'
      refine nz_end (nz_st it2 tA ts).toNy R.hd D11 1 rfl (.tail _ (.tail _ (.tail _ (.tail _ (.tail _ (.tail _ (.tail _ (.head _)))))))) fun h12 D12 => ?_
      refine hK3 _ _ ⟨k, by omega, i + 1, st', m', h12, _, by omega, rfl, ?_, D12⟩
      rw [hfs]
      rw [List.take_length] at hst'
      exact hst'
    | succ k2 =>
      have hj : j < ts.length := by omega
      refine hideD fun K4 N4 E4 hK4 hN4 => ?_
      refine nz_draw (nz_st it2 tA ts).toNy D11 1 rfl (.tail _ (.tail _ (.tail _ (.tail _ (.tail _ (.tail _ (.tail _ (.head _)))))))) hj fun v h12 t12 hv D12 => ?_
      obtain ⟨on, u2, hon, rfl⟩ := hv
      refine r_store D12 fun h13 D13 => hK4 _ _ ?_
      refine hide fun K5 E5 hK5 => ?_
      have htk : ts.take (j + 1) = ts.take j ++ [on] := by rw [List.take_add_one, hon]; rfl
      obtain ⟨m13, hm13, hm13', D14⟩ : ∃ m13, m13 ("name" : Str) = some (.str nm u) ∧ m13 ("one" : Str) = some (.str on u2) ∧ Led h₀ h13 ((C, nsP m13) :: (it2, liP tA (j + 1)) :: (a, lsP st') :: (L, nsP m) :: (it, liP wA (i + 1)) :: (S, stP ys) :: (wA, stP srt) :: (L + 1, ceP (some (.ref tA))) :: (tA, stP ts) :: X) := by
        have D13' := D13
        exact ⟨_, (by exact hm'), (by rfl), D13'⟩
      refine wpAny_tests_one ?_
      refine wpAny_isTrue_Compare1 ?_
      refine r_local D14 hm13' ?_
      refine r_local D14 hm13 ?_
      refine q_eqS ?_
      refine wpAny_truthy_bool ?_
      have hlen : st'.length ≤ 1000 := by
        have h1 := hst'.len
        have h2 := flat_len ts (srt.take i)
        have h3 := List.length_filter_le (fun x => decide (x = nm)) (ts.take j)
        rw [List.length_take] at h2 h3
        rw [List.length_append] at h1
        have h4 : min i srt.length * ts.length ≤ 8 * 8 := Nat.mul_le_mul (by omega) (by omega)
        omega
      by_cases hb : on = nm
      · refine hK5 _ _ ?_
        rw [decide_eq_true hb, if_pos rfl]
        refine r_local D14 hm13' ?_
        refine r_append D14 2 rfl (by omega) fun h15 D15 => ?_
        refine ⟨k2, by omega, j + 1, st' ++ [_], m13, h15, _, by omega, rfl, hm13, ?_, D15⟩
        rw [htk, List.filter_append, ← List.append_assoc, show [on].filter (fun x => decide (x = nm)) = [on] by simp [hb]]
        exact hst'.snoc _ _
      · refine hK5 _ _ ?_
        rw [decide_eq_false hb, if_neg (by decide)]
        refine ⟨k2, by omega, j + 1, st', m13, h13, _, by omega, rfl, hm13, ?_, D14⟩
        rw [htk, List.filter_append, show [on].filter (fun x => decide (x = nm)) = [] by simp [hb], List.append_nil]
        exact hst'
end
end Mine
end

section
open PySem PySem.W PyProof.Rows PySem.Calls
namespace Mine
theorem GPm.at {a b : List (List Str)} (h : GPm a b) : ∀ (i : Nat) (ha : i < a.length) (hb : i < b.length), (a[i]).Perm b[i] := by
  induction h with
  | nil => intro i ha; simp at ha
  | cons p _ ih =>
    intro i ha hb
    cases i with
    | zero => exact p
    | succ i => exact ih i (by simpa using ha) (by simpa using hb)
theorem Rnd.le {es : List (Str × Str)} {left : List Str} {gs : List (List Str)} (h : Rnd es left gs) : ∀ g ∈ gs, g.length ≤ left.length := by
  induction h with
  | stop => intro g hg; cases hg
  | @step left gs _ _ ih =>
    intro g hg
    rcases List.mem_cons.mp hg with rfl | hg
    · exact List.length_filter_le _ _
    · exact Nat.le_trans (ih g hg) (List.length_filter_le _ _)

noncomputable def lawRd (k : Nat) : List Stmt := (forBody (lawS 14)).drop k
/-- what the rounds carry along -/
structure Ro where
  m : Str → Option Value
  nds : List Nd
  rd : List Str
  np : Int
  u1 : Tok
  u2 : Tok
noncomputable def Ro.so (s : Ro) (SP : So) (a : Addr) : So := ⟨SP.a, SP.d, SP.n2i, some (a, s.rd), s.np, s.u1, s.np, s.u2, s.nds⟩

section
variable {w : World} {h₀ : Heap} {A : Around} {E : Value → Shared → Prop} {h h' : Heap} {g : Array GenState} {d : Drawn} {t : Nat} {os : OsState} {led rest own : List (Addr × OP)} {env : Env} {outer : List Env} {gs : GenState}

set_option maxHeartbeats 8000000 in
/-- one round -/
theorem turnR {L Rl it a : Addr} {c : Value} {ds : List (Addr × List Str)} {i B : Nat} {SP : So} {s : Ro} {nP : List Nd} {gr : List (List Str)} {due : List Str} {dA : Addr} {Q : Flow → Shared → Prop}
    (O : Ok w h₀) (R : Rm 16 A) (hd : (dA, due) ∈ ds) (hm1 : s.m ("part" : Str) = some (.ref SP.a)) (hm2 : s.m ("due" : Str) = some (.ref dA)) (hsk : s.nds.map nsk = nP.map nsk)
    (hB : ∀ nd ∈ nP, nd.suc.length ≤ B) (hBz : B ≤ 80) (hs : ∀ nd ∈ nP, ∀ s ∈ nd.suc, s ∈ nP.map (·.name)) (hrd : s.rd ≠ [] → s.rd.length ≤ 20)
    (hrun : Run (s.nds.map absN) s.rd (s.rd :: gr)) (hpm : s.rd.Perm due) (hsd : due.Pairwise fun a b => ¬ SL b a)
    (D : Led h₀ h ((L, nsP s.m) :: (it, liP Rl i) :: (Rl, lsP (ds.map fun p : Addr × List Str => .ref p.1)) :: (ds.map duO ++ (soLed w (s.so SP a) ++ rest))))
    (q : ∀ (s' : Ro) h' tk, s'.m ("part" : Str) = some (.ref SP.a) → s'.nds.map nsk = nP.map nsk → Run (s'.nds.map absN) s'.rd gr → Led h₀ h' ((L, nsP s'.m) :: (it, liP Rl i) :: (Rl, lsP (ds.map fun p : Addr × List Str => .ref p.1)) :: (ds.map duO ++ (soLed w (s'.so SP a) ++ rest))) → Q .next ⟨h', g, d, tk, os⟩) :
    wpAny (model PR w) A (execs (lawRd 0) (lawEnv c L)) Q E ⟨h, g, d, t, os⟩ := by
  obtain ⟨m, nds, rd, np, u1, u2⟩ := s
  dsimp only at hm1 hm2 hsk hrd hrun hpm
  cases hrun with
  | @step _ _ _ h1 h2 h3 h4 h5 =>
  have hnm : ∀ x ∈ rd, x ∈ nds.map (·.name) := by rw [← absN_names]; exact h3
  have DF : Led h₀ h (((L, nsP m) :: (it, liP Rl i) :: (Rl, lsP (ds.map fun p : Addr × List Str => .ref p.1)) :: ds.map duO) ++ (soLed w ⟨SP.a, SP.d, SP.n2i, some (a, rd), np, u1, np, u2, nds⟩ ++ rest)) := D
  refine wpAny_execs_cons ?_
  refine wpAny_Assign_Name ?_
  refine MethodCall_ ?_
  refine r_local DF hm1 ?_
  refine gm (S := ⟨SP.a, SP.d, SP.n2i, some (a, rd), np, u1, np, u2, nds⟩) O DF rfl (f := 106) (by kernel_rfl) (by kernel_rfl) (by kernel_rfl) (by rfl) ?_
  refine q_call0 O DF (by kernel_rfl) ?_
  refine get_ready_ (S := ⟨SP.a, SP.d, SP.n2i, some (a, rd), np, u1, np, u2, nds⟩) (xs := rd) O R.less rfl h2 hnm DF fun T vs nds' u h6 t6 tx e6 D6 => ?_
  refine r_store D6 fun h7 D7 => ?_
  have hl := tx.len
  have hrl := hrd h1
  have hns : nds'.map nsk = nP.map nsk := by rw [nsk_abs, e6, outG_ns, ← nsk_abs]; exact hsk
  show wpAny (model PR w) A (execs (lawRd 1) (lawEnv c L)) Q E _
  obtain ⟨m7, hm7, hm7d, hm7g, D8⟩ : ∃ m7, m7 ("part" : Str) = some (.ref SP.a) ∧ m7 ("due" : Str) = some (.ref dA) ∧ m7 ("group" : Str) = some (.ref T) ∧ Led h₀ h7 ((L, nsP m7) :: (it, liP Rl i) :: (Rl, lsP (ds.map fun p : Addr × List Str => .ref p.1)) :: (ds.map duO ++ ((T, tpP vs) :: (soLed w ⟨SP.a, SP.d, SP.n2i, some (a, []), np + rd.length, u, np, u2, nds'⟩ ++ rest)))) := by
    have D7' := D7
    exact ⟨_, (by exact hm1), (by exact hm2), (by rfl), D7'⟩
  obtain ⟨oT, hoT, nT, rfl⟩ := D8.get (a := T) (P := tpP vs) (.tail _ (.tail _ (.tail _ (List.mem_append_right _ (.head _)))))
  refine wpAny_execs_cons ?_
  refine wpAny_If ?_
  refine wpAny_isTrue_Compare1 ?_
  refine Call_ ?_
  refine r_builtin (v := .builtin "sorted") O D8 (by kernel_rfl) (by kernel_rfl) ?_
  refine PyProof.Rows.callWith_builtin1 ?_
  refine args_cons ?_
  refine r_local D8 hm7g ?_
  refine args_nil ?_
  refine q_sorted (T := "tuple") (vs := vs) D8 hoT (.inr rfl) rfl rfl tx (by omega) fun S2 ys h9 hpy hsy D9 => ?_
  have D10 := D9.swap
  have hyd : ys = due := eq_of_pw (hpy.trans hpm) hsy hsd
  refine r_local D10 hm7d ?_
  refine q_neT D10 (xs := ys) (ys := due) (.tail _ (.head _)) (.tail _ (.tail _ (.tail _ (.tail _ (List.mem_append_left _ (List.mem_map.mpr ⟨_, hd, rfl⟩)))))) R.units ?_
  refine wpAny_truthy_bool ?_
  rw [show (!decide (ys = due)) = false by simp [hyd]]
  refine wpAny_execs_nil ?_
  show wpAny (model PR w) A (execs (lawRd 2) (lawEnv c L)) Q E _
  have D11 : Led h₀ h9 (((L, nsP m7) :: (it, liP Rl i) :: (Rl, lsP (ds.map fun p : Addr × List Str => .ref p.1)) :: (ds.map duO ++ [(T, tpP vs)])) ++ (soLed w ⟨SP.a, SP.d, SP.n2i, some (a, []), np + rd.length, u, np, u2, nds'⟩ ++ rest)) :=
    (Led.sub D10 (.cons_cons _ (.cons _ (List.Sublist.refl _)))).perm (perm_eq (by simp))
  have hB' : ∀ nd ∈ nds', nd.suc.length ≤ B := fun nd hnd => by
    obtain ⟨nd', h1, _, h2⟩ := nsk_mem hns hnd; rw [← h2]; exact hB _ h1
  have hs' : ∀ nd ∈ nds', ∀ s ∈ nd.suc, s ∈ nds'.map (·.name) := fun nd hnd s hs1 => by
    obtain ⟨nd', h1, _, h2⟩ := nsk_mem hns hnd
    rw [nsk_names hns]; exact hs _ h1 s (by rw [h2]; exact hs1)
  have hx' : ∀ x ∈ rd, x ∈ nds'.map (·.name) := by
    rw [nsk_names hns, ← nsk_names hsk]; exact hnm
  refine wpAny_execs_cons ?_
  refine wpAny_Expr ?_
  refine doneStar (S := ⟨SP.a, SP.d, SP.n2i, some (a, []), np + rd.length, u, np, u2, nds'⟩) (F := (L, nsP m7) :: (it, liP Rl i) :: (Rl, lsP (ds.map fun p : Addr × List Str => .ref p.1)) :: (ds.map duO ++ [(T, tpP vs)])) (T := T) (ys := []) (xs := rd) (vs := vs) (B := B) O R.less rfl tx h2 hB'
    (by have := Nat.mul_le_mul hBz h2; simp only [List.length_nil]; omega) hs' hx' (by intro i hi; show cntOf (doneG (rd.take i) (nds'.map absN, [])).1 rd[i] = -1; rw [e6]; exact h4 i hi) D11 (.tail _ (.tail _ (.tail _ (List.mem_append_right _ (.head _))))) (fun Q' hq => r_local D11 hm7 hq) (fun Q' h' t' _ hD hq => ?_) ?_
  · obtain ⟨bm, D⟩ := hD
    exact r_local D.swap hm7g hq
  · intro nds2 ys2 u3 h12 t12 e9 e10 D12
    have e9' : (nds2.map absN, ys2) = doneG rd (nds'.map absN, []) := e9
    rw [e6] at e9'
    have e9'' : (nds2.map absN, ys2) = doneG rd (outG rd (nds.map absN), []) := e9'
    refine wpAny_execs_nil ?_
    refine q ⟨m7, nds2, ys2, np + rd.length, u, u3⟩ h12 _ hm7 ((nsk_skel e10).trans hns) ?_ ?_
    · show Run (nds2.map absN) ys2 gr
      have q1 : nds2.map absN = (doneG rd (outG rd (nds.map absN), [])).1 := congrArg Prod.fst e9''
      have q2 : ys2 = (doneG rd (outG rd (nds.map absN), [])).2 := congrArg Prod.snd e9''
      rw [q1, q2]; exact h5
    · refine Led.sub D12 ?_
      show List.Sublist _ ((L, nsP m7) :: (it, liP Rl i) :: (Rl, lsP (ds.map fun p : Addr × List Str => .ref p.1)) :: ((ds.map duO ++ [(T, tpP vs)]) ++ (soLed w ⟨SP.a, SP.d, SP.n2i, some (a, ys2), np + rd.length, u, np + rd.length, u3, nds2⟩ ++ rest)))
      exact .cons_cons _ (.cons_cons _ (.cons_cons _ ((List.sublist_append_left _ _).append (List.Sublist.refl _))))
end
end Mine
end

section
open PySem PySem.W PyProof.Rows PySem.Calls
namespace Mine
section
variable {w : World} {h₀ : Heap} {A : Around} {E : Value → Shared → Prop} {h h' : Heap} {g : Array GenState} {d : Drawn} {t : Nat} {os : OsState} {led rest own : List (Addr × OP)} {env : Env} {outer : List Env} {gs : GenState}

theorem run_nil {G : List GN} {rd : List Str} (h : Run G rd []) : rd = [] := by cases h; rfl
theorem run_head {G : List GN} {rd x : List Str} {gr : List (List Str)} (h : Run G rd (x :: gr)) : rd = x := by cases h; rfl

set_option maxHeartbeats 8000000 in
/-- nothing is left: the last line -/
theorem segL {L a : Addr} {c : Value} {SP : So} {s : Ro} {Q : Flow → Shared → Prop}
    (O : Ok w h₀) (R : Rm 16 A) (hm1 : s.m ("part" : Str) = some (.ref SP.a)) (hrd : s.rd = [])
    (D : Led h₀ h ((L, nsP s.m) :: (soLed w (s.so SP a) ++ rest)))
    (q : ∀ h' tk, Led h₀ h' [] → Q (.ret (.bool true)) ⟨h', g, d, tk, os⟩) :
    wpAny (model PR w) A (execs (lawAt 15) (lawEnv c L)) Q E ⟨h, g, d, t, os⟩ := by
  obtain ⟨m, nds, rd, np, u1, u2⟩ := s
  obtain rfl : rd = [] := hrd
  rw [law_cons 15 (by rw [law_len]; decide)]
  have DF : Led h₀ h ([(L, nsP m)] ++ (soLed w ⟨SP.a, SP.d, SP.n2i, some (a, []), np, u1, np, u2, nds⟩ ++ rest)) := D
  refine wpAny_execs_cons ?_
  refine wpAny_Return_some ?_
  refine wpAny_And2 ?_
  refine wpAny_Compare1 ?_
  refine MethodCall_ ?_
  refine r_local D hm1 ?_
  refine gm (S := ⟨SP.a, SP.d, SP.n2i, some (a, []), np, u1, np, u2, nds⟩) O DF rfl (f := 106) (by kernel_rfl) (by kernel_rfl) (by kernel_rfl) (by rfl) ?_
  refine q_call0 O DF (by kernel_rfl) ?_
  refine get_ready_ (S := ⟨SP.a, SP.d, SP.n2i, some (a, []), np, u1, np, u2, nds⟩) (xs := []) O R.less rfl (by simp) (by intro x hx; cases hx) DF fun T vs nds' u h6 t6 tx e6 D6 => ?_
  have hl := tx.len
  have hv : vs = [] := List.eq_nil_of_length_eq_zero hl
  subst hv
  have D7 : Led h₀ h6 ((L, nsP m) :: (T, tpP []) :: (soLed w ⟨SP.a, SP.d, SP.n2i, some (a, []), np + (([] : List Str).length : Int), u, np, u2, nds'⟩ ++ rest)) := D6
  refine Tuple_ ?_
  refine args_nil ?_
  refine q_newTuple D7 (by simp) fun T2 h8 D8 => ?_
  obtain ⟨o1, ho1, n1, rfl⟩ := D8.at 1 rfl
  obtain ⟨o2, ho2, n2, rfl⟩ := D8.at 2 rfl
  refine PySem.SeqAt.eq_tupleAt (e := fun _ => true) (items := #[]) (items2 := #[]) ⟨_, ho2, rfl, n2, rfl⟩ ⟨_, ho1, rfl, n1, rfl⟩ R.units (fun j h1 _ => absurd h1 (Nat.not_lt_zero _)) ?_
  refine wpAny_truthy_bool ?_
  have D9 : Led h₀ h8 ([(L, nsP m), (T2, tpP []), (T, tpP [])] ++ (soLed w ⟨SP.a, SP.d, SP.n2i, some (a, []), np + (([] : List Str).length : Int), u, np, u2, nds'⟩ ++ rest)) := D8
  show wpAny (model PR w) A (eval _ _) _ _ _
  refine UnaryOp_ ?_
  refine MethodCall_ ?_
  refine r_local D8 hm1 ?_
  refine gm (S := ⟨SP.a, SP.d, SP.n2i, some (a, []), np + (([] : List Str).length : Int), u, np, u2, nds'⟩) O D9 rfl (f := 113) (by kernel_rfl) (by kernel_rfl) (by kernel_rfl) (by rfl) ?_
  refine q_call0 O D9 (by kernel_rfl) ?_
  refine is_active_ (S := ⟨SP.a, SP.d, SP.n2i, some (a, []), np + (([] : List Str).length : Int), u, np, u2, nds'⟩) (xs := []) O R.less rfl (by simp) D9 fun h10 t10 D10 => ?_
  refine not_of ?_
  refine wpAny_truthy_bool ?_
  rw [show (decide (np < np + (([] : List Str).length : Int)) || !([] : List Str).isEmpty) = false by simp]
  exact q h10 _ (D10.sub (List.nil_sublist _))

set_option maxHeartbeats 8000000 in
/-- the rounds -/
theorem segK {L stA nA a : Addr} {c : Value} {ps : List Pr} {SP : So} {s : Ro} {nP : List Nd} {ns : List Str} {B : Nat} {gs gs' : List (List Str)} {Q : Flow → Shared → Prop}
    (O : Ok w h₀) (R : Rm 17 A) (hm1 : s.m ("part" : Str) = some (.ref SP.a)) (hm2 : s.m ("steps" : Str) = some (.ref stA)) (hz : ns.length ≤ 8) (hpz : ps.length ≤ 1000) (hr : Rnd (prE ps) ns gs) (hgl : gs.length ≤ 8) (hpm : GPm gs' gs)
    (hB : ∀ nd ∈ nP, nd.suc.length ≤ B) (hBz : B ≤ 80) (hs : ∀ nd ∈ nP, ∀ s ∈ nd.suc, s ∈ nP.map (·.name)) (hsk : s.nds.map nsk = nP.map nsk) (hrun : Run (s.nds.map absN) s.rd gs')
    (D : Led h₀ h ((L, nsP s.m) :: (nA, stP ns) :: (L + 1 + 1, ceP (some (.ref nA))) :: lp2 w stA ps (s.so SP a) rest))
    (q : ∀ h' tk, Led h₀ h' [] → Q (.ret (.bool true)) ⟨h', g, d, tk, os⟩) :
    wpAny (model PR w) A (execs (lawAt 14) (lawEnv c L)) Q E ⟨h, g, d, t, os⟩ := by
  rw [law_cons 14 (by rw [law_len]; decide)]
  refine wpAny_execs_cons ?_
  refine wpAny_For ?_
  refine Call_ ?_
  refine r_global (v := .ref 179) O D (by kernel_rfl) ?_
  refine q_call1 O (by kernel_rfl) ?_
  refine args_cons ?_
  refine r_cell D 2 rfl ?_
  refine args_cons ?_
  refine r_local D hm2 ?_
  refine args_nil ?_
  refine ⟨⟨_, D⟩, ?_⟩
  refine rounds_ O R.less D (ns := ns) (ps := ps) (gs := gs) (.tail _ (.head _)) (.tail _ (.tail _ (.tail _ (.head _)))) (fun p hp => .tail _ (.tail _ (.tail _ (.tail _ (List.mem_append_left _ (List.mem_map.mpr ⟨p, hp, rfl⟩)))))) hr (by omega) (by omega) hpz fun Rl ds h1 t1 hpd hsd D1 => ?_
  have hdl : ds.length = gs.length := by have := pm_len hpd; rwa [List.length_map] at this
  have hgl' : gs'.length = gs.length := pm_len hpm
  have D2 : Led h₀ h1 ((L, nsP s.m) :: (Rl, lsP (ds.map fun p : Addr × List Str => .ref p.1)) :: (ds.map duO ++ (soLed w (s.so SP a) ++ rest))) := by
    unfold lp2 at D1
    have D1' := D1.sub (l' := (Rl, lsP (ds.map fun p : Addr × List Str => .ref p.1)) :: (ds.map duO ++ ((L, nsP s.m) :: (soLed w (s.so SP a) ++ rest)))) (.cons_cons _ ((List.Sublist.refl _).append (.cons_cons _ (.cons _ (.cons _ (.cons _ (List.sublist_append_right _ _)))))))
    exact D1'.perm (List.perm_middle (l₁ := (Rl, lsP (ds.map fun p : Addr × List Str => .ref p.1)) :: ds.map duO))
  refine q_iterLst D2 1 rfl fun it h3 D3 => ?_
  refine r_forD (n := ds.length) (fun s : Ro => s.m)
    (fun i s => (it, liP Rl i) :: (Rl, lsP (ds.map fun p : Addr × List Str => .ref p.1)) :: (ds.map duO ++ (soLed w (s.so SP a) ++ rest)))
    (fun s => (Rl, lsP (ds.map fun p : Addr × List Str => .ref p.1)) :: (ds.map duO ++ (soLed w (s.so SP a) ++ rest)))
    (fun i s => s.m ("part" : Str) = some (.ref SP.a) ∧ s.nds.map nsk = nP.map nsk ∧ Run (s.nds.map absN) s.rd (gs'.drop i))
    (fun i s m' => ∃ (hi : i < ds.length), m' = fun y => if y = ("due" : Str) then some (.ref ds[i].1) else s.m y) s D3 ⟨hm1, hsk, hrun⟩ ?item ?stop ?turn ?fin
  case item =>
    intro i s h t E Q N hi hJ D q
    refine nz_draw (n := (ds.map fun p : Addr × List Str => Value.ref p.1).length) (nz_ls it Rl _).toNy D 1 rfl (.tail _ (.head _)) (by rw [List.length_map]; exact hi) fun v h' t' hv D' => ?_
    obtain rfl : v = .ref ds[i].1 := by
      have : (ds.map fun p : Addr × List Str => Value.ref p.1)[i]? = some (.ref ds[i].1) := by simp [hi]
      rw [this] at hv; exact (Option.some.inj hv).symm
    exact r_store D' fun h2 D2 => q _ _ _ ⟨hi, rfl⟩ D2
  case stop =>
    intro s h t E Q N hJ D q
    refine nz_end (n := (ds.map fun p : Addr × List Str => Value.ref p.1).length) (nz_ls it Rl _).toNy R.hd D 1 (by rw [List.length_map]; rfl) (.tail _ (.head _)) fun h' D' => q _ _ D'
  case turn =>
    rintro i s m' h t E hi ⟨j1, j2, j3⟩ ⟨_, rfl⟩ D
    have hig : i < gs.length := by omega
    have hig' : i < gs'.length := by omega
    rw [List.drop_eq_getElem_cons hig'] at j3
    have hrd := run_head j3
    have hp1 : (gs'[i]).Perm gs[i] := hpm.at i hig' hig
    have hp2 : ds[i].2.Perm gs[i] := by
      have := hpd.at i (by rw [List.length_map]; exact hi) hig
      rwa [List.getElem_map] at this
    have hgz : (gs[i]).length ≤ ns.length := hr.le _ (List.getElem_mem hig)
    show wpAny (model PR w) A (execs (lawRd 0) (lawEnv c L)) _ E _
    refine turnR (s := ⟨fun y => if y = ("due" : Str) then some (.ref ds[i].1) else s.m y, s.nds, s.rd, s.np, s.u1, s.u2⟩) (dA := ds[i].1) (due := ds[i].2) (gr := gs'.drop (i + 1)) (B := B) (nP := nP) (SP := SP) (a := a) (i := i + 1) O R.less (List.getElem_mem hi) j1 rfl j2 hB hBz hs (fun _ => ?_) ?_ ?_ (hsd _ (List.getElem_mem hi)) D fun s' h' tk k1 k2 k3 D' => ?_
    · show s.rd.length ≤ 20
      have := hp1.length_eq
      rw [hrd]; omega
    · show Run (s.nds.map absN) s.rd (s.rd :: gs'.drop (i + 1))
      rw [hrd]; rw [hrd] at j3; exact j3
    · show s.rd.Perm ds[i].2
      rw [hrd]; exact hp1.trans hp2.symm
    · exact ⟨s', h', tk, rfl, ⟨k1, k2, k3⟩, D'⟩
  case fin =>
    rintro s h t ⟨j1, j2, j3⟩ D
    rw [List.drop_eq_nil_of_le (by omega)] at j3
    show wpAny (model PR w) A (execs (lawAt 15) (lawEnv c L)) Q E _
    exact segL (s := s) (SP := SP) (a := a) (rest := rest) O R.less j1 (run_nil j3) (D.sub (.cons_cons _ (.cons _ (List.sublist_append_right _ _)))) q

set_option maxHeartbeats 8000000 in
/-- part.prepare() and the rounds -/
theorem segJ {L stA nA : Addr} {c : Value} {ps : List Pr} {SP : So} {nP : List Nd} {ns : List Str} {B : Nat} {m : Str → Option Value} {Q : Flow → Shared → Prop}
    (O : Ok w h₀) (R : Rm 18 A) (hfr : A.frames = some [lawEnv c L]) (hrP : SP.rd = none) (hnp : SP.np = 0) (hnf : SP.nf = 0) (hm1 : m ("part" : Str) = some (.ref SP.a)) (hm2 : m ("steps" : Str) = some (.ref stA)) (hn : ns.Nodup) (hz : ns.length ≤ 8) (hpz : ps.length ≤ 1000)
    (G : Gr nP ns (prE ps) B) (hBz : B ≤ 80)
    (D : Led h₀ h ((L, nsP m) :: (nA, stP ns) :: (L + 1 + 1, ceP (some (.ref nA))) :: lp2 w stA ps { SP with nds := nP } rest))
    (q : ∀ h' tk, Led h₀ h' [] → Q (.ret (.bool true)) ⟨h', g, d, tk, os⟩) :
    wpAny (model PR w) A (execs (lawAt 13) (lawEnv c L)) Q E ⟨h, g, d, t, os⟩ := by
  rw [law_cons 13 (by rw [law_len]; decide)]
  obtain ⟨gs, hr, hgl⟩ := rnd_exists G.up ns.length ns (Nat.le_refl _)
  obtain ⟨gs', hrun, hpm⟩ := G.run hn (by omega) hr
  have hGz := G.size
  have DF : Led h₀ h (((L, nsP m) :: (nA, stP ns) :: (L + 1 + 1, ceP (some (.ref nA))) :: (stA, lsP (ps.map prV)) :: ps.map prO) ++ (soLed w { SP with nds := nP } ++ rest)) := D
  have hFr : Frs [lawEnv c L] (((L, nsP m) :: (nA, stP ns) :: (L + 1 + 1, ceP (some (.ref nA))) :: (stA, lsP (ps.map prV)) :: ps.map prO) ++ rest) := by
    refine Frs.cons (m := m) (L := L) (fun e he => by cases he) (by show lawSc.kind ≠ .module; decide) rfl (.head _)
  refine wpAny_execs_cons ?_
  refine wpAny_Expr ?_
  refine MethodCall_ ?_
  refine r_local DF hm1 ?_
  refine gm (S := { SP with nds := nP }) O DF rfl (f := 99) (by kernel_rfl) (by kernel_rfl) (by kernel_rfl) (by rfl) ?_
  refine q_call0 O DF (by kernel_rfl) ?_
  refine prepare_ (S := { SP with nds := nP }) (B := B) (lt := SL) O R.less hfr hFr hrP (by show nP.length ≤ 900; omega) (fun nd hnd => G.sucLen hnd) (fun nd hnd s hs => G.sucNm hnd hs) (fun nd hnd s hs => G.sucLt hnd hs) (fun a b c => SL.tr) SL.irr DF fun a h1 t1 D1 => ?_
  show wpAny (model PR w) A (execs (lawAt 14) (lawEnv c L)) Q E _
  refine segK (s := ⟨m, nP, ready0 (nP.map absN), 0, SP.npT, SP.nfT⟩) (SP := SP) (a := a) (ps := ps) (gs := gs) (gs' := gs') (nP := nP) (ns := ns) (B := B) (nA := nA) (stA := stA) (rest := rest) O R.less hm1 hm2 hz hpz hr (by omega) hpm (fun nd hnd => G.sucLen hnd) hBz (fun nd hnd s hs => G.sucNm hnd hs) rfl hrun ?_ q
  have D1' : Led h₀ h1 ((L, nsP m) :: (nA, stP ns) :: (L + 1 + 1, ceP (some (.ref nA))) :: (stA, lsP (ps.map prV)) :: (ps.map prO ++ (soLed w ⟨SP.a, SP.d, SP.n2i, some (a, ready0 (nP.map absN)), SP.np, SP.npT, SP.nf, SP.nfT, nP⟩ ++ rest))) := D1
  rw [hnp, hnf] at D1'
  exact D1'
end
end Mine
end

section
open PySem PySem.W PyProof.Rows PySem.Calls
namespace Mine
section
variable {w : World} {h₀ : Heap} {A : Around} {E : Value → Shared → Prop} {h h' : Heap} {g : Array GenState} {d : Drawn} {t : Nat} {os : OsState} {led rest own : List (Addr × OP)} {env : Env} {outer : List Env} {gs : GenState}

set_option maxHeartbeats 8000000 in
/-- the body of law -/
theorem body_ {b : List Stmt} (hb : b = lawAt 0) {L l : Addr} {c : Value} {vs : List Value} {xs : List Int} {m : Str → Option Value} {Q : Flow → Shared → Prop} (O : Ok w h₀) (R : Rm 20 A) (hfr : A.frames = some [lawEnv c L]) (hl : h₀.IsList l vs.toArray) (hi : IntsAre vs xs) (hz : xs.length ≤ 63)
    (hm : m ("script" : Str) = some (.ref l)) (D : Led h₀ h ((L, nsP m) :: (L + 1 + 1 + 1, ceP none) :: (L + 1 + 1, ceP none) :: (L + 1, ceP none) :: led))
    (q : ∀ h' tk, Led h₀ h' [] → Q (.ret (.bool true)) ⟨h', g.push .finished, d, tk, os⟩) :
    wpAny (model PR w) A (execs b (lawEnv c L)) Q E ⟨h, g, d, t, os⟩ := by
  refine segA hb O R hl hi hz hm D fun m fA tA figs ts h1 t1 hm1 hfl hF hts h3 D1 => ?_
  refine segB O R.less hm1 D1 fun m SF SP stA h2 t2 rF rP npF npP nfP hN D2 => ?_
  refine segC O R.less hts h3 hfl hF rF rP hN D2 fun s h3' t3 hJ D3 => ?_
  have ht8 : ts.take 8 = ts := by rw [← hts, List.take_length]
  have gF := hJ.gF
  have gP := hJ.gP
  have old := hJ.old
  have hnd := nodup_namesOf ts 8 (by omega)
  have hnl := len_namesOf ts 8 (by omega)
  have hnm := mem_namesOf ts 8 (by omega)
  have hjl := hJ.len
  rw [ht8] at gF gP old hnd hnl hnm
  obtain ⟨gs', srt, run, hflat, hperm, hpw⟩ := gF.full hnd (by omega) fun x hx y hy hxy => old x ((hnm x).mp hx) y ((hnm y).mp hy) hxy
  have hsl := hperm.length_eq
  have gF' : Gr s.nF (namesOf ts) s.es 72 := gF
  have gP' : Gr s.nP (namesOf ts) (fl (prE s.ps)) 72 := gP
  refine segD (F := (L + 1, ceP (some (.ref tA))) :: (tA, stP ts) :: (fA, inP figs) :: (L + 1 + 1 + 1, ceP none) :: (L + 1 + 1, ceP none) :: []) O R.less hJ.nm.steps (by omega) D3 fun stB ps' h4 t4 hps hpl D4 => ?_
  rw [← hps] at gP'
  refine segE O R.less hts D4 fun nA h5 t5 D5 => ?_
  refine segF O R.less hnl (fun x hx => h3 x ((hnm x).mp hx)) D5 fun rA h6 t6 D6 => ?_
  refine segG O R.less hnl hperm hpw D6 fun wA h7 t7 D7 => ?_
  obtain ⟨m7, D7, hm7r, hm7f, hm7p, hm7s⟩ : ∃ m7, Led h₀ h7 ((L, nsP m7) :: (wA, stP srt) :: ((L + 1, ceP (some (.ref tA))) :: (tA, stP ts) :: (nA, stP (namesOf ts)) :: (L + 1 + 1, ceP (some (.ref nA))) :: []) ++ lpLed w stB ps' SF SP s.nF s.nP led) ∧ m7 ("row" : Str) = some (.ref wA) ∧ m7 ("full" : Str) = some (.ref SF.a) ∧ m7 ("part" : Str) = some (.ref SP.a) ∧ m7 ("steps" : Str) = some (.ref stB) :=
    ⟨_, D7, rfl, hJ.nm.full, hJ.nm.part, rfl⟩
  refine segH (L := L) (c := c) (SF := SF) (SP := SP) (nF := s.nF) (nP := s.nP) (ns := namesOf ts) (es := s.es) (gs := gs') (srt := srt) (m := m7) (ps := ps') (stA := stB) (wA := wA) (rest := led) (F := (L + 1, ceP (some (.ref tA))) :: (tA, stP ts) :: (nA, stP (namesOf ts)) :: (L + 1 + 1, ceP (some (.ref nA))) :: []) O R.less hfr rF npF hm7f hm7r gF' hnl run hflat (hsl ▸ hnl) D7 fun h8 t8 D8 => ?_
  refine segI O R.less hm7r hts (by omega) hpw (fun x hx => hperm.mem_iff.mpr ((hnm x).mpr hx)) D8 fun h9 t9 D9 => ?_
  exact segJ (L := L) (c := c) (SP := SP) (nP := s.nP) (ns := namesOf ts) (m := m7) (ps := ps') (stA := stB) (nA := nA) (rest := led) (B := 72) O R.less hfr rP npP nfP hm7p hm7s hnd hnl (by omega) gP' (by decide) D9 q

theorem law_rec (w : World) : ∃ (o : Obj) (fd : FuncData) (b : List Stmt), b = lawAt 0 ∧ (KK w).lookup 184 = some o ∧ o.data = .func fd ∧ fd.body = .stmts b ∧ (∀ L : Addr, callEnvC fd L 184 = lawEnv fd.code L) ∧ codeIn (KK w) fd.code fd.qualname = true ∧ (∀ l : Addr, bindArgs fd ⟨[.ref l], []⟩ = pure ([("script", .ref l)] : List (Str × Value))) ∧ fd.closure = [] ∧
    (∀ L : Addr, cellsFrom (L + 1) fd.scope.names [] = ([("ranks", L + 1 + 1 + 1), ("names", L + 1 + 1), ("texts", L + 1)] : List (Str × Addr))) ∧ fd.scope.names.lookup ("script" : Str) = some .local ∧ fd.scope.isCoroutine = false ∧ fd.scope.isGenerator = false ∧ fd.scope.kind = .function := by
  refine ⟨_, _, _, rfl, by rfl, by rfl, ?_, ?_, ?_, ?_, ?_, ?_, ?_, ?_, ?_, ?_⟩
  · kernel_rfl
  · intro L; kernel_rfl
  · rfl
  · intro l; rfl
  · rfl
  · intro L; rfl
  · rfl
  · rfl
  · rfl
  · rfl

set_option maxHeartbeats 8000000 in
theorem law_ {l : Addr} {vs : List Value} {xs : List Int} {Q : Value → Shared → Prop} (O : Ok w h₀) (R : Rm 21 A) (hfr : A.frames = some []) (hl : h₀.IsList l vs.toArray) (hi : IntsAre vs xs) (hz : xs.length ≤ 63) (D : Led h₀ h [])
    (q : ∀ h' tk, Led h₀ h' [] → Q (.bool true) ⟨h', g.push .finished, d, tk, os⟩) :
    wpAny (model PR w) A (call (.ref 184) [.ref l]) Q E ⟨h, g, d, t, os⟩ := by
  obtain ⟨o, fd, b, hbl, ho, hd, hb, he, hc, hba, hcl, hce, hsc, hk1, hk2, hk3⟩ := law_rec w
  refine r_callC (binds := [("script", .ref l)]) O D R.room ho hd hc hb (hba l) hcl (fun L => by rw [hce]; show ([("ranks" : Str), "names", "texts"] : List Str).Nodup; decide) (fun L x hx => .inl ?_) ?_ hk1 hk2 hk3
  · obtain rfl := List.mem_singleton.mp hx
    exact hsc
  intro L h₁ tk E' D1
  rw [he] at D1 ⊢
  rw [hce] at D1
  generalize fd.code = c at D1
  have D2 : Led h₀ h₁ ((L, nsP (bindL (lawEnv c L).kindOf [("script", .ref l)] fun _ => none)) :: (L + 1 + 1 + 1, ceP none) :: (L + 1 + 1, ceP none) :: (L + 1, ceP none) :: []) := D1
  exact body_ hbl (l := l) O (R.deeper _) (by show A.frames.map _ = _; rw [hfr]; rfl) hl hi hz (by rfl) D2 fun h' tk D' => q h' tk D'
end
end Mine
end

open PySem PySem.W PyProof.Rows
set_option maxRecDepth 100000 in
set_option maxHeartbeats 8000000 in
theorem PySem.Challenge.cw_mr0281_01_holds : PySem.Challenge.rw_mr0281_01.Holds := by
  refine Mine.hd (by rfl) (by rfl) (by rfl) ?_
  intro w s₀ s₁ mg mb G Y fa o pm cd doc dV kV ho hd hcd hD hmg hg args vals as hpre hlay hrd hwl hlo
  have KX := kIn_of Y
  have T := G.T
  have e184 : mg ("law" : Str) = some (.ref 184) := mg_of KX T.g (by kernel_rfl)
  have hfa : fa = 184 := by
    have h1 : mg ("law" : Str) = some (.ref fa) := hmg
    rw [e184] at h1
    injection h1 with h1
    injection h1 with h1
    exact h1.symm
  subst hfa
  clear hd hcd hD hmg ho
  wrow_args hpre hlay hrd hwl hlo
  obtain ⟨h, g, d, t, os⟩ := s₁
  obtain rfl : g = #[] := hg
  rename IntsAre _ _ => hI
  rename Heap.IsList _ _ _ => hL
  refine Mine.law_ (w := w) (h₀ := h) ⟨KX, ⟨mg, T.g⟩, ⟨mb, T.b, T.builtins⟩, T.nolimit⟩ ⟨by decide, by decide, rfl⟩ rfl hL hI (by omega) ⟨fun _ _ e => e, List.nodup_nil, (fun p hp => nomatch hp), ⟨_, KX 184 _ (by rfl)⟩, (fun p hp => nomatch hp)⟩ fun h' tk D => ?_
  refine ⟨.inl ⟨.bool true, .bool true, [], rfl, raisesW_false ?_, .bool true, ?_, unshared_nil⟩, .of_keep D.keep, rfl, AllBare.empty.push rfl⟩
  · wrow_none_raised
  · wrow_post
