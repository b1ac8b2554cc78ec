import PyProof.Rows.All
import Wide.All
import OpenK.AllK
import Wide.FinOn
import PySem.Challenge.RW_ox0135_01
open PySem PySem.W PyProof.Rows
set_option Elab.async false
set_option linter.unusedVariables false
namespace Mine
noncomputable section
abbrev pw : Program := PySem.Challenge.pw_ox0135_01
noncomputable abbrev S (s : String) : Str := Str.ofString s
noncomputable abbrev E (P : Params) (k : String) (t : Tok) (v : Value) : DictEntry := ⟨PyData.keyHash P (Str.ofString k), .str (Str.ofString k) t, v⟩
noncomputable abbrev N (o : Obj) (l r : BT) : BT := .node o l r
noncomputable abbrev z4 : Pos := ⟨0, 0, 0, 0⟩
noncomputable def tp (i : Nat) : Stmt := pw.main.body.getD i (.Pass z4)
noncomputable def cm (i j : Nat) : Stmt := match tp i with
  | .ClassDef _ _ _ body .. => body.getD j (.Pass z4)
  | s => s
noncomputable def fnAt (st : Stmt) (name qual : Str) (globals : Addr) (closure : List (Str × Addr)) (dV kV doc pm : Value) (an : Option Addr) (cd ct : Value) (blt : Addr) : FuncData := match st with
  | .FunctionDef _ ps b _ _ _ sc .. => { name := name, qualname := qual, params := ps, body := .stmts b, scope := sc, globals := globals, closure := closure, defaults := dV, kwdefaults := kV, doc := doc, pyModule := pm, annotations := an, code := cd, closureTuple := ct, builtins := blt }
  | _ => default
noncomputable def z1 (P : Params) : Obj := ⟨(.type "dict"), none, (.dict (Array.mk [E P "builtins" 162 (.ref 4), E P "__main__" 163 (.ref 5), E P "_sre" 244 (.ref 12), E P "_collections" 292 (.ref 30)]) 4), (Array.mk [])⟩
noncomputable def z2 (P : Params) : Obj := ⟨.none, none, (.dict (Array.mk [E P "\x69mport.loaded._sre" 183 (.bool true), E P "class._frozen_importlib.BuiltinImporter" 185 (.ref 14), E P "watched.\x69mport" 206 (.ref 18), E P "class._frozen_importlib.ModuleSpec" 216 (.ref 22), E P "sys.modules.booked-epoch" 245 (.int 4 0), E P "\x69mport.later-laid._sre" 270 (.bool true), E P "watched.library" 272 (.ref 27), E P "watched.library-objects" 0 (.str (S "\x0c\x1e") 0), E P "watched.library-deep._sre" 273 (.str (S "\x04\x00\x00\x0b\x04\x00\x00\x0b\x04\x00\x00\x03\x04\x00\x00\x0b\x08\x04dict\x02") 0), E P "\x69mport.loaded._collections" 280 (.bool true), E P "sys.modules.landed._collections" 294 (.bool true), E P "\x69mport.later-laid._collections" 309 (.bool true), E P "watched.library-deep._collections" 311 (.str (S "\x04\x00\x00\x1d\x04\x00\x00\x1d\x04\x00\x00\x03\x04\x00\x00\x1d\x08\x04dict\x02") 0)]) 13), (Array.mk [])⟩
noncomputable def z3 (P : Params) : Obj := ⟨(.type "dict"), none, (.dict (Array.mk [E P "__name__" 165 (.str (S "__main__") 164), E P "__doc__" 166 .none, E P "__package__" 167 .none, E P "__loader__" 168 (.builtin "__main__.__loader__#opaque"), E P "__spec__" 169 .none, E P "__annotations__" 170 (.ref 6), E P "__builtins__" 171 (.ref 4), E P "__file__" 173 (.str (S "/claim/cut.py") 172), E P "__cached__" 174 .none, E P "_sre" 275 (.ref 12), E P "deque" 317 (.type "collections.deque")]) 11), (Array.mk [])⟩
noncomputable def z11 (P : Params) : Obj := ⟨(.type "dict"), none, (.dict (Array.mk [E P "__name__" 247 (.str (S "_sre") 246), E P "__doc__" 248 .none, E P "__package__" 250 (.str (S "") 249), E P "__loader__" 251 (.builtin "off-the-table:_sre.__loader__:shared#opaque"), E P "__spec__" 252 (.builtin "off-the-table:_sre.__spec__:shared#opaque"), E P "compile" 253 (.builtin "_sre.compile"), E P "template" 254 (.builtin "off-the-table:_sre.template:shared#opaque"), E P "getcodesize" 255 (.builtin "off-the-table:_sre.getcodesize:shared#opaque"), E P "ascii_iscased" 256 (.builtin "off-the-table:_sre.ascii_iscased:shared#opaque"), E P "unicode_iscased" 257 (.builtin "off-the-table:_sre.unicode_iscased:shared#opaque"), E P "ascii_tolower" 258 (.builtin "off-the-table:_sre.ascii_tolower:shared#opaque"), E P "unicode_tolower" 259 (.builtin "off-the-table:_sre.unicode_tolower:shared#opaque"), E P "MAGIC" 261 (.int 20230612 260), E P "CODESIZE" 263 (.int 4 262), E P "MAXREPEAT" 265 (.int 4294967295 264), E P "MAXGROUPS" 267 (.int 1073741823 266), E P "copyright" 269 (.str (S " SRE 2.2.2 Copyright (c) 1997-2002 by Secret Labs AB ") 268)]) 17), (Array.mk [])⟩
noncomputable def z12 (P : Params) : Obj := ⟨(.type "module"), (some 11), .plain, (Array.mk [])⟩
noncomputable def z13 (P : Params) : Obj := ⟨(.type "dict"), none, (.dict (Array.mk [E P "__module__" 189 (.str (S "_frozen_importlib") 186), E P "__firstlineno__" 190 (.int 971 187), E P "__doc__" 191 (.builtin "_frozen_importlib.BuiltinImporter.__doc__:str#opaque"), E P "_ORIGIN" 192 (.str (S "built-in") 188), E P "find_spec" 193 (.builtin "_frozen_importlib.BuiltinImporter.find_spec#opaque"), E P "create_module" 194 (.builtin "_frozen_importlib.BuiltinImporter.create_module#opaque"), E P "exec_module" 195 (.builtin "_frozen_importlib.BuiltinImporter.exec_module#opaque"), E P "get_code" 196 (.builtin "_frozen_importlib.BuiltinImporter.get_code#opaque"), E P "get_source" 197 (.builtin "_frozen_importlib.BuiltinImporter.get_source#opaque"), E P "is_package" 198 (.builtin "_frozen_importlib.BuiltinImporter.is_package#opaque"), E P "load_module" 199 (.builtin "_frozen_importlib.BuiltinImporter.load_module#opaque"), E P "__static_attributes__" 200 (.ref 15), E P "__dict__" 202 (.ref 16), E P "__weakref__" 204 (.ref 17)]) 14), (Array.mk [])⟩
noncomputable def z14 (P : Params) : Obj := ⟨(.type "type"), none, (.cls { name := (S "BuiltinImporter"), bases := [(.type "object")], mro := [(.ref 14), (.type "object")], ns := 13, qualname := (S "BuiltinImporter"), hasDict := true, slotNames := [], subclasses := [], abstract := false, collection := none, hasDel := false }), (Array.mk [])⟩
noncomputable def z15 (P : Params) : Obj := ⟨(.type "tuple"), none, (.seq (Array.mk []) 0), (Array.mk [])⟩
noncomputable def z16 (P : Params) : Obj := ⟨(.type "getset_descriptor"), none, (.fields (Array.mk [(.str (S "__dict__") 201), (.ref 14), (.builtin "function.__dict__"), (.builtin "function.__dict__#set")])), (Array.mk [])⟩
noncomputable def z17 (P : Params) : Obj := ⟨(.type "getset_descriptor"), none, (.fields (Array.mk [(.str (S "__weakref__") 203), (.ref 14), (.builtin "ExceptionGroup.__weakref__"), .none])), (Array.mk [])⟩
noncomputable def z18 (P : Params) : Obj := ⟨.none, none, (.seq (Array.mk [(.int 13 0), (.str (Str.mk (Array.mk [6, 189, 10, 95, 95, 109, 111, 100, 117, 108, 101, 95, 95, 6, 186, 17, 95, 102, 114, 111, 122, 101, 110, 95, 105, 109, 112, 111, 114, 116, 108, 105, 98, 6, 190, 15, 95, 95, 102, 105, 114, 115, 116, 108, 105, 110, 101, 110, 111, 95, 95, 4, 187, 0, 971, 6, 191, 7, 95, 95, 100, 111, 99, 95, 95, 9, 52, 95, 102, 114, 111, 122, 101, 110, 95, 105, 109, 112, 111, 114, 116, 108, 105, 98, 46, 66, 117, 105, 108, 116, 105, 110, 73, 109, 112, 111, 114, 116, 101, 114, 46, 95, 95, 100, 111, 99, 95, 95, 58, 115, 116, 114, 35, 111, 112, 97, 113, 117, 101, 6, 192, 7, 95, 79, 82, 73, 71, 73, 78, 6, 188, 8, 98, 117, 105, 108, 116, 45, 105, 110, 6, 193, 9, 102, 105, 110, 100, 95, 115, 112, 101, 99, 9, 50, 95, 102, 114, 111, 122, 101, 110, 95, 105, 109, 112, 111, 114, 116, 108, 105, 98, 46, 66, 117, 105, 108, 116, 105, 110, 73, 109, 112, 111, 114, 116, 101, 114, 46, 102, 105, 110, 100, 95, 115, 112, 101, 99, 35, 111, 112, 97, 113, 117, 101, 6, 194, 13, 99, 114, 101, 97, 116, 101, 95, 109, 111, 100, 117, 108, 101, 9, 54, 95, 102, 114, 111, 122, 101, 110, 95, 105, 109, 112, 111, 114, 116, 108, 105, 98, 46, 66, 117, 105, 108, 116, 105, 110, 73, 109, 112, 111, 114, 116, 101, 114, 46, 99, 114, 101, 97, 116, 101, 95, 109, 111, 100, 117, 108, 101, 35, 111, 112, 97, 113, 117, 101, 6, 195, 11, 101, 120, 101, 99, 95, 109, 111, 100, 117, 108, 101, 9, 52, 95, 102, 114, 111, 122, 101, 110, 95, 105, 109, 112, 111, 114, 116, 108, 105, 98, 46, 66, 117, 105, 108, 116, 105, 110, 73, 109, 112, 111, 114, 116, 101, 114, 46, 101, 120, 101, 99, 95, 109, 111, 100, 117, 108, 101, 35, 111, 112, 97, 113, 117, 101, 6, 196, 8, 103, 101, 116, 95, 99, 111, 100, 101, 9, 49, 95, 102, 114, 111, 122, 101, 110, 95, 105, 109, 112, 111, 114, 116, 108, 105, 98, 46, 66, 117, 105, 108, 116, 105, 110, 73, 109, 112, 111, 114, 116, 101, 114, 46, 103, 101, 116, 95, 99, 111, 100, 101, 35, 111, 112, 97, 113, 117, 101, 6, 197, 10, 103, 101, 116, 95, 115, 111, 117, 114, 99, 101, 9, 51, 95, 102, 114, 111, 122, 101, 110, 95, 105, 109, 112, 111, 114, 116, 108, 105, 98, 46, 66, 117, 105, 108, 116, 105, 110, 73, 109, 112, 111, 114, 116, 101, 114, 46, 103, 101, 116, 95, 115, 111, 117, 114, 99, 101, 35, 111, 112, 97, 113, 117, 101, 6, 198, 10, 105, 115, 95, 112, 97, 99, 107, 97, 103, 101, 9, 51, 95, 102, 114, 111, 122, 101, 110, 95, 105, 109, 112, 111, 114, 116, 108, 105, 98, 46, 66, 117, 105, 108, 116, 105, 110, 73, 109, 112, 111, 114, 116, 101, 114, 46, 105, 115, 95, 112, 97, 99, 107, 97, 103, 101, 35, 111, 112, 97, 113, 117, 101, 6, 199, 11, 108, 111, 97, 100, 95, 109, 111, 100, 117, 108, 101, 9, 52, 95, 102, 114, 111, 122, 101, 110, 95, 105, 109, 112, 111, 114, 116, 108, 105, 98, 46, 66, 117, 105, 108, 116, 105, 110, 73, 109, 112, 111, 114, 116, 101, 114, 46, 108, 111, 97, 100, 95, 109, 111, 100, 117, 108, 101, 35, 111, 112, 97, 113, 117, 101, 6, 200, 21, 95, 95, 115, 116, 97, 116, 105, 99, 95, 97, 116, 116, 114, 105, 98, 117, 116, 101, 115, 95, 95, 4, 0, 0, 15, 6, 202, 8, 95, 95, 100, 105, 99, 116, 95, 95, 4, 0, 0, 16, 6, 204, 11, 95, 95, 119, 101, 97, 107, 114, 101, 102, 95, 95, 4, 0, 0, 17])) 0), (.bool true), (.bool true), (.str (S "") 205), (.int 21 0), (.str (Str.mk (Array.mk [6, 227, 10, 95, 95, 109, 111, 100, 117, 108, 101, 95, 95, 6, 217, 17, 95, 102, 114, 111, 122, 101, 110, 95, 105, 109, 112, 111, 114, 116, 108, 105, 98, 6, 228, 15, 95, 95, 102, 105, 114, 115, 116, 108, 105, 110, 101, 110, 111, 95, 95, 4, 218, 0, 562, 6, 229, 7, 95, 95, 100, 111, 99, 95, 95, 9, 47, 95, 102, 114, 111, 122, 101, 110, 95, 105, 109, 112, 111, 114, 116, 108, 105, 98, 46, 77, 111, 100, 117, 108, 101, 83, 112, 101, 99, 46, 95, 95, 100, 111, 99, 95, 95, 58, 115, 116, 114, 35, 111, 112, 97, 113, 117, 101, 6, 230, 8, 95, 95, 105, 110, 105, 116, 95, 95, 9, 44, 95, 102, 114, 111, 122, 101, 110, 95, 105, 109, 112, 111, 114, 116, 108, 105, 98, 46, 77, 111, 100, 117, 108, 101, 83, 112, 101, 99, 46, 95, 95, 105, 110, 105, 116, 95, 95, 35, 111, 112, 97, 113, 117, 101, 6, 231, 8, 95, 95, 114, 101, 112, 114, 95, 95, 9, 44, 95, 102, 114, 111, 122, 101, 110, 95, 105, 109, 112, 111, 114, 116, 108, 105, 98, 46, 77, 111, 100, 117, 108, 101, 83, 112, 101, 99, 46, 95, 95, 114, 101, 112, 114, 95, 95, 35, 111, 112, 97, 113, 117, 101, 6, 232, 6, 95, 95, 101, 113, 95, 95, 9, 42, 95, 102, 114, 111, 122, 101, 110, 95, 105, 109, 112, 111, 114, 116, 108, 105, 98, 46, 77, 111, 100, 117, 108, 101, 83, 112, 101, 99, 46, 95, 95, 101, 113, 95, 95, 35, 111, 112, 97, 113, 117, 101, 6, 233, 6, 99, 97, 99, 104, 101, 100, 9, 42, 95, 102, 114, 111, 122, 101, 110, 95, 105, 109, 112, 111, 114, 116, 108, 105, 98, 46, 77, 111, 100, 117, 108, 101, 83, 112, 101, 99, 46, 99, 97, 99, 104, 101, 100, 35, 111, 112, 97, 113, 117, 101, 6, 234, 6, 112, 97, 114, 101, 110, 116, 9, 42, 95, 102, 114, 111, 122, 101, 110, 95, 105, 109, 112, 111, 114, 116, 108, 105, 98, 46, 77, 111, 100, 117, 108, 101, 83, 112, 101, 99, 46, 112, 97, 114, 101, 110, 116, 35, 111, 112, 97, 113, 117, 101, 6, 235, 12, 104, 97, 115, 95, 108, 111, 99, 97, 116, 105, 111, 110, 9, 48, 95, 102, 114, 111, 122, 101, 110, 95, 105, 109, 112, 111, 114, 116, 108, 105, 98, 46, 77, 111, 100, 117, 108, 101, 83, 112, 101, 99, 46, 104, 97, 115, 95, 108, 111, 99, 97, 116, 105, 111, 110, 35, 111, 112, 97, 113, 117, 101, 6, 236, 21, 95, 95, 115, 116, 97, 116, 105, 99, 95, 97, 116, 116, 114, 105, 98, 117, 116, 101, 115, 95, 95, 4, 0, 0, 23, 6, 238, 8, 95, 95, 100, 105, 99, 116, 95, 95, 4, 0, 0, 24, 6, 240, 11, 95, 95, 119, 101, 97, 107, 114, 101, 102, 95, 95, 4, 0, 0, 25, 6, 241, 8, 95, 95, 104, 97, 115, 104, 95, 95, 0])) 0), (.bool true), (.bool true), (.str (S "") 242)]) 1), (Array.mk [])⟩
noncomputable def z19 (P : Params) : Obj := ⟨(.type "list"), none, (.seq (Array.mk []) 0), (Array.mk [])⟩
noncomputable def z20 (P : Params) : Obj := ⟨(.type "dict"), none, (.dict (Array.mk [E P "name" 208 (.str (S "_sre") 207), E P "loader" 209 (.ref 14), E P "origin" 210 (.str (S "built-in") 184), E P "loader_state" 211 .none, E P "submodule_search_locations" 212 .none, E P "_uninitialized_submodules" 213 (.ref 19), E P "_set_fileattr" 214 (.bool false), E P "_cached" 215 .none, E P "_initializing" 243 (.bool false)]) 9), (Array.mk [])⟩
noncomputable def z21 (P : Params) : Obj := ⟨(.type "dict"), none, (.dict (Array.mk [E P "__module__" 227 (.str (S "_frozen_importlib") 217), E P "__firstlineno__" 228 (.int 562 218), E P "__doc__" 229 (.builtin "_frozen_importlib.ModuleSpec.__doc__:str#opaque"), E P "__init__" 230 (.builtin "_frozen_importlib.ModuleSpec.__init__#opaque"), E P "__repr__" 231 (.builtin "_frozen_importlib.ModuleSpec.__repr__#opaque"), E P "__eq__" 232 (.builtin "_frozen_importlib.ModuleSpec.__eq__#opaque"), E P "cached" 233 (.builtin "_frozen_importlib.ModuleSpec.cached#opaque"), E P "parent" 234 (.builtin "_frozen_importlib.ModuleSpec.parent#opaque"), E P "has_location" 235 (.builtin "_frozen_importlib.ModuleSpec.has_location#opaque"), E P "__static_attributes__" 236 (.ref 23), E P "__dict__" 238 (.ref 24), E P "__weakref__" 240 (.ref 25), E P "__hash__" 241 .none]) 13), (Array.mk [])⟩
noncomputable def z22 (P : Params) : Obj := ⟨(.type "type"), none, (.cls { name := (S "ModuleSpec"), bases := [(.type "object")], mro := [(.ref 22), (.type "object")], ns := 21, qualname := (S "ModuleSpec"), hasDict := true, slotNames := [], subclasses := [], abstract := false, collection := none, hasDel := false }), (Array.mk [])⟩
noncomputable def z23 (P : Params) : Obj := ⟨(.type "tuple"), none, (.seq (Array.mk [(.str (S "_cached") 219), (.str (S "_set_fileattr") 220), (.str (S "_uninitialized_submodules") 221), (.str (S "loader") 222), (.str (S "loader_state") 223), (.str (S "name") 224), (.str (S "origin") 225), (.str (S "submodule_search_locations") 226)]) 0), (Array.mk [])⟩
noncomputable def z24 (P : Params) : Obj := ⟨(.type "getset_descriptor"), none, (.fields (Array.mk [(.str (S "__dict__") 237), (.ref 22), (.builtin "function.__dict__"), (.builtin "function.__dict__#set")])), (Array.mk [])⟩
noncomputable def z25 (P : Params) : Obj := ⟨(.type "getset_descriptor"), none, (.fields (Array.mk [(.str (S "__weakref__") 239), (.ref 22), (.builtin "ExceptionGroup.__weakref__"), .none])), (Array.mk [])⟩
noncomputable def z26 (P : Params) : Obj := ⟨(.ref 22), (some 20), .plain, (Array.mk [])⟩
noncomputable def z27 (P : Params) : Obj := ⟨.none, none, (.seq (Array.mk [(.int 11 0), (.str (Str.mk (Array.mk [6, 247, 8, 95, 95, 110, 97, 109, 101, 95, 95, 6, 246, 4, 95, 115, 114, 101, 6, 248, 7, 95, 95, 100, 111, 99, 95, 95, 0, 6, 250, 11, 95, 95, 112, 97, 99, 107, 97, 103, 101, 95, 95, 6, 249, 0, 6, 251, 10, 95, 95, 108, 111, 97, 100, 101, 114, 95, 95, 4, 0, 0, 14, 6, 252, 8, 95, 95, 115, 112, 101, 99, 95, 95, 4, 0, 0, 26, 6, 253, 7, 99, 111, 109, 112, 105, 108, 101, 9, 12, 95, 115, 114, 101, 46, 99, 111, 109, 112, 105, 108, 101, 6, 254, 8, 116, 101, 109, 112, 108, 97, 116, 101, 9, 13, 95, 115, 114, 101, 46, 116, 101, 109, 112, 108, 97, 116, 101, 6, 255, 11, 103, 101, 116, 99, 111, 100, 101, 115, 105, 122, 101, 9, 16, 95, 115, 114, 101, 46, 103, 101, 116, 99, 111, 100, 101, 115, 105, 122, 101, 6, 256, 13, 97, 115, 99, 105, 105, 95, 105, 115, 99, 97, 115, 101, 100, 9, 18, 95, 115, 114, 101, 46, 97, 115, 99, 105, 105, 95, 105, 115, 99, 97, 115, 101, 100, 6, 257, 15, 117, 110, 105, 99, 111, 100, 101, 95, 105, 115, 99, 97, 115, 101, 100, 9, 20, 95, 115, 114, 101, 46, 117, 110, 105, 99, 111, 100, 101, 95, 105, 115, 99, 97, 115, 101, 100, 6, 258, 13, 97, 115, 99, 105, 105, 95, 116, 111, 108, 111, 119, 101, 114, 9, 18, 95, 115, 114, 101, 46, 97, 115, 99, 105, 105, 95, 116, 111, 108, 111, 119, 101, 114, 6, 259, 15, 117, 110, 105, 99, 111, 100, 101, 95, 116, 111, 108, 111, 119, 101, 114, 9, 20, 95, 115, 114, 101, 46, 117, 110, 105, 99, 111, 100, 101, 95, 116, 111, 108, 111, 119, 101, 114, 6, 261, 5, 77, 65, 71, 73, 67, 4, 260, 0, 20230612, 6, 263, 8, 67, 79, 68, 69, 83, 73, 90, 69, 4, 262, 0, 4, 6, 265, 9, 77, 65, 88, 82, 69, 80, 69, 65, 84, 4, 264, 0, 4294967295, 6, 267, 9, 77, 65, 88, 71, 82, 79, 85, 80, 83, 4, 266, 0, 1073741823, 6, 269, 9, 99, 111, 112, 121, 114, 105, 103, 104, 116, 6, 268, 53, 32, 83, 82, 69, 32, 50, 46, 50, 46, 50, 32, 67, 111, 112, 121, 114, 105, 103, 104, 116, 32, 40, 99, 41, 32, 49, 57, 57, 55, 45, 50, 48, 48, 50, 32, 98, 121, 32, 83, 101, 99, 114, 101, 116, 32, 76, 97, 98, 115, 32, 65, 66, 32])) 0), (.bool true), (.bool false), (.str (S "_sre") 271), (.int 29 0), (.str (Str.mk (Array.mk [6, 296, 8, 95, 95, 110, 97, 109, 101, 95, 95, 6, 295, 12, 95, 99, 111, 108, 108, 101, 99, 116, 105, 111, 110, 115, 6, 297, 7, 95, 95, 100, 111, 99, 95, 95, 9, 31, 95, 99, 111, 108, 108, 101, 99, 116, 105, 111, 110, 115, 46, 95, 95, 100, 111, 99, 95, 95, 58, 115, 116, 114, 35, 111, 112, 97, 113, 117, 101, 6, 299, 11, 95, 95, 112, 97, 99, 107, 97, 103, 101, 95, 95, 6, 298, 0, 6, 300, 10, 95, 95, 108, 111, 97, 100, 101, 114, 95, 95, 4, 0, 0, 14, 6, 301, 8, 95, 95, 115, 112, 101, 99, 95, 95, 4, 0, 0, 33, 6, 302, 15, 95, 99, 111, 117, 110, 116, 95, 101, 108, 101, 109, 101, 110, 116, 115, 9, 28, 95, 99, 111, 108, 108, 101, 99, 116, 105, 111, 110, 115, 46, 95, 99, 111, 117, 110, 116, 95, 101, 108, 101, 109, 101, 110, 116, 115, 6, 303, 5, 100, 101, 113, 117, 101, 8, 17, 99, 111, 108, 108, 101, 99, 116, 105, 111, 110, 115, 46, 100, 101, 113, 117, 101, 6, 304, 11, 100, 101, 102, 97, 117, 108, 116, 100, 105, 99, 116, 8, 23, 99, 111, 108, 108, 101, 99, 116, 105, 111, 110, 115, 46, 100, 101, 102, 97, 117, 108, 116, 100, 105, 99, 116, 6, 305, 15, 95, 100, 101, 113, 117, 101, 95, 105, 116, 101, 114, 97, 116, 111, 114, 8, 27, 99, 111, 108, 108, 101, 99, 116, 105, 111, 110, 115, 46, 95, 100, 101, 113, 117, 101, 95, 105, 116, 101, 114, 97, 116, 111, 114, 6, 306, 23, 95, 100, 101, 113, 117, 101, 95, 114, 101, 118, 101, 114, 115, 101, 95, 105, 116, 101, 114, 97, 116, 111, 114, 8, 35, 99, 111, 108, 108, 101, 99, 116, 105, 111, 110, 115, 46, 95, 100, 101, 113, 117, 101, 95, 114, 101, 118, 101, 114, 115, 101, 95, 105, 116, 101, 114, 97, 116, 111, 114, 6, 307, 12, 95, 116, 117, 112, 108, 101, 103, 101, 116, 116, 101, 114, 8, 24, 99, 111, 108, 108, 101, 99, 116, 105, 111, 110, 115, 46, 95, 116, 117, 112, 108, 101, 103, 101, 116, 116, 101, 114, 6, 308, 11, 79, 114, 100, 101, 114, 101, 100, 68, 105, 99, 116, 8, 23, 99, 111, 108, 108, 101, 99, 116, 105, 111, 110, 115, 46, 79, 114, 100, 101, 114, 101, 100, 68, 105, 99, 116])) 0), (.bool true), (.bool false), (.str (S "_collections") 310)]) 1), (Array.mk [])⟩
noncomputable def z28 (P : Params) : Obj := ⟨(.type "tuple"), none, (.seq (Array.mk [(.str (S "deque") 277)]) 0), (Array.mk [])⟩
noncomputable def z29 (P : Params) : Obj := ⟨(.type "dict"), none, (.dict (Array.mk [E P "__name__" 296 (.str (S "_collections") 295), E P "__doc__" 297 (.builtin "off-the-table:_collections.__doc__:shared#opaque"), E P "__package__" 299 (.str (S "") 298), E P "__loader__" 300 (.builtin "off-the-table:_collections.__loader__:shared#opaque"), E P "__spec__" 301 (.builtin "off-the-table:_collections.__spec__:shared#opaque"), E P "_count_elements" 302 (.builtin "_collections._count_elements"), E P "deque" 303 (.type "collections.deque"), E P "defaultdict" 304 (.type "collections.defaultdict"), E P "_deque_iterator" 305 (.builtin "off-the-table:_collections._deque_iterator:shared#opaque"), E P "_deque_reverse_iterator" 306 (.builtin "off-the-table:_collections._deque_reverse_iterator:shared#opaque"), E P "_tuplegetter" 307 (.type "collections._tuplegetter"), E P "OrderedDict" 308 (.type "collections.OrderedDict")]) 12), (Array.mk [])⟩
noncomputable def z30 (P : Params) : Obj := ⟨(.type "module"), (some 29), .plain, (Array.mk [])⟩
noncomputable def z31 (P : Params) : Obj := ⟨(.type "list"), none, (.seq (Array.mk []) 0), (Array.mk [])⟩
noncomputable def z32 (P : Params) : Obj := ⟨(.type "dict"), none, (.dict (Array.mk [E P "name" 283 (.str (S "_collections") 282), E P "loader" 284 (.ref 14), E P "origin" 285 (.str (S "built-in") 281), E P "loader_state" 286 .none, E P "submodule_search_locations" 287 .none, E P "_uninitialized_submodules" 288 (.ref 31), E P "_set_fileattr" 289 (.bool false), E P "_cached" 290 .none, E P "_initializing" 291 (.bool false)]) 9), (Array.mk [])⟩
noncomputable def z33 (P : Params) : Obj := ⟨(.ref 22), (some 32), .plain, (Array.mk [])⟩
noncomputable def y34 (P : Params) : Obj := ⟨(.type "tuple"), none, (.seq (Array.mk []) 0), (Array.mk [])⟩
noncomputable def y35 (P : Params) : Obj := ⟨.none, none, (.fields (Array.mk [])), (Array.mk [])⟩
noncomputable def y36 (P : Params) : Obj := ⟨(.type "code"), none, (.fields (Array.mk [(.str (S "<module>") 319), (.str (S "<module>") 320), (.str (S "/claim/cut.py") 321), (.int 1 0), (.int 0 0), (.int 0 0), (.int 0 0), (.int 0 0), (.ref 34), (.bool false), (.int 318 0), (.ref 35), .none, .none, .none, .none, (.int 322 0), (.int 1 0), (.str (S "/claim/cut.py") 323)])), (Array.mk [])⟩
noncomputable def y37 (P : Params) : Obj := ⟨(.type "frame"), none, .plain, (Array.mk [(some (.ref 36)), (some (.ref 3)), (some (.ref 3)), none, (some (.str (S "__main__") 164)), none, (some (.ref 0))])⟩
noncomputable def o2 (P : Params) : Obj := ⟨.none, none, (.dict (Array.mk [E P "\x69mport.loaded._sre" 183 (.bool true), E P "class._frozen_importlib.BuiltinImporter" 185 (.ref 14), E P "watched.\x69mport" 206 (.ref 18), E P "class._frozen_importlib.ModuleSpec" 216 (.ref 22), E P "sys.modules.booked-epoch" 245 (.int 4 0), E P "\x69mport.later-laid._sre" 270 (.bool true), E P "watched.library" 272 (.ref 27), E P "watched.library-objects" 0 (.str (S "\x0c\x1e") 0), E P "watched.library-deep._sre" 273 (.str (S "\x04\x00\x00\x0b\x04\x00\x00\x0b\x04\x00\x00\x03\x04\x00\x00\x0b\x08\x04dict\x02") 0), E P "\x69mport.loaded._collections" 280 (.bool true), E P "sys.modules.landed._collections" 294 (.bool true), E P "\x69mport.later-laid._collections" 309 (.bool true), E P "watched.library-deep._collections" 311 (.str (S "\x04\x00\x00\x1d\x04\x00\x00\x1d\x04\x00\x00\x03\x04\x00\x00\x1d\x08\x04dict\x02") 0), E P "type.__subclasses__.OSError.0" 407 (.int 73 0), E P "type.__subclasses__.OSError.n" 408 (.int 1 0)]) 15), (Array.mk [])⟩
noncomputable def o3 (P : Params) : Obj := ⟨(.type "dict"), none, (.dict (Array.mk [E P "__name__" 165 (.str (S "io") 371), E P "__doc__" 166 .none, E P "__package__" 167 .none, E P "__loader__" 168 (.builtin "__main__.__loader__#opaque"), E P "__spec__" 169 .none, E P "__annotations__" 170 (.ref 6), E P "__builtins__" 171 (.ref 4), E P "__file__" 173 (.str (S "/claim/cut.py") 172), E P "__cached__" 174 .none, E P "_sre" 275 (.ref 12), E P "deque" 317 (.type "collections.deque"), E P "_wall" 330 (.ref 44), E P "_twin_re_1" 370 (.ref 49), E P "_whence" 380 (.ref 56), E P "_index" 388 (.ref 63), E P "UnsupportedOperation" 410 (.ref 73), E P "IOBase" 442 (.ref 93), E P "BufferedIOBase" 460 (.ref 108), E P "TextIOBase" 478 (.ref 120), E P "BytesIO" 740 (.ref 350)]) 20), (Array.mk [])⟩
noncomputable def o35 (P : Params) : Obj := ⟨.none, none, (.fields (Array.mk [(.int 3 0), (.int 0 0), (.ref 43), (.int 8 0), (.int 0 0), (.ref 55), (.int 13 0), (.int 0 0), (.ref 62), (.int 20 0), (.int 0 0), (.ref 69), (.int 22 0), (.int 0 0), (.ref 82), (.int 29 0), (.int 0 0), (.ref 104), (.int 31 0), (.int 0 0), (.ref 116), (.int 33 0), (.int 0 0), (.ref 128)])), (Array.mk [])⟩
noncomputable def o38 (P : Params) : Obj := ⟨(.type "tuple"), none, (.seq (Array.mk []) 0), (Array.mk [])⟩
noncomputable def o39 (P : Params) : Obj := ⟨.none, none, (.fields (Array.mk [])), (Array.mk [])⟩
noncomputable def o40 (P : Params) : Obj := ⟨(.type "tuple"), none, (.seq (Array.mk [(.str (S "k") 327)]) 0), (Array.mk [])⟩
noncomputable def o41 (P : Params) : Obj := ⟨(.type "tuple"), none, (.seq (Array.mk []) 0), (Array.mk [])⟩
noncomputable def o42 (P : Params) : Obj := ⟨.none, none, (.func (fnAt (tp 2) (S "_wall") (S "_wall") 0 [] .none .none .none .none none .none .none 0)), (Array.mk [])⟩
noncomputable def o43 (P : Params) : Obj := ⟨(.type "code"), none, (.fields (Array.mk [(.str (S "_wall") 324), (.str (S "_wall") 325), (.str (S "/claim/cut.py") 326), (.int 3 0), (.int 1 0), (.int 0 0), (.int 0 0), (.int 3 0), (.ref 38), (.bool true), (.int 318 0), (.ref 39), .none, (.ref 40), (.ref 41), (.ref 42), (.int 328 0), (.int 3 0), (.str (S "/claim/cut.py") 329)])), (Array.mk [])⟩
noncomputable def o44 (P : Params) : Obj := ⟨(.type "function"), none, (.func (fnAt (tp 2) (S "_wall") (S "_wall") 3 [] .none .none .none (.str (S "__main__") 164) none (.ref 43) .none 0)), (Array.mk [])⟩
noncomputable def o45 (P : Params) : Obj := ⟨(.type "list"), none, (.seq (Array.mk [(.int 14 334), (.int 17 335), (.int 4 336), (.int 1 337), (.int 1 338), (.int 21 339), (.int 9 340), (.int 0 341), (.int 604043296 342), (.int 1 343), (.int 0 344), (.int 0 345), (.int 0 346), (.int 0 347), (.int 0 348), (.int 8 349), (.int 4 350), (.int 0 351), (.int 13 352), (.int 14 353), (.int 21 354), (.int 9 355), (.int 0 356), (.int 604043296 357), (.int 1 358), (.int 0 359), (.int 0 360), (.int 0 361), (.int 0 362), (.int 0 363), (.int 8 364), (.int 4 365), (.int 0 366), (.int 1 367)]) 0), (Array.mk [])⟩
noncomputable def o46 (P : Params) : Obj := ⟨(.type "dict"), none, (.dict (Array.mk []) 0), (Array.mk [])⟩
noncomputable def o47 (P : Params) : Obj := ⟨(.type "tuple"), none, (.seq (Array.mk [.none]) 0), (Array.mk [])⟩
noncomputable def o48 (P : Params) : Obj := ⟨(.type "tuple"), none, (.seq (Array.mk [(.int 14 0), (.int 17 0), (.int 4 0), (.int 1 0), (.int 1 0), (.int 21 0), (.int 9 0), (.int 0 0), (.int 604043296 0), (.int 1 0), (.int 0 0), (.int 0 0), (.int 0 0), (.int 0 0), (.int 0 0), (.int 8 0), (.int 4 0), (.int 0 0), (.int 13 0), (.int 14 0), (.int 21 0), (.int 9 0), (.int 0 0), (.int 604043296 0), (.int 1 0), (.int 0 0), (.int 0 0), (.int 0 0), (.int 0 0), (.int 0 0), (.int 8 0), (.int 4 0), (.int 0 0), (.int 1 0)]) 0), (Array.mk [])⟩
noncomputable def o49 (P : Params) : Obj := ⟨(.type "re.Pattern"), none, (.fields (Array.mk [(.str (S "[^\\w@%+=:,./-]") 332), (.int 256 369), (.int 0 0), .none, .none, (.ref 48), (.int 0 0)])), (Array.mk [])⟩
noncomputable def o50 (P : Params) : Obj := ⟨(.type "tuple"), none, (.seq (Array.mk []) 0), (Array.mk [])⟩
noncomputable def o51 (P : Params) : Obj := ⟨.none, none, (.fields (Array.mk [])), (Array.mk [])⟩
noncomputable def o52 (P : Params) : Obj := ⟨(.type "tuple"), none, (.seq (Array.mk [(.str (S "n") 376), (.str (S "what") 377)]) 0), (Array.mk [])⟩
noncomputable def o53 (P : Params) : Obj := ⟨(.type "tuple"), none, (.seq (Array.mk []) 0), (Array.mk [])⟩
noncomputable def o54 (P : Params) : Obj := ⟨.none, none, (.func (fnAt (tp 5) (S "_whence") (S "_whence") 0 [] .none .none .none .none none .none .none 0)), (Array.mk [])⟩
noncomputable def o55 (P : Params) : Obj := ⟨(.type "code"), none, (.fields (Array.mk [(.str (S "_whence") 373), (.str (S "_whence") 374), (.str (S "/claim/cut.py") 375), (.int 8 0), (.int 2 0), (.int 0 0), (.int 0 0), (.int 3 0), (.ref 50), (.bool true), (.int 318 0), (.ref 51), .none, (.ref 52), (.ref 53), (.ref 54), (.int 378 0), (.int 8 0), (.str (S "/claim/cut.py") 379)])), (Array.mk [])⟩
noncomputable def o56 (P : Params) : Obj := ⟨(.type "function"), none, (.func (fnAt (tp 5) (S "_whence") (S "_whence") 3 [] .none .none .none (.str (S "io") 371) none (.ref 55) .none 0)), (Array.mk [])⟩
noncomputable def o57 (P : Params) : Obj := ⟨(.type "tuple"), none, (.seq (Array.mk []) 0), (Array.mk [])⟩
noncomputable def o58 (P : Params) : Obj := ⟨.none, none, (.fields (Array.mk [])), (Array.mk [])⟩
noncomputable def o59 (P : Params) : Obj := ⟨(.type "tuple"), none, (.seq (Array.mk [(.str (S "n") 384), (.str (S "what") 385)]) 0), (Array.mk [])⟩
noncomputable def o60 (P : Params) : Obj := ⟨(.type "tuple"), none, (.seq (Array.mk []) 0), (Array.mk [])⟩
noncomputable def o61 (P : Params) : Obj := ⟨.none, none, (.func (fnAt (tp 6) (S "_index") (S "_index") 0 [] .none .none .none .none none .none .none 0)), (Array.mk [])⟩
noncomputable def o62 (P : Params) : Obj := ⟨(.type "code"), none, (.fields (Array.mk [(.str (S "_index") 381), (.str (S "_index") 382), (.str (S "/claim/cut.py") 383), (.int 13 0), (.int 2 0), (.int 0 0), (.int 0 0), (.int 3 0), (.ref 57), (.bool true), (.int 318 0), (.ref 58), .none, (.ref 59), (.ref 60), (.ref 61), (.int 386 0), (.int 13 0), (.str (S "/claim/cut.py") 387)])), (Array.mk [])⟩
noncomputable def o63 (P : Params) : Obj := ⟨(.type "function"), none, (.func (fnAt (tp 6) (S "_index") (S "_index") 3 [] .none .none .none (.str (S "io") 371) none (.ref 62) .none 0)), (Array.mk [])⟩
noncomputable def o64 (P : Params) : Obj := ⟨(.type "tuple"), none, (.seq (Array.mk [(.type "OSError"), (.type "ValueError")]) 0), (Array.mk [])⟩
noncomputable def o65 (P : Params) : Obj := ⟨(.type "builtin_function_or_method"), none, (.fields (Array.mk [(.builtin "type.__prepare__"), (.type "type")])), (Array.mk [])⟩
noncomputable def o66 (P : Params) : Obj := ⟨(.type "dict"), none, (.dict (Array.mk [E P "__module__" 396 (.str (S "io") 401), E P "__qualname__" 398 (.str (S "UnsupportedOperation") 397), E P "__firstlineno__" 400 (.int 20 399), E P "__static_attributes__" 403 (.ref 71)]) 4), (Array.mk [])⟩
noncomputable def o67 (P : Params) : Obj := ⟨(.type "tuple"), none, (.seq (Array.mk []) 0), (Array.mk [])⟩
noncomputable def o68 (P : Params) : Obj := ⟨.none, none, (.fields (Array.mk [])), (Array.mk [])⟩
noncomputable def o69 (P : Params) : Obj := ⟨(.type "code"), none, (.fields (Array.mk [(.str (S "UnsupportedOperation") 391), (.str (S "UnsupportedOperation") 392), (.str (S "/claim/cut.py") 393), (.int 20 0), (.int 0 0), (.int 0 0), (.int 0 0), (.int 0 0), (.ref 67), (.bool false), (.int 318 0), (.ref 68), .none, .none, .none, .none, (.int 394 0), (.int 20 0), (.str (S "/claim/cut.py") 395)])), (Array.mk [])⟩
noncomputable def o70 (P : Params) : Obj := ⟨(.type "frame"), none, .plain, (Array.mk [(some (.ref 69)), (some (.ref 3)), (some (.ref 66)), none, (some (.str (S "io") 371)), none, (some (.ref 0))])⟩
noncomputable def o71 (P : Params) : Obj := ⟨(.type "tuple"), none, (.seq (Array.mk []) 0), (Array.mk [])⟩
noncomputable def o72 (P : Params) : Obj := ⟨(.type "dict"), none, (.dict (Array.mk [E P "__module__" 396 (.str (S "io") 401), E P "__firstlineno__" 400 (.int 20 399), E P "__static_attributes__" 403 (.ref 71), E P "__weakref__" 405 (.ref 74), E P "__doc__" 406 .none]) 3), (Array.mk [])⟩
noncomputable def o73 (P : Params) : Obj := ⟨(.type "type"), none, (.cls { name := (S "UnsupportedOperation"), bases := [(.type "OSError"), (.type "ValueError")], mro := [(.ref 73), (.type "OSError"), (.type "ValueError"), (.type "Exception"), (.type "BaseException"), (.type "object")], ns := 72, qualname := (S "UnsupportedOperation"), hasDict := true, slotNames := [], subclasses := [], abstract := false, collection := none, hasDel := false }), (Array.mk [(some (.ref 64)), none, (some (.str (S "UnsupportedOperation") 389)), (some (.str (S "UnsupportedOperation") 397)), (some (.builtin "OSError.__new__")), (some (.bool true))])⟩
noncomputable def o74 (P : Params) : Obj := ⟨(.type "getset_descriptor"), none, (.fields (Array.mk [(.str (S "__weakref__") 404), (.ref 73), (.builtin "ExceptionGroup.__weakref__"), .none])), (Array.mk [])⟩
noncomputable def o75 (P : Params) : Obj := ⟨(.type "super"), none, (.fields (Array.mk [(.ref 73), (.ref 73), (.ref 73)])), (Array.mk [])⟩
noncomputable def o76 (P : Params) : Obj := ⟨(.type "builtin_function_or_method"), none, (.fields (Array.mk [(.builtin "object.__init_subclass__"), (.ref 73)])), (Array.mk [])⟩
noncomputable def o77 (P : Params) : Obj := ⟨(.type "tuple"), none, (.seq (Array.mk []) 0), (Array.mk [])⟩
noncomputable def o78 (P : Params) : Obj := ⟨(.type "builtin_function_or_method"), none, (.fields (Array.mk [(.builtin "type.__prepare__"), (.type "type")])), (Array.mk [])⟩
noncomputable def o79 (P : Params) : Obj := ⟨(.type "dict"), none, (.dict (Array.mk [E P "__module__" 418 (.str (S "io") 423), E P "__qualname__" 420 (.str (S "IOBase") 419), E P "__firstlineno__" 422 (.int 22 421), E P "__new__" 433 (.ref 90), E P "__static_attributes__" 434 (.ref 91)]) 5), (Array.mk [])⟩
noncomputable def o80 (P : Params) : Obj := ⟨(.type "tuple"), none, (.seq (Array.mk []) 0), (Array.mk [])⟩
noncomputable def o81 (P : Params) : Obj := ⟨.none, none, (.fields (Array.mk [(.int 25 0), (.int 4 0), (.ref 89)])), (Array.mk [])⟩
noncomputable def o82 (P : Params) : Obj := ⟨(.type "code"), none, (.fields (Array.mk [(.str (S "IOBase") 413), (.str (S "IOBase") 414), (.str (S "/claim/cut.py") 415), (.int 22 0), (.int 0 0), (.int 0 0), (.int 0 0), (.int 0 0), (.ref 80), (.bool false), (.int 318 0), (.ref 81), .none, .none, .none, .none, (.int 416 0), (.int 22 0), (.str (S "/claim/cut.py") 417)])), (Array.mk [])⟩
noncomputable def o83 (P : Params) : Obj := ⟨(.type "frame"), none, .plain, (Array.mk [(some (.ref 82)), (some (.ref 3)), (some (.ref 79)), none, (some (.str (S "io") 371)), none, (some (.ref 0))])⟩
noncomputable def o84 (P : Params) : Obj := ⟨(.type "tuple"), none, (.seq (Array.mk []) 0), (Array.mk [])⟩
noncomputable def o85 (P : Params) : Obj := ⟨.none, none, (.fields (Array.mk [])), (Array.mk [])⟩
noncomputable def o86 (P : Params) : Obj := ⟨(.type "tuple"), none, (.seq (Array.mk [(.str (S "cls") 428), (.str (S "args") 429), (.str (S "kwargs") 430)]) 0), (Array.mk [])⟩
noncomputable def o87 (P : Params) : Obj := ⟨(.type "tuple"), none, (.seq (Array.mk []) 0), (Array.mk [])⟩
noncomputable def o88 (P : Params) : Obj := ⟨.none, none, (.func (fnAt (cm 8 1) (S "__new__") (S "IOBase.__new__") 0 [] .none .none .none .none none .none .none 0)), (Array.mk [])⟩
noncomputable def o89 (P : Params) : Obj := ⟨(.type "code"), none, (.fields (Array.mk [(.str (S "__new__") 425), (.str (S "IOBase.__new__") 426), (.str (S "/claim/cut.py") 427), (.int 25 0), (.int 1 0), (.int 1 0), (.int 0 0), (.int 15 0), (.ref 84), (.bool true), (.int 318 0), (.ref 85), .none, (.ref 86), (.ref 87), (.ref 88), (.int 431 0), (.int 25 0), (.str (S "/claim/cut.py") 432)])), (Array.mk [])⟩
noncomputable def o90 (P : Params) : Obj := ⟨(.type "function"), none, (.func (fnAt (cm 8 1) (S "__new__") (S "IOBase.__new__") 3 [] .none .none .none (.str (S "io") 371) none (.ref 89) .none 0)), (Array.mk [])⟩
noncomputable def o91 (P : Params) : Obj := ⟨(.type "tuple"), none, (.seq (Array.mk []) 0), (Array.mk [])⟩
noncomputable def o92 (P : Params) : Obj := ⟨(.type "dict"), none, (.dict (Array.mk [E P "__module__" 418 (.str (S "io") 423), E P "__firstlineno__" 422 (.int 22 421), E P "__new__" 433 (.ref 94), E P "__static_attributes__" 434 (.ref 91), E P "__dict__" 437 (.ref 95), E P "__weakref__" 439 (.ref 96), E P "__doc__" 440 .none]) 4), (Array.mk [])⟩
noncomputable def o93 (P : Params) : Obj := ⟨(.type "type"), none, (.cls { name := (S "IOBase"), bases := [(.type "object")], mro := [(.ref 93), (.type "object")], ns := 92, qualname := (S "IOBase"), hasDict := true, slotNames := [], subclasses := [(.ref 108), (.ref 120)], abstract := false, collection := none, hasDel := false }), (Array.mk [none, none, (some (.str (S "IOBase") 411)), (some (.str (S "IOBase") 419)), (some .none), (some (.bool true))])⟩
noncomputable def o94 (P : Params) : Obj := ⟨(.type "staticmethod"), none, (.fields (Array.mk [(.ref 90)])), (Array.mk [])⟩
noncomputable def o95 (P : Params) : Obj := ⟨(.type "getset_descriptor"), none, (.fields (Array.mk [(.str (S "__dict__") 436), (.ref 93), (.builtin "function.__dict__"), (.builtin "function.__dict__#set")])), (Array.mk [])⟩
noncomputable def o96 (P : Params) : Obj := ⟨(.type "getset_descriptor"), none, (.fields (Array.mk [(.str (S "__weakref__") 438), (.ref 93), (.builtin "ExceptionGroup.__weakref__"), .none])), (Array.mk [])⟩
noncomputable def o97 (P : Params) : Obj := ⟨(.type "super"), none, (.fields (Array.mk [(.ref 93), (.ref 93), (.ref 93)])), (Array.mk [])⟩
noncomputable def o98 (P : Params) : Obj := ⟨(.type "builtin_function_or_method"), none, (.fields (Array.mk [(.builtin "object.__init_subclass__"), (.ref 93)])), (Array.mk [])⟩
noncomputable def o99 (P : Params) : Obj := ⟨(.type "tuple"), none, (.seq (Array.mk [(.ref 93)]) 0), (Array.mk [])⟩
noncomputable def o100 (P : Params) : Obj := ⟨(.type "builtin_function_or_method"), none, (.fields (Array.mk [(.builtin "type.__prepare__"), (.type "type")])), (Array.mk [])⟩
noncomputable def o101 (P : Params) : Obj := ⟨(.type "dict"), none, (.dict (Array.mk [E P "__module__" 450 (.str (S "io") 455), E P "__qualname__" 452 (.str (S "BufferedIOBase") 451), E P "__firstlineno__" 454 (.int 29 453), E P "__static_attributes__" 457 (.ref 106)]) 4), (Array.mk [])⟩
noncomputable def o102 (P : Params) : Obj := ⟨(.type "tuple"), none, (.seq (Array.mk []) 0), (Array.mk [])⟩
noncomputable def o103 (P : Params) : Obj := ⟨.none, none, (.fields (Array.mk [])), (Array.mk [])⟩
noncomputable def o104 (P : Params) : Obj := ⟨(.type "code"), none, (.fields (Array.mk [(.str (S "BufferedIOBase") 445), (.str (S "BufferedIOBase") 446), (.str (S "/claim/cut.py") 447), (.int 29 0), (.int 0 0), (.int 0 0), (.int 0 0), (.int 0 0), (.ref 102), (.bool false), (.int 318 0), (.ref 103), .none, .none, .none, .none, (.int 448 0), (.int 29 0), (.str (S "/claim/cut.py") 449)])), (Array.mk [])⟩
noncomputable def o105 (P : Params) : Obj := ⟨(.type "frame"), none, .plain, (Array.mk [(some (.ref 104)), (some (.ref 3)), (some (.ref 101)), none, (some (.str (S "io") 371)), none, (some (.ref 0))])⟩
noncomputable def o106 (P : Params) : Obj := ⟨(.type "tuple"), none, (.seq (Array.mk []) 0), (Array.mk [])⟩
noncomputable def o107 (P : Params) : Obj := ⟨(.type "dict"), none, (.dict (Array.mk [E P "__module__" 450 (.str (S "io") 455), E P "__firstlineno__" 454 (.int 29 453), E P "__static_attributes__" 457 (.ref 106), E P "__doc__" 458 .none]) 2), (Array.mk [])⟩
noncomputable def o108 (P : Params) : Obj := ⟨(.type "type"), none, (.cls { name := (S "BufferedIOBase"), bases := [(.ref 93)], mro := [(.ref 108), (.ref 93), (.type "object")], ns := 107, qualname := (S "BufferedIOBase"), hasDict := true, slotNames := [], subclasses := [(.ref 350)], abstract := false, collection := none, hasDel := false }), (Array.mk [(some (.ref 99)), none, (some (.str (S "BufferedIOBase") 443)), (some (.str (S "BufferedIOBase") 451)), (some .none), (some (.bool true))])⟩
noncomputable def o109 (P : Params) : Obj := ⟨(.type "super"), none, (.fields (Array.mk [(.ref 108), (.ref 108), (.ref 108)])), (Array.mk [])⟩
noncomputable def o110 (P : Params) : Obj := ⟨(.type "builtin_function_or_method"), none, (.fields (Array.mk [(.builtin "object.__init_subclass__"), (.ref 108)])), (Array.mk [])⟩
noncomputable def o111 (P : Params) : Obj := ⟨(.type "tuple"), none, (.seq (Array.mk [(.ref 93)]) 0), (Array.mk [])⟩
noncomputable def o112 (P : Params) : Obj := ⟨(.type "builtin_function_or_method"), none, (.fields (Array.mk [(.builtin "type.__prepare__"), (.type "type")])), (Array.mk [])⟩
noncomputable def o113 (P : Params) : Obj := ⟨(.type "dict"), none, (.dict (Array.mk [E P "__module__" 468 (.str (S "io") 473), E P "__qualname__" 470 (.str (S "TextIOBase") 469), E P "__firstlineno__" 472 (.int 31 471), E P "__static_attributes__" 475 (.ref 118)]) 4), (Array.mk [])⟩
noncomputable def o114 (P : Params) : Obj := ⟨(.type "tuple"), none, (.seq (Array.mk []) 0), (Array.mk [])⟩
noncomputable def o115 (P : Params) : Obj := ⟨.none, none, (.fields (Array.mk [])), (Array.mk [])⟩
noncomputable def o116 (P : Params) : Obj := ⟨(.type "code"), none, (.fields (Array.mk [(.str (S "TextIOBase") 463), (.str (S "TextIOBase") 464), (.str (S "/claim/cut.py") 465), (.int 31 0), (.int 0 0), (.int 0 0), (.int 0 0), (.int 0 0), (.ref 114), (.bool false), (.int 318 0), (.ref 115), .none, .none, .none, .none, (.int 466 0), (.int 31 0), (.str (S "/claim/cut.py") 467)])), (Array.mk [])⟩
noncomputable def o117 (P : Params) : Obj := ⟨(.type "frame"), none, .plain, (Array.mk [(some (.ref 116)), (some (.ref 3)), (some (.ref 113)), none, (some (.str (S "io") 371)), none, (some (.ref 0))])⟩
noncomputable def o118 (P : Params) : Obj := ⟨(.type "tuple"), none, (.seq (Array.mk []) 0), (Array.mk [])⟩
noncomputable def o119 (P : Params) : Obj := ⟨(.type "dict"), none, (.dict (Array.mk [E P "__module__" 468 (.str (S "io") 473), E P "__firstlineno__" 472 (.int 31 471), E P "__static_attributes__" 475 (.ref 118), E P "__doc__" 476 .none]) 2), (Array.mk [])⟩
noncomputable def o120 (P : Params) : Obj := ⟨(.type "type"), none, (.cls { name := (S "TextIOBase"), bases := [(.ref 93)], mro := [(.ref 120), (.ref 93), (.type "object")], ns := 119, qualname := (S "TextIOBase"), hasDict := true, slotNames := [], subclasses := [], abstract := false, collection := none, hasDel := false }), (Array.mk [(some (.ref 111)), none, (some (.str (S "TextIOBase") 461)), (some (.str (S "TextIOBase") 469)), (some .none), (some (.bool true))])⟩
noncomputable def o121 (P : Params) : Obj := ⟨(.type "super"), none, (.fields (Array.mk [(.ref 120), (.ref 120), (.ref 120)])), (Array.mk [])⟩
noncomputable def o122 (P : Params) : Obj := ⟨(.type "builtin_function_or_method"), none, (.fields (Array.mk [(.builtin "object.__init_subclass__"), (.ref 120)])), (Array.mk [])⟩
noncomputable def o123 (P : Params) : Obj := ⟨(.type "tuple"), none, (.seq (Array.mk [(.ref 108)]) 0), (Array.mk [])⟩
noncomputable def o124 (P : Params) : Obj := ⟨(.type "builtin_function_or_method"), none, (.fields (Array.mk [(.builtin "type.__prepare__"), (.type "type")])), (Array.mk [])⟩
noncomputable def o125 (P : Params) : Obj := ⟨(.type "dict"), none, (.dict (Array.mk [E P "__module__" 486 (.str (S "_io") 491), E P "__qualname__" 488 (.str (S "BytesIO") 487), E P "__firstlineno__" 490 (.int 33 489), E P "__init__" 500 (.ref 137), E P "_BytesIO__check" 507 (.ref 144), E P "_BytesIO__line" 518 (.ref 151), E P "closed" 526 (.ref 159), E P "close" 533 (.ref 166), E P "__enter__" 540 (.ref 173), E P "__exit__" 548 (.ref 180), E P "readable" 555 (.ref 187), E P "writable" 562 (.ref 194), E P "seekable" 569 (.ref 201), E P "isatty" 576 (.ref 208), E P "flush" 583 (.ref 215), E P "fileno" 590 (.ref 222), E P "detach" 597 (.ref 229), E P "getvalue" 604 (.ref 236), E P "getbuffer" 611 (.ref 243), E P "tell" 618 (.ref 250), E P "seek" 628 (.ref 258), E P "truncate" 636 (.ref 266), E P "read" 648 (.ref 274), E P "read1" 658 (.ref 282), E P "readinto" 668 (.ref 289), E P "readinto1" 676 (.ref 296), E P "readline" 686 (.ref 304), E P "readlines" 694 (.ref 312), E P "__iter__" 701 (.ref 319), E P "__next__" 709 (.ref 326), E P "write" 719 (.ref 333), E P "writelines" 727 (.ref 340), E P "__repr__" 734 (.ref 347), E P "__static_attributes__" 737 (.ref 348)]) 34), (Array.mk [])⟩
noncomputable def o126 (P : Params) : Obj := ⟨(.type "tuple"), none, (.seq (Array.mk []) 0), (Array.mk [])⟩
noncomputable def o127 (P : Params) : Obj := ⟨.none, none, (.fields (Array.mk [(.int 36 0), (.int 4 0), (.ref 136), (.int 42 0), (.int 4 0), (.ref 143), (.int 46 0), (.int 4 0), (.ref 150), (.int 60 0), (.int 4 0), (.ref 157), (.int 63 0), (.int 4 0), (.ref 165), (.int 66 0), (.int 4 0), (.ref 172), (.int 70 0), (.int 4 0), (.ref 179), (.int 73 0), (.int 4 0), (.ref 186), (.int 77 0), (.int 4 0), (.ref 193), (.int 81 0), (.int 4 0), (.ref 200), (.int 85 0), (.int 4 0), (.ref 207), (.int 89 0), (.int 4 0), (.ref 214), (.int 92 0), (.int 4 0), (.ref 221), (.int 95 0), (.int 4 0), (.ref 228), (.int 98 0), (.int 4 0), (.ref 235), (.int 101 0), (.int 4 0), (.ref 242), (.int 104 0), (.int 4 0), (.ref 249), (.int 108 0), (.int 4 0), (.ref 257), (.int 125 0), (.int 4 0), (.ref 265), (.int 128 0), (.int 4 0), (.ref 273), (.int 142 0), (.int 4 0), (.ref 281), (.int 145 0), (.int 4 0), (.ref 288), (.int 159 0), (.int 4 0), (.ref 295), (.int 162 0), (.int 4 0), (.ref 303), (.int 169 0), (.int 4 0), (.ref 311), (.int 172 0), (.int 4 0), (.ref 318), (.int 175 0), (.int 4 0), (.ref 325), (.int 182 0), (.int 4 0), (.ref 332), (.int 198 0), (.int 4 0), (.ref 339), (.int 201 0), (.int 4 0), (.ref 346)])), (Array.mk [])⟩
noncomputable def o128 (P : Params) : Obj := ⟨(.type "code"), none, (.fields (Array.mk [(.str (S "BytesIO") 481), (.str (S "BytesIO") 482), (.str (S "/claim/cut.py") 483), (.int 33 0), (.int 0 0), (.int 0 0), (.int 0 0), (.int 0 0), (.ref 126), (.bool false), (.int 318 0), (.ref 127), .none, .none, .none, .none, (.int 484 0), (.int 33 0), (.str (S "/claim/cut.py") 485)])), (Array.mk [])⟩
noncomputable def o129 (P : Params) : Obj := ⟨(.type "frame"), none, .plain, (Array.mk [(some (.ref 128)), (some (.ref 3)), (some (.ref 125)), none, (some (.str (S "io") 371)), none, (some (.ref 0))])⟩
noncomputable def o130 (P : Params) : Obj := ⟨(.type "tuple"), none, (.seq (Array.mk [.none]) 0), (Array.mk [])⟩
noncomputable def o131 (P : Params) : Obj := ⟨(.type "tuple"), none, (.seq (Array.mk []) 0), (Array.mk [])⟩
noncomputable def o132 (P : Params) : Obj := ⟨.none, none, (.fields (Array.mk [])), (Array.mk [])⟩
noncomputable def o133 (P : Params) : Obj := ⟨(.type "tuple"), none, (.seq (Array.mk [(.str (S "self") 496), (.str (S "initial_bytes") 497)]) 0), (Array.mk [])⟩
noncomputable def o134 (P : Params) : Obj := ⟨(.type "tuple"), none, (.seq (Array.mk []) 0), (Array.mk [])⟩
noncomputable def o135 (P : Params) : Obj := ⟨.none, none, (.func (fnAt (cm 11 1) (S "__init__") (S "BytesIO.__init__") 0 [] .none .none .none .none none .none .none 0)), (Array.mk [])⟩
noncomputable def o136 (P : Params) : Obj := ⟨(.type "code"), none, (.fields (Array.mk [(.str (S "__init__") 493), (.str (S "BytesIO.__init__") 494), (.str (S "/claim/cut.py") 495), (.int 36 0), (.int 2 0), (.int 0 0), (.int 0 0), (.int 3 0), (.ref 131), (.bool true), (.int 318 0), (.ref 132), .none, (.ref 133), (.ref 134), (.ref 135), (.int 498 0), (.int 36 0), (.str (S "/claim/cut.py") 499)])), (Array.mk [])⟩
noncomputable def o137 (P : Params) : Obj := ⟨(.type "function"), none, (.func (fnAt (cm 11 1) (S "__init__") (S "BytesIO.__init__") 3 [] (.ref 130) .none .none (.str (S "io") 371) none (.ref 136) .none 0)), (Array.mk [])⟩
noncomputable def o138 (P : Params) : Obj := ⟨(.type "tuple"), none, (.seq (Array.mk []) 0), (Array.mk [])⟩
noncomputable def o139 (P : Params) : Obj := ⟨.none, none, (.fields (Array.mk [])), (Array.mk [])⟩
noncomputable def o140 (P : Params) : Obj := ⟨(.type "tuple"), none, (.seq (Array.mk [(.str (S "self") 504)]) 0), (Array.mk [])⟩
noncomputable def o141 (P : Params) : Obj := ⟨(.type "tuple"), none, (.seq (Array.mk []) 0), (Array.mk [])⟩
noncomputable def o142 (P : Params) : Obj := ⟨.none, none, (.func (fnAt (cm 11 2) (S "__check") (S "BytesIO.__check") 0 [] .none .none .none .none none .none .none 0)), (Array.mk [])⟩
noncomputable def o143 (P : Params) : Obj := ⟨(.type "code"), none, (.fields (Array.mk [(.str (S "__check") 501), (.str (S "BytesIO.__check") 502), (.str (S "/claim/cut.py") 503), (.int 42 0), (.int 1 0), (.int 0 0), (.int 0 0), (.int 3 0), (.ref 138), (.bool true), (.int 318 0), (.ref 139), .none, (.ref 140), (.ref 141), (.ref 142), (.int 505 0), (.int 42 0), (.str (S "/claim/cut.py") 506)])), (Array.mk [])⟩
noncomputable def o144 (P : Params) : Obj := ⟨(.type "function"), none, (.func (fnAt (cm 11 2) (S "__check") (S "BytesIO.__check") 3 [] .none .none .none (.str (S "io") 371) none (.ref 143) .none 0)), (Array.mk [])⟩
noncomputable def o145 (P : Params) : Obj := ⟨(.type "tuple"), none, (.seq (Array.mk []) 0), (Array.mk [])⟩
noncomputable def o146 (P : Params) : Obj := ⟨.none, none, (.fields (Array.mk [])), (Array.mk [])⟩
noncomputable def o147 (P : Params) : Obj := ⟨(.type "tuple"), none, (.seq (Array.mk [(.str (S "self") 511), (.str (S "limit") 512), (.str (S "start") 513), (.str (S "stop") 514), (.str (S "i") 515)]) 0), (Array.mk [])⟩
noncomputable def o148 (P : Params) : Obj := ⟨(.type "tuple"), none, (.seq (Array.mk []) 0), (Array.mk [])⟩
noncomputable def o149 (P : Params) : Obj := ⟨.none, none, (.func (fnAt (cm 11 3) (S "__line") (S "BytesIO.__line") 0 [] .none .none .none .none none .none .none 0)), (Array.mk [])⟩
noncomputable def o150 (P : Params) : Obj := ⟨(.type "code"), none, (.fields (Array.mk [(.str (S "__line") 508), (.str (S "BytesIO.__line") 509), (.str (S "/claim/cut.py") 510), (.int 46 0), (.int 2 0), (.int 0 0), (.int 0 0), (.int 3 0), (.ref 145), (.bool true), (.int 318 0), (.ref 146), .none, (.ref 147), (.ref 148), (.ref 149), (.int 516 0), (.int 46 0), (.str (S "/claim/cut.py") 517)])), (Array.mk [])⟩
noncomputable def o151 (P : Params) : Obj := ⟨(.type "function"), none, (.func (fnAt (cm 11 3) (S "__line") (S "BytesIO.__line") 3 [] .none .none .none (.str (S "io") 371) none (.ref 150) .none 0)), (Array.mk [])⟩
noncomputable def o152 (P : Params) : Obj := ⟨(.type "tuple"), none, (.seq (Array.mk []) 0), (Array.mk [])⟩
noncomputable def o153 (P : Params) : Obj := ⟨.none, none, (.fields (Array.mk [])), (Array.mk [])⟩
noncomputable def o154 (P : Params) : Obj := ⟨(.type "tuple"), none, (.seq (Array.mk [(.str (S "self") 522)]) 0), (Array.mk [])⟩
noncomputable def o155 (P : Params) : Obj := ⟨(.type "tuple"), none, (.seq (Array.mk []) 0), (Array.mk [])⟩
noncomputable def o156 (P : Params) : Obj := ⟨.none, none, (.func (fnAt (cm 11 4) (S "closed") (S "BytesIO.closed") 0 [] .none .none .none .none none .none .none 0)), (Array.mk [])⟩
noncomputable def o157 (P : Params) : Obj := ⟨(.type "code"), none, (.fields (Array.mk [(.str (S "closed") 519), (.str (S "BytesIO.closed") 520), (.str (S "/claim/cut.py") 521), (.int 59 0), (.int 1 0), (.int 0 0), (.int 0 0), (.int 3 0), (.ref 152), (.bool true), (.int 318 0), (.ref 153), .none, (.ref 154), (.ref 155), (.ref 156), (.int 523 0), (.int 59 0), (.str (S "/claim/cut.py") 524)])), (Array.mk [])⟩
noncomputable def o158 (P : Params) : Obj := ⟨(.type "function"), none, (.func (fnAt (cm 11 4) (S "closed") (S "BytesIO.closed") 3 [] .none .none .none (.str (S "io") 371) none (.ref 157) .none 0)), (Array.mk [])⟩
noncomputable def o159 (P : Params) : Obj := ⟨(.type "property"), none, (.fields (Array.mk [(.ref 158), .none, .none, .none, (.str (S "closed") 526), (.bool false)])), (Array.mk [])⟩
noncomputable def o160 (P : Params) : Obj := ⟨(.type "tuple"), none, (.seq (Array.mk []) 0), (Array.mk [])⟩
noncomputable def o161 (P : Params) : Obj := ⟨.none, none, (.fields (Array.mk [])), (Array.mk [])⟩
noncomputable def o162 (P : Params) : Obj := ⟨(.type "tuple"), none, (.seq (Array.mk [(.str (S "self") 530)]) 0), (Array.mk [])⟩
noncomputable def o163 (P : Params) : Obj := ⟨(.type "tuple"), none, (.seq (Array.mk []) 0), (Array.mk [])⟩
noncomputable def o164 (P : Params) : Obj := ⟨.none, none, (.func (fnAt (cm 11 5) (S "close") (S "BytesIO.close") 0 [] .none .none .none .none none .none .none 0)), (Array.mk [])⟩
noncomputable def o165 (P : Params) : Obj := ⟨(.type "code"), none, (.fields (Array.mk [(.str (S "close") 527), (.str (S "BytesIO.close") 528), (.str (S "/claim/cut.py") 529), (.int 63 0), (.int 1 0), (.int 0 0), (.int 0 0), (.int 3 0), (.ref 160), (.bool true), (.int 318 0), (.ref 161), .none, (.ref 162), (.ref 163), (.ref 164), (.int 531 0), (.int 63 0), (.str (S "/claim/cut.py") 532)])), (Array.mk [])⟩
noncomputable def o166 (P : Params) : Obj := ⟨(.type "function"), none, (.func (fnAt (cm 11 5) (S "close") (S "BytesIO.close") 3 [] .none .none .none (.str (S "io") 371) none (.ref 165) .none 0)), (Array.mk [])⟩
noncomputable def o167 (P : Params) : Obj := ⟨(.type "tuple"), none, (.seq (Array.mk []) 0), (Array.mk [])⟩
noncomputable def o168 (P : Params) : Obj := ⟨.none, none, (.fields (Array.mk [])), (Array.mk [])⟩
noncomputable def o169 (P : Params) : Obj := ⟨(.type "tuple"), none, (.seq (Array.mk [(.str (S "self") 537)]) 0), (Array.mk [])⟩
noncomputable def o170 (P : Params) : Obj := ⟨(.type "tuple"), none, (.seq (Array.mk []) 0), (Array.mk [])⟩
noncomputable def o171 (P : Params) : Obj := ⟨.none, none, (.func (fnAt (cm 11 6) (S "__enter__") (S "BytesIO.__enter__") 0 [] .none .none .none .none none .none .none 0)), (Array.mk [])⟩
noncomputable def o172 (P : Params) : Obj := ⟨(.type "code"), none, (.fields (Array.mk [(.str (S "__enter__") 534), (.str (S "BytesIO.__enter__") 535), (.str (S "/claim/cut.py") 536), (.int 66 0), (.int 1 0), (.int 0 0), (.int 0 0), (.int 3 0), (.ref 167), (.bool true), (.int 318 0), (.ref 168), .none, (.ref 169), (.ref 170), (.ref 171), (.int 538 0), (.int 66 0), (.str (S "/claim/cut.py") 539)])), (Array.mk [])⟩
noncomputable def o173 (P : Params) : Obj := ⟨(.type "function"), none, (.func (fnAt (cm 11 6) (S "__enter__") (S "BytesIO.__enter__") 3 [] .none .none .none (.str (S "io") 371) none (.ref 172) .none 0)), (Array.mk [])⟩
noncomputable def o174 (P : Params) : Obj := ⟨(.type "tuple"), none, (.seq (Array.mk []) 0), (Array.mk [])⟩
noncomputable def o175 (P : Params) : Obj := ⟨.none, none, (.fields (Array.mk [])), (Array.mk [])⟩
noncomputable def o176 (P : Params) : Obj := ⟨(.type "tuple"), none, (.seq (Array.mk [(.str (S "self") 544), (.str (S "args") 545)]) 0), (Array.mk [])⟩
noncomputable def o177 (P : Params) : Obj := ⟨(.type "tuple"), none, (.seq (Array.mk []) 0), (Array.mk [])⟩
noncomputable def o178 (P : Params) : Obj := ⟨.none, none, (.func (fnAt (cm 11 7) (S "__exit__") (S "BytesIO.__exit__") 0 [] .none .none .none .none none .none .none 0)), (Array.mk [])⟩
noncomputable def o179 (P : Params) : Obj := ⟨(.type "code"), none, (.fields (Array.mk [(.str (S "__exit__") 541), (.str (S "BytesIO.__exit__") 542), (.str (S "/claim/cut.py") 543), (.int 70 0), (.int 1 0), (.int 0 0), (.int 0 0), (.int 7 0), (.ref 174), (.bool true), (.int 318 0), (.ref 175), .none, (.ref 176), (.ref 177), (.ref 178), (.int 546 0), (.int 70 0), (.str (S "/claim/cut.py") 547)])), (Array.mk [])⟩
noncomputable def o180 (P : Params) : Obj := ⟨(.type "function"), none, (.func (fnAt (cm 11 7) (S "__exit__") (S "BytesIO.__exit__") 3 [] .none .none .none (.str (S "io") 371) none (.ref 179) .none 0)), (Array.mk [])⟩
noncomputable def o181 (P : Params) : Obj := ⟨(.type "tuple"), none, (.seq (Array.mk []) 0), (Array.mk [])⟩
noncomputable def o182 (P : Params) : Obj := ⟨.none, none, (.fields (Array.mk [])), (Array.mk [])⟩
noncomputable def o183 (P : Params) : Obj := ⟨(.type "tuple"), none, (.seq (Array.mk [(.str (S "self") 552)]) 0), (Array.mk [])⟩
noncomputable def o184 (P : Params) : Obj := ⟨(.type "tuple"), none, (.seq (Array.mk []) 0), (Array.mk [])⟩
noncomputable def o185 (P : Params) : Obj := ⟨.none, none, (.func (fnAt (cm 11 8) (S "readable") (S "BytesIO.readable") 0 [] .none .none .none .none none .none .none 0)), (Array.mk [])⟩
noncomputable def o186 (P : Params) : Obj := ⟨(.type "code"), none, (.fields (Array.mk [(.str (S "readable") 549), (.str (S "BytesIO.readable") 550), (.str (S "/claim/cut.py") 551), (.int 73 0), (.int 1 0), (.int 0 0), (.int 0 0), (.int 3 0), (.ref 181), (.bool true), (.int 318 0), (.ref 182), .none, (.ref 183), (.ref 184), (.ref 185), (.int 553 0), (.int 73 0), (.str (S "/claim/cut.py") 554)])), (Array.mk [])⟩
noncomputable def o187 (P : Params) : Obj := ⟨(.type "function"), none, (.func (fnAt (cm 11 8) (S "readable") (S "BytesIO.readable") 3 [] .none .none .none (.str (S "io") 371) none (.ref 186) .none 0)), (Array.mk [])⟩
noncomputable def o188 (P : Params) : Obj := ⟨(.type "tuple"), none, (.seq (Array.mk []) 0), (Array.mk [])⟩
noncomputable def o189 (P : Params) : Obj := ⟨.none, none, (.fields (Array.mk [])), (Array.mk [])⟩
noncomputable def o190 (P : Params) : Obj := ⟨(.type "tuple"), none, (.seq (Array.mk [(.str (S "self") 559)]) 0), (Array.mk [])⟩
noncomputable def o191 (P : Params) : Obj := ⟨(.type "tuple"), none, (.seq (Array.mk []) 0), (Array.mk [])⟩
noncomputable def o192 (P : Params) : Obj := ⟨.none, none, (.func (fnAt (cm 11 9) (S "writable") (S "BytesIO.writable") 0 [] .none .none .none .none none .none .none 0)), (Array.mk [])⟩
noncomputable def o193 (P : Params) : Obj := ⟨(.type "code"), none, (.fields (Array.mk [(.str (S "writable") 556), (.str (S "BytesIO.writable") 557), (.str (S "/claim/cut.py") 558), (.int 77 0), (.int 1 0), (.int 0 0), (.int 0 0), (.int 3 0), (.ref 188), (.bool true), (.int 318 0), (.ref 189), .none, (.ref 190), (.ref 191), (.ref 192), (.int 560 0), (.int 77 0), (.str (S "/claim/cut.py") 561)])), (Array.mk [])⟩
noncomputable def o194 (P : Params) : Obj := ⟨(.type "function"), none, (.func (fnAt (cm 11 9) (S "writable") (S "BytesIO.writable") 3 [] .none .none .none (.str (S "io") 371) none (.ref 193) .none 0)), (Array.mk [])⟩
noncomputable def o195 (P : Params) : Obj := ⟨(.type "tuple"), none, (.seq (Array.mk []) 0), (Array.mk [])⟩
noncomputable def o196 (P : Params) : Obj := ⟨.none, none, (.fields (Array.mk [])), (Array.mk [])⟩
noncomputable def o197 (P : Params) : Obj := ⟨(.type "tuple"), none, (.seq (Array.mk [(.str (S "self") 566)]) 0), (Array.mk [])⟩
noncomputable def o198 (P : Params) : Obj := ⟨(.type "tuple"), none, (.seq (Array.mk []) 0), (Array.mk [])⟩
noncomputable def o199 (P : Params) : Obj := ⟨.none, none, (.func (fnAt (cm 11 10) (S "seekable") (S "BytesIO.seekable") 0 [] .none .none .none .none none .none .none 0)), (Array.mk [])⟩
noncomputable def o200 (P : Params) : Obj := ⟨(.type "code"), none, (.fields (Array.mk [(.str (S "seekable") 563), (.str (S "BytesIO.seekable") 564), (.str (S "/claim/cut.py") 565), (.int 81 0), (.int 1 0), (.int 0 0), (.int 0 0), (.int 3 0), (.ref 195), (.bool true), (.int 318 0), (.ref 196), .none, (.ref 197), (.ref 198), (.ref 199), (.int 567 0), (.int 81 0), (.str (S "/claim/cut.py") 568)])), (Array.mk [])⟩
noncomputable def o201 (P : Params) : Obj := ⟨(.type "function"), none, (.func (fnAt (cm 11 10) (S "seekable") (S "BytesIO.seekable") 3 [] .none .none .none (.str (S "io") 371) none (.ref 200) .none 0)), (Array.mk [])⟩
noncomputable def o202 (P : Params) : Obj := ⟨(.type "tuple"), none, (.seq (Array.mk []) 0), (Array.mk [])⟩
noncomputable def o203 (P : Params) : Obj := ⟨.none, none, (.fields (Array.mk [])), (Array.mk [])⟩
noncomputable def o204 (P : Params) : Obj := ⟨(.type "tuple"), none, (.seq (Array.mk [(.str (S "self") 573)]) 0), (Array.mk [])⟩
noncomputable def o205 (P : Params) : Obj := ⟨(.type "tuple"), none, (.seq (Array.mk []) 0), (Array.mk [])⟩
noncomputable def o206 (P : Params) : Obj := ⟨.none, none, (.func (fnAt (cm 11 11) (S "isatty") (S "BytesIO.isatty") 0 [] .none .none .none .none none .none .none 0)), (Array.mk [])⟩
noncomputable def o207 (P : Params) : Obj := ⟨(.type "code"), none, (.fields (Array.mk [(.str (S "isatty") 570), (.str (S "BytesIO.isatty") 571), (.str (S "/claim/cut.py") 572), (.int 85 0), (.int 1 0), (.int 0 0), (.int 0 0), (.int 3 0), (.ref 202), (.bool true), (.int 318 0), (.ref 203), .none, (.ref 204), (.ref 205), (.ref 206), (.int 574 0), (.int 85 0), (.str (S "/claim/cut.py") 575)])), (Array.mk [])⟩
noncomputable def o208 (P : Params) : Obj := ⟨(.type "function"), none, (.func (fnAt (cm 11 11) (S "isatty") (S "BytesIO.isatty") 3 [] .none .none .none (.str (S "io") 371) none (.ref 207) .none 0)), (Array.mk [])⟩
noncomputable def o209 (P : Params) : Obj := ⟨(.type "tuple"), none, (.seq (Array.mk []) 0), (Array.mk [])⟩
noncomputable def o210 (P : Params) : Obj := ⟨.none, none, (.fields (Array.mk [])), (Array.mk [])⟩
noncomputable def o211 (P : Params) : Obj := ⟨(.type "tuple"), none, (.seq (Array.mk [(.str (S "self") 580)]) 0), (Array.mk [])⟩
noncomputable def o212 (P : Params) : Obj := ⟨(.type "tuple"), none, (.seq (Array.mk []) 0), (Array.mk [])⟩
noncomputable def o213 (P : Params) : Obj := ⟨.none, none, (.func (fnAt (cm 11 12) (S "flush") (S "BytesIO.flush") 0 [] .none .none .none .none none .none .none 0)), (Array.mk [])⟩
noncomputable def o214 (P : Params) : Obj := ⟨(.type "code"), none, (.fields (Array.mk [(.str (S "flush") 577), (.str (S "BytesIO.flush") 578), (.str (S "/claim/cut.py") 579), (.int 89 0), (.int 1 0), (.int 0 0), (.int 0 0), (.int 3 0), (.ref 209), (.bool true), (.int 318 0), (.ref 210), .none, (.ref 211), (.ref 212), (.ref 213), (.int 581 0), (.int 89 0), (.str (S "/claim/cut.py") 582)])), (Array.mk [])⟩
noncomputable def o215 (P : Params) : Obj := ⟨(.type "function"), none, (.func (fnAt (cm 11 12) (S "flush") (S "BytesIO.flush") 3 [] .none .none .none (.str (S "io") 371) none (.ref 214) .none 0)), (Array.mk [])⟩
noncomputable def o216 (P : Params) : Obj := ⟨(.type "tuple"), none, (.seq (Array.mk []) 0), (Array.mk [])⟩
noncomputable def o217 (P : Params) : Obj := ⟨.none, none, (.fields (Array.mk [])), (Array.mk [])⟩
noncomputable def o218 (P : Params) : Obj := ⟨(.type "tuple"), none, (.seq (Array.mk [(.str (S "self") 587)]) 0), (Array.mk [])⟩
noncomputable def o219 (P : Params) : Obj := ⟨(.type "tuple"), none, (.seq (Array.mk []) 0), (Array.mk [])⟩
noncomputable def o220 (P : Params) : Obj := ⟨.none, none, (.func (fnAt (cm 11 13) (S "fileno") (S "BytesIO.fileno") 0 [] .none .none .none .none none .none .none 0)), (Array.mk [])⟩
noncomputable def o221 (P : Params) : Obj := ⟨(.type "code"), none, (.fields (Array.mk [(.str (S "fileno") 584), (.str (S "BytesIO.fileno") 585), (.str (S "/claim/cut.py") 586), (.int 92 0), (.int 1 0), (.int 0 0), (.int 0 0), (.int 3 0), (.ref 216), (.bool true), (.int 318 0), (.ref 217), .none, (.ref 218), (.ref 219), (.ref 220), (.int 588 0), (.int 92 0), (.str (S "/claim/cut.py") 589)])), (Array.mk [])⟩
noncomputable def o222 (P : Params) : Obj := ⟨(.type "function"), none, (.func (fnAt (cm 11 13) (S "fileno") (S "BytesIO.fileno") 3 [] .none .none .none (.str (S "io") 371) none (.ref 221) .none 0)), (Array.mk [])⟩
noncomputable def o223 (P : Params) : Obj := ⟨(.type "tuple"), none, (.seq (Array.mk []) 0), (Array.mk [])⟩
noncomputable def o224 (P : Params) : Obj := ⟨.none, none, (.fields (Array.mk [])), (Array.mk [])⟩
noncomputable def o225 (P : Params) : Obj := ⟨(.type "tuple"), none, (.seq (Array.mk [(.str (S "self") 594)]) 0), (Array.mk [])⟩
noncomputable def o226 (P : Params) : Obj := ⟨(.type "tuple"), none, (.seq (Array.mk []) 0), (Array.mk [])⟩
noncomputable def o227 (P : Params) : Obj := ⟨.none, none, (.func (fnAt (cm 11 14) (S "detach") (S "BytesIO.detach") 0 [] .none .none .none .none none .none .none 0)), (Array.mk [])⟩
noncomputable def o228 (P : Params) : Obj := ⟨(.type "code"), none, (.fields (Array.mk [(.str (S "detach") 591), (.str (S "BytesIO.detach") 592), (.str (S "/claim/cut.py") 593), (.int 95 0), (.int 1 0), (.int 0 0), (.int 0 0), (.int 3 0), (.ref 223), (.bool true), (.int 318 0), (.ref 224), .none, (.ref 225), (.ref 226), (.ref 227), (.int 595 0), (.int 95 0), (.str (S "/claim/cut.py") 596)])), (Array.mk [])⟩
noncomputable def o229 (P : Params) : Obj := ⟨(.type "function"), none, (.func (fnAt (cm 11 14) (S "detach") (S "BytesIO.detach") 3 [] .none .none .none (.str (S "io") 371) none (.ref 228) .none 0)), (Array.mk [])⟩
noncomputable def o230 (P : Params) : Obj := ⟨(.type "tuple"), none, (.seq (Array.mk []) 0), (Array.mk [])⟩
noncomputable def o231 (P : Params) : Obj := ⟨.none, none, (.fields (Array.mk [])), (Array.mk [])⟩
noncomputable def o232 (P : Params) : Obj := ⟨(.type "tuple"), none, (.seq (Array.mk [(.str (S "self") 601)]) 0), (Array.mk [])⟩
noncomputable def o233 (P : Params) : Obj := ⟨(.type "tuple"), none, (.seq (Array.mk []) 0), (Array.mk [])⟩
noncomputable def o234 (P : Params) : Obj := ⟨.none, none, (.func (fnAt (cm 11 15) (S "getvalue") (S "BytesIO.getvalue") 0 [] .none .none .none .none none .none .none 0)), (Array.mk [])⟩
noncomputable def o235 (P : Params) : Obj := ⟨(.type "code"), none, (.fields (Array.mk [(.str (S "getvalue") 598), (.str (S "BytesIO.getvalue") 599), (.str (S "/claim/cut.py") 600), (.int 98 0), (.int 1 0), (.int 0 0), (.int 0 0), (.int 3 0), (.ref 230), (.bool true), (.int 318 0), (.ref 231), .none, (.ref 232), (.ref 233), (.ref 234), (.int 602 0), (.int 98 0), (.str (S "/claim/cut.py") 603)])), (Array.mk [])⟩
noncomputable def o236 (P : Params) : Obj := ⟨(.type "function"), none, (.func (fnAt (cm 11 15) (S "getvalue") (S "BytesIO.getvalue") 3 [] .none .none .none (.str (S "io") 371) none (.ref 235) .none 0)), (Array.mk [])⟩
noncomputable def o237 (P : Params) : Obj := ⟨(.type "tuple"), none, (.seq (Array.mk []) 0), (Array.mk [])⟩
noncomputable def o238 (P : Params) : Obj := ⟨.none, none, (.fields (Array.mk [])), (Array.mk [])⟩
noncomputable def o239 (P : Params) : Obj := ⟨(.type "tuple"), none, (.seq (Array.mk [(.str (S "self") 608)]) 0), (Array.mk [])⟩
noncomputable def o240 (P : Params) : Obj := ⟨(.type "tuple"), none, (.seq (Array.mk []) 0), (Array.mk [])⟩
noncomputable def o241 (P : Params) : Obj := ⟨.none, none, (.func (fnAt (cm 11 16) (S "getbuffer") (S "BytesIO.getbuffer") 0 [] .none .none .none .none none .none .none 0)), (Array.mk [])⟩
noncomputable def o242 (P : Params) : Obj := ⟨(.type "code"), none, (.fields (Array.mk [(.str (S "getbuffer") 605), (.str (S "BytesIO.getbuffer") 606), (.str (S "/claim/cut.py") 607), (.int 101 0), (.int 1 0), (.int 0 0), (.int 0 0), (.int 3 0), (.ref 237), (.bool true), (.int 318 0), (.ref 238), .none, (.ref 239), (.ref 240), (.ref 241), (.int 609 0), (.int 101 0), (.str (S "/claim/cut.py") 610)])), (Array.mk [])⟩
noncomputable def o243 (P : Params) : Obj := ⟨(.type "function"), none, (.func (fnAt (cm 11 16) (S "getbuffer") (S "BytesIO.getbuffer") 3 [] .none .none .none (.str (S "io") 371) none (.ref 242) .none 0)), (Array.mk [])⟩
noncomputable def o244 (P : Params) : Obj := ⟨(.type "tuple"), none, (.seq (Array.mk []) 0), (Array.mk [])⟩
noncomputable def o245 (P : Params) : Obj := ⟨.none, none, (.fields (Array.mk [])), (Array.mk [])⟩
noncomputable def o246 (P : Params) : Obj := ⟨(.type "tuple"), none, (.seq (Array.mk [(.str (S "self") 615)]) 0), (Array.mk [])⟩
noncomputable def o247 (P : Params) : Obj := ⟨(.type "tuple"), none, (.seq (Array.mk []) 0), (Array.mk [])⟩
noncomputable def o248 (P : Params) : Obj := ⟨.none, none, (.func (fnAt (cm 11 17) (S "tell") (S "BytesIO.tell") 0 [] .none .none .none .none none .none .none 0)), (Array.mk [])⟩
noncomputable def o249 (P : Params) : Obj := ⟨(.type "code"), none, (.fields (Array.mk [(.str (S "tell") 612), (.str (S "BytesIO.tell") 613), (.str (S "/claim/cut.py") 614), (.int 104 0), (.int 1 0), (.int 0 0), (.int 0 0), (.int 3 0), (.ref 244), (.bool true), (.int 318 0), (.ref 245), .none, (.ref 246), (.ref 247), (.ref 248), (.int 616 0), (.int 104 0), (.str (S "/claim/cut.py") 617)])), (Array.mk [])⟩
noncomputable def o250 (P : Params) : Obj := ⟨(.type "function"), none, (.func (fnAt (cm 11 17) (S "tell") (S "BytesIO.tell") 3 [] .none .none .none (.str (S "io") 371) none (.ref 249) .none 0)), (Array.mk [])⟩
noncomputable def o251 (P : Params) : Obj := ⟨(.type "tuple"), none, (.seq (Array.mk [(.int 0 619)]) 0), (Array.mk [])⟩
noncomputable def o252 (P : Params) : Obj := ⟨(.type "tuple"), none, (.seq (Array.mk []) 0), (Array.mk [])⟩
noncomputable def o253 (P : Params) : Obj := ⟨.none, none, (.fields (Array.mk [])), (Array.mk [])⟩
noncomputable def o254 (P : Params) : Obj := ⟨(.type "tuple"), none, (.seq (Array.mk [(.str (S "self") 623), (.str (S "pos") 624), (.str (S "whence") 625)]) 0), (Array.mk [])⟩
noncomputable def o255 (P : Params) : Obj := ⟨(.type "tuple"), none, (.seq (Array.mk []) 0), (Array.mk [])⟩
noncomputable def o256 (P : Params) : Obj := ⟨.none, none, (.func (fnAt (cm 11 18) (S "seek") (S "BytesIO.seek") 0 [] .none .none .none .none none .none .none 0)), (Array.mk [])⟩
noncomputable def o257 (P : Params) : Obj := ⟨(.type "code"), none, (.fields (Array.mk [(.str (S "seek") 620), (.str (S "BytesIO.seek") 621), (.str (S "/claim/cut.py") 622), (.int 108 0), (.int 3 0), (.int 3 0), (.int 0 0), (.int 3 0), (.ref 252), (.bool true), (.int 318 0), (.ref 253), .none, (.ref 254), (.ref 255), (.ref 256), (.int 626 0), (.int 108 0), (.str (S "/claim/cut.py") 627)])), (Array.mk [])⟩
noncomputable def o258 (P : Params) : Obj := ⟨(.type "function"), none, (.func (fnAt (cm 11 18) (S "seek") (S "BytesIO.seek") 3 [] (.ref 251) .none .none (.str (S "io") 371) none (.ref 257) .none 0)), (Array.mk [])⟩
noncomputable def o259 (P : Params) : Obj := ⟨(.type "tuple"), none, (.seq (Array.mk [.none]) 0), (Array.mk [])⟩
noncomputable def o260 (P : Params) : Obj := ⟨(.type "tuple"), none, (.seq (Array.mk []) 0), (Array.mk [])⟩
noncomputable def o261 (P : Params) : Obj := ⟨.none, none, (.fields (Array.mk [])), (Array.mk [])⟩
noncomputable def o262 (P : Params) : Obj := ⟨(.type "tuple"), none, (.seq (Array.mk [(.str (S "self") 632), (.str (S "size") 633)]) 0), (Array.mk [])⟩
noncomputable def o263 (P : Params) : Obj := ⟨(.type "tuple"), none, (.seq (Array.mk []) 0), (Array.mk [])⟩
noncomputable def o264 (P : Params) : Obj := ⟨.none, none, (.func (fnAt (cm 11 19) (S "truncate") (S "BytesIO.truncate") 0 [] .none .none .none .none none .none .none 0)), (Array.mk [])⟩
noncomputable def o265 (P : Params) : Obj := ⟨(.type "code"), none, (.fields (Array.mk [(.str (S "truncate") 629), (.str (S "BytesIO.truncate") 630), (.str (S "/claim/cut.py") 631), (.int 125 0), (.int 2 0), (.int 2 0), (.int 0 0), (.int 3 0), (.ref 260), (.bool true), (.int 318 0), (.ref 261), .none, (.ref 262), (.ref 263), (.ref 264), (.int 634 0), (.int 125 0), (.str (S "/claim/cut.py") 635)])), (Array.mk [])⟩
noncomputable def o266 (P : Params) : Obj := ⟨(.type "function"), none, (.func (fnAt (cm 11 19) (S "truncate") (S "BytesIO.truncate") 3 [] (.ref 259) .none .none (.str (S "io") 371) none (.ref 265) .none 0)), (Array.mk [])⟩
noncomputable def o267 (P : Params) : Obj := ⟨(.type "tuple"), none, (.seq (Array.mk [(.int (-1) 638)]) 0), (Array.mk [])⟩
noncomputable def o268 (P : Params) : Obj := ⟨(.type "tuple"), none, (.seq (Array.mk []) 0), (Array.mk [])⟩
noncomputable def o269 (P : Params) : Obj := ⟨.none, none, (.fields (Array.mk [])), (Array.mk [])⟩
noncomputable def o270 (P : Params) : Obj := ⟨(.type "tuple"), none, (.seq (Array.mk [(.str (S "self") 642), (.str (S "size") 643), (.str (S "start") 644), (.str (S "stop") 645)]) 0), (Array.mk [])⟩
noncomputable def o271 (P : Params) : Obj := ⟨(.type "tuple"), none, (.seq (Array.mk []) 0), (Array.mk [])⟩
noncomputable def o272 (P : Params) : Obj := ⟨.none, none, (.func (fnAt (cm 11 20) (S "read") (S "BytesIO.read") 0 [] .none .none .none .none none .none .none 0)), (Array.mk [])⟩
noncomputable def o273 (P : Params) : Obj := ⟨(.type "code"), none, (.fields (Array.mk [(.str (S "read") 639), (.str (S "BytesIO.read") 640), (.str (S "/claim/cut.py") 641), (.int 128 0), (.int 2 0), (.int 2 0), (.int 0 0), (.int 3 0), (.ref 268), (.bool true), (.int 318 0), (.ref 269), .none, (.ref 270), (.ref 271), (.ref 272), (.int 646 0), (.int 128 0), (.str (S "/claim/cut.py") 647)])), (Array.mk [])⟩
noncomputable def o274 (P : Params) : Obj := ⟨(.type "function"), none, (.func (fnAt (cm 11 20) (S "read") (S "BytesIO.read") 3 [] (.ref 267) .none .none (.str (S "io") 371) none (.ref 273) .none 0)), (Array.mk [])⟩
noncomputable def o275 (P : Params) : Obj := ⟨(.type "tuple"), none, (.seq (Array.mk [(.int (-1) 650)]) 0), (Array.mk [])⟩
noncomputable def o276 (P : Params) : Obj := ⟨(.type "tuple"), none, (.seq (Array.mk []) 0), (Array.mk [])⟩
noncomputable def o277 (P : Params) : Obj := ⟨.none, none, (.fields (Array.mk [])), (Array.mk [])⟩
noncomputable def o278 (P : Params) : Obj := ⟨(.type "tuple"), none, (.seq (Array.mk [(.str (S "self") 654), (.str (S "size") 655)]) 0), (Array.mk [])⟩
noncomputable def o279 (P : Params) : Obj := ⟨(.type "tuple"), none, (.seq (Array.mk []) 0), (Array.mk [])⟩
noncomputable def o280 (P : Params) : Obj := ⟨.none, none, (.func (fnAt (cm 11 21) (S "read1") (S "BytesIO.read1") 0 [] .none .none .none .none none .none .none 0)), (Array.mk [])⟩
noncomputable def o281 (P : Params) : Obj := ⟨(.type "code"), none, (.fields (Array.mk [(.str (S "read1") 651), (.str (S "BytesIO.read1") 652), (.str (S "/claim/cut.py") 653), (.int 142 0), (.int 2 0), (.int 2 0), (.int 0 0), (.int 3 0), (.ref 276), (.bool true), (.int 318 0), (.ref 277), .none, (.ref 278), (.ref 279), (.ref 280), (.int 656 0), (.int 142 0), (.str (S "/claim/cut.py") 657)])), (Array.mk [])⟩
noncomputable def o282 (P : Params) : Obj := ⟨(.type "function"), none, (.func (fnAt (cm 11 21) (S "read1") (S "BytesIO.read1") 3 [] (.ref 275) .none .none (.str (S "io") 371) none (.ref 281) .none 0)), (Array.mk [])⟩
noncomputable def o283 (P : Params) : Obj := ⟨(.type "tuple"), none, (.seq (Array.mk []) 0), (Array.mk [])⟩
noncomputable def o284 (P : Params) : Obj := ⟨.none, none, (.fields (Array.mk [])), (Array.mk [])⟩
noncomputable def o285 (P : Params) : Obj := ⟨(.type "tuple"), none, (.seq (Array.mk [(.str (S "self") 662), (.str (S "buffer") 663), (.str (S "start") 664), (.str (S "n") 665)]) 0), (Array.mk [])⟩
noncomputable def o286 (P : Params) : Obj := ⟨(.type "tuple"), none, (.seq (Array.mk []) 0), (Array.mk [])⟩
noncomputable def o287 (P : Params) : Obj := ⟨.none, none, (.func (fnAt (cm 11 22) (S "readinto") (S "BytesIO.readinto") 0 [] .none .none .none .none none .none .none 0)), (Array.mk [])⟩
noncomputable def o288 (P : Params) : Obj := ⟨(.type "code"), none, (.fields (Array.mk [(.str (S "readinto") 659), (.str (S "BytesIO.readinto") 660), (.str (S "/claim/cut.py") 661), (.int 145 0), (.int 2 0), (.int 2 0), (.int 0 0), (.int 3 0), (.ref 283), (.bool true), (.int 318 0), (.ref 284), .none, (.ref 285), (.ref 286), (.ref 287), (.int 666 0), (.int 145 0), (.str (S "/claim/cut.py") 667)])), (Array.mk [])⟩
noncomputable def o289 (P : Params) : Obj := ⟨(.type "function"), none, (.func (fnAt (cm 11 22) (S "readinto") (S "BytesIO.readinto") 3 [] .none .none .none (.str (S "io") 371) none (.ref 288) .none 0)), (Array.mk [])⟩
noncomputable def o290 (P : Params) : Obj := ⟨(.type "tuple"), none, (.seq (Array.mk []) 0), (Array.mk [])⟩
noncomputable def o291 (P : Params) : Obj := ⟨.none, none, (.fields (Array.mk [])), (Array.mk [])⟩
noncomputable def o292 (P : Params) : Obj := ⟨(.type "tuple"), none, (.seq (Array.mk [(.str (S "self") 672), (.str (S "buffer") 673)]) 0), (Array.mk [])⟩
noncomputable def o293 (P : Params) : Obj := ⟨(.type "tuple"), none, (.seq (Array.mk []) 0), (Array.mk [])⟩
noncomputable def o294 (P : Params) : Obj := ⟨.none, none, (.func (fnAt (cm 11 23) (S "readinto1") (S "BytesIO.readinto1") 0 [] .none .none .none .none none .none .none 0)), (Array.mk [])⟩
noncomputable def o295 (P : Params) : Obj := ⟨(.type "code"), none, (.fields (Array.mk [(.str (S "readinto1") 669), (.str (S "BytesIO.readinto1") 670), (.str (S "/claim/cut.py") 671), (.int 159 0), (.int 2 0), (.int 2 0), (.int 0 0), (.int 3 0), (.ref 290), (.bool true), (.int 318 0), (.ref 291), .none, (.ref 292), (.ref 293), (.ref 294), (.int 674 0), (.int 159 0), (.str (S "/claim/cut.py") 675)])), (Array.mk [])⟩
noncomputable def o296 (P : Params) : Obj := ⟨(.type "function"), none, (.func (fnAt (cm 11 23) (S "readinto1") (S "BytesIO.readinto1") 3 [] .none .none .none (.str (S "io") 371) none (.ref 295) .none 0)), (Array.mk [])⟩
noncomputable def o297 (P : Params) : Obj := ⟨(.type "tuple"), none, (.seq (Array.mk [(.int (-1) 678)]) 0), (Array.mk [])⟩
noncomputable def o298 (P : Params) : Obj := ⟨(.type "tuple"), none, (.seq (Array.mk []) 0), (Array.mk [])⟩
noncomputable def o299 (P : Params) : Obj := ⟨.none, none, (.fields (Array.mk [])), (Array.mk [])⟩
noncomputable def o300 (P : Params) : Obj := ⟨(.type "tuple"), none, (.seq (Array.mk [(.str (S "self") 682), (.str (S "size") 683)]) 0), (Array.mk [])⟩
noncomputable def o301 (P : Params) : Obj := ⟨(.type "tuple"), none, (.seq (Array.mk []) 0), (Array.mk [])⟩
noncomputable def o302 (P : Params) : Obj := ⟨.none, none, (.func (fnAt (cm 11 24) (S "readline") (S "BytesIO.readline") 0 [] .none .none .none .none none .none .none 0)), (Array.mk [])⟩
noncomputable def o303 (P : Params) : Obj := ⟨(.type "code"), none, (.fields (Array.mk [(.str (S "readline") 679), (.str (S "BytesIO.readline") 680), (.str (S "/claim/cut.py") 681), (.int 162 0), (.int 2 0), (.int 2 0), (.int 0 0), (.int 3 0), (.ref 298), (.bool true), (.int 318 0), (.ref 299), .none, (.ref 300), (.ref 301), (.ref 302), (.int 684 0), (.int 162 0), (.str (S "/claim/cut.py") 685)])), (Array.mk [])⟩
noncomputable def o304 (P : Params) : Obj := ⟨(.type "function"), none, (.func (fnAt (cm 11 24) (S "readline") (S "BytesIO.readline") 3 [] (.ref 297) .none .none (.str (S "io") 371) none (.ref 303) .none 0)), (Array.mk [])⟩
noncomputable def o305 (P : Params) : Obj := ⟨(.type "tuple"), none, (.seq (Array.mk [.none]) 0), (Array.mk [])⟩
noncomputable def o306 (P : Params) : Obj := ⟨(.type "tuple"), none, (.seq (Array.mk []) 0), (Array.mk [])⟩
noncomputable def o307 (P : Params) : Obj := ⟨.none, none, (.fields (Array.mk [])), (Array.mk [])⟩
noncomputable def o308 (P : Params) : Obj := ⟨(.type "tuple"), none, (.seq (Array.mk [(.str (S "self") 690), (.str (S "size") 691)]) 0), (Array.mk [])⟩
noncomputable def o309 (P : Params) : Obj := ⟨(.type "tuple"), none, (.seq (Array.mk []) 0), (Array.mk [])⟩
noncomputable def o310 (P : Params) : Obj := ⟨.none, none, (.func (fnAt (cm 11 25) (S "readlines") (S "BytesIO.readlines") 0 [] .none .none .none .none none .none .none 0)), (Array.mk [])⟩
noncomputable def o311 (P : Params) : Obj := ⟨(.type "code"), none, (.fields (Array.mk [(.str (S "readlines") 687), (.str (S "BytesIO.readlines") 688), (.str (S "/claim/cut.py") 689), (.int 169 0), (.int 2 0), (.int 2 0), (.int 0 0), (.int 3 0), (.ref 306), (.bool true), (.int 318 0), (.ref 307), .none, (.ref 308), (.ref 309), (.ref 310), (.int 692 0), (.int 169 0), (.str (S "/claim/cut.py") 693)])), (Array.mk [])⟩
noncomputable def o312 (P : Params) : Obj := ⟨(.type "function"), none, (.func (fnAt (cm 11 25) (S "readlines") (S "BytesIO.readlines") 3 [] (.ref 305) .none .none (.str (S "io") 371) none (.ref 311) .none 0)), (Array.mk [])⟩
noncomputable def o313 (P : Params) : Obj := ⟨(.type "tuple"), none, (.seq (Array.mk []) 0), (Array.mk [])⟩
noncomputable def o314 (P : Params) : Obj := ⟨.none, none, (.fields (Array.mk [])), (Array.mk [])⟩
noncomputable def o315 (P : Params) : Obj := ⟨(.type "tuple"), none, (.seq (Array.mk [(.str (S "self") 698)]) 0), (Array.mk [])⟩
noncomputable def o316 (P : Params) : Obj := ⟨(.type "tuple"), none, (.seq (Array.mk []) 0), (Array.mk [])⟩
noncomputable def o317 (P : Params) : Obj := ⟨.none, none, (.func (fnAt (cm 11 26) (S "__iter__") (S "BytesIO.__iter__") 0 [] .none .none .none .none none .none .none 0)), (Array.mk [])⟩
noncomputable def o318 (P : Params) : Obj := ⟨(.type "code"), none, (.fields (Array.mk [(.str (S "__iter__") 695), (.str (S "BytesIO.__iter__") 696), (.str (S "/claim/cut.py") 697), (.int 172 0), (.int 1 0), (.int 0 0), (.int 0 0), (.int 3 0), (.ref 313), (.bool true), (.int 318 0), (.ref 314), .none, (.ref 315), (.ref 316), (.ref 317), (.int 699 0), (.int 172 0), (.str (S "/claim/cut.py") 700)])), (Array.mk [])⟩
noncomputable def o319 (P : Params) : Obj := ⟨(.type "function"), none, (.func (fnAt (cm 11 26) (S "__iter__") (S "BytesIO.__iter__") 3 [] .none .none .none (.str (S "io") 371) none (.ref 318) .none 0)), (Array.mk [])⟩
noncomputable def o320 (P : Params) : Obj := ⟨(.type "tuple"), none, (.seq (Array.mk []) 0), (Array.mk [])⟩
noncomputable def o321 (P : Params) : Obj := ⟨.none, none, (.fields (Array.mk [])), (Array.mk [])⟩
noncomputable def o322 (P : Params) : Obj := ⟨(.type "tuple"), none, (.seq (Array.mk [(.str (S "self") 705), (.str (S "line") 706)]) 0), (Array.mk [])⟩
noncomputable def o323 (P : Params) : Obj := ⟨(.type "tuple"), none, (.seq (Array.mk []) 0), (Array.mk [])⟩
noncomputable def o324 (P : Params) : Obj := ⟨.none, none, (.func (fnAt (cm 11 27) (S "__next__") (S "BytesIO.__next__") 0 [] .none .none .none .none none .none .none 0)), (Array.mk [])⟩
noncomputable def o325 (P : Params) : Obj := ⟨(.type "code"), none, (.fields (Array.mk [(.str (S "__next__") 702), (.str (S "BytesIO.__next__") 703), (.str (S "/claim/cut.py") 704), (.int 175 0), (.int 1 0), (.int 0 0), (.int 0 0), (.int 3 0), (.ref 320), (.bool true), (.int 318 0), (.ref 321), .none, (.ref 322), (.ref 323), (.ref 324), (.int 707 0), (.int 175 0), (.str (S "/claim/cut.py") 708)])), (Array.mk [])⟩
noncomputable def o326 (P : Params) : Obj := ⟨(.type "function"), none, (.func (fnAt (cm 11 27) (S "__next__") (S "BytesIO.__next__") 3 [] .none .none .none (.str (S "io") 371) none (.ref 325) .none 0)), (Array.mk [])⟩
noncomputable def o327 (P : Params) : Obj := ⟨(.type "tuple"), none, (.seq (Array.mk []) 0), (Array.mk [])⟩
noncomputable def o328 (P : Params) : Obj := ⟨.none, none, (.fields (Array.mk [])), (Array.mk [])⟩
noncomputable def o329 (P : Params) : Obj := ⟨(.type "tuple"), none, (.seq (Array.mk [(.str (S "self") 713), (.str (S "b") 714), (.str (S "n") 715), (.str (S "start") 716)]) 0), (Array.mk [])⟩
noncomputable def o330 (P : Params) : Obj := ⟨(.type "tuple"), none, (.seq (Array.mk []) 0), (Array.mk [])⟩
noncomputable def o331 (P : Params) : Obj := ⟨.none, none, (.func (fnAt (cm 11 28) (S "write") (S "BytesIO.write") 0 [] .none .none .none .none none .none .none 0)), (Array.mk [])⟩
noncomputable def o332 (P : Params) : Obj := ⟨(.type "code"), none, (.fields (Array.mk [(.str (S "write") 710), (.str (S "BytesIO.write") 711), (.str (S "/claim/cut.py") 712), (.int 182 0), (.int 2 0), (.int 2 0), (.int 0 0), (.int 3 0), (.ref 327), (.bool true), (.int 318 0), (.ref 328), .none, (.ref 329), (.ref 330), (.ref 331), (.int 717 0), (.int 182 0), (.str (S "/claim/cut.py") 718)])), (Array.mk [])⟩
noncomputable def o333 (P : Params) : Obj := ⟨(.type "function"), none, (.func (fnAt (cm 11 28) (S "write") (S "BytesIO.write") 3 [] .none .none .none (.str (S "io") 371) none (.ref 332) .none 0)), (Array.mk [])⟩
noncomputable def o334 (P : Params) : Obj := ⟨(.type "tuple"), none, (.seq (Array.mk []) 0), (Array.mk [])⟩
noncomputable def o335 (P : Params) : Obj := ⟨.none, none, (.fields (Array.mk [])), (Array.mk [])⟩
noncomputable def o336 (P : Params) : Obj := ⟨(.type "tuple"), none, (.seq (Array.mk [(.str (S "self") 723), (.str (S "lines") 724)]) 0), (Array.mk [])⟩
noncomputable def o337 (P : Params) : Obj := ⟨(.type "tuple"), none, (.seq (Array.mk []) 0), (Array.mk [])⟩
noncomputable def o338 (P : Params) : Obj := ⟨.none, none, (.func (fnAt (cm 11 29) (S "writelines") (S "BytesIO.writelines") 0 [] .none .none .none .none none .none .none 0)), (Array.mk [])⟩
noncomputable def o339 (P : Params) : Obj := ⟨(.type "code"), none, (.fields (Array.mk [(.str (S "writelines") 720), (.str (S "BytesIO.writelines") 721), (.str (S "/claim/cut.py") 722), (.int 198 0), (.int 2 0), (.int 2 0), (.int 0 0), (.int 3 0), (.ref 334), (.bool true), (.int 318 0), (.ref 335), .none, (.ref 336), (.ref 337), (.ref 338), (.int 725 0), (.int 198 0), (.str (S "/claim/cut.py") 726)])), (Array.mk [])⟩
noncomputable def o340 (P : Params) : Obj := ⟨(.type "function"), none, (.func (fnAt (cm 11 29) (S "writelines") (S "BytesIO.writelines") 3 [] .none .none .none (.str (S "io") 371) none (.ref 339) .none 0)), (Array.mk [])⟩
noncomputable def o341 (P : Params) : Obj := ⟨(.type "tuple"), none, (.seq (Array.mk []) 0), (Array.mk [])⟩
noncomputable def o342 (P : Params) : Obj := ⟨.none, none, (.fields (Array.mk [])), (Array.mk [])⟩
noncomputable def o343 (P : Params) : Obj := ⟨(.type "tuple"), none, (.seq (Array.mk [(.str (S "self") 731)]) 0), (Array.mk [])⟩
noncomputable def o344 (P : Params) : Obj := ⟨(.type "tuple"), none, (.seq (Array.mk []) 0), (Array.mk [])⟩
noncomputable def o345 (P : Params) : Obj := ⟨.none, none, (.func (fnAt (cm 11 30) (S "__repr__") (S "BytesIO.__repr__") 0 [] .none .none .none .none none .none .none 0)), (Array.mk [])⟩
noncomputable def o346 (P : Params) : Obj := ⟨(.type "code"), none, (.fields (Array.mk [(.str (S "__repr__") 728), (.str (S "BytesIO.__repr__") 729), (.str (S "/claim/cut.py") 730), (.int 201 0), (.int 1 0), (.int 0 0), (.int 0 0), (.int 3 0), (.ref 341), (.bool true), (.int 318 0), (.ref 342), .none, (.ref 343), (.ref 344), (.ref 345), (.int 732 0), (.int 201 0), (.str (S "/claim/cut.py") 733)])), (Array.mk [])⟩
noncomputable def o347 (P : Params) : Obj := ⟨(.type "function"), none, (.func (fnAt (cm 11 30) (S "__repr__") (S "BytesIO.__repr__") 3 [] .none .none .none (.str (S "io") 371) none (.ref 346) .none 0)), (Array.mk [])⟩
noncomputable def o348 (P : Params) : Obj := ⟨(.type "tuple"), none, (.seq (Array.mk [(.str (S "__buf") 735), (.str (S "__pos") 736)]) 0), (Array.mk [])⟩
noncomputable def o349 (P : Params) : Obj := ⟨(.type "dict"), none, (.dict (Array.mk [E P "__module__" 486 (.str (S "_io") 491), E P "__firstlineno__" 490 (.int 33 489), E P "__init__" 500 (.ref 137), E P "_BytesIO__check" 507 (.ref 144), E P "_BytesIO__line" 518 (.ref 151), E P "closed" 526 (.ref 159), E P "close" 533 (.ref 166), E P "__enter__" 540 (.ref 173), E P "__exit__" 548 (.ref 180), E P "readable" 555 (.ref 187), E P "writable" 562 (.ref 194), E P "seekable" 569 (.ref 201), E P "isatty" 576 (.ref 208), E P "flush" 583 (.ref 215), E P "fileno" 590 (.ref 222), E P "detach" 597 (.ref 229), E P "getvalue" 604 (.ref 236), E P "getbuffer" 611 (.ref 243), E P "tell" 618 (.ref 250), E P "seek" 628 (.ref 258), E P "truncate" 636 (.ref 266), E P "read" 648 (.ref 274), E P "read1" 658 (.ref 282), E P "readinto" 668 (.ref 289), E P "readinto1" 676 (.ref 296), E P "readline" 686 (.ref 304), E P "readlines" 694 (.ref 312), E P "__iter__" 701 (.ref 319), E P "__next__" 709 (.ref 326), E P "write" 719 (.ref 333), E P "writelines" 727 (.ref 340), E P "__repr__" 734 (.ref 347), E P "__static_attributes__" 737 (.ref 348), E P "__doc__" 738 .none]) 2), (Array.mk [])⟩
noncomputable def o350 (P : Params) : Obj := ⟨(.type "type"), none, (.cls { name := (S "BytesIO"), bases := [(.ref 108)], mro := [(.ref 350), (.ref 108), (.ref 93), (.type "object")], ns := 349, qualname := (S "BytesIO"), hasDict := true, slotNames := [], subclasses := [], abstract := false, collection := none, hasDel := false }), (Array.mk [(some (.ref 123)), none, (some (.str (S "BytesIO") 479)), (some (.str (S "BytesIO") 487)), (some .none), (some (.bool true))])⟩
noncomputable def o351 (P : Params) : Obj := ⟨(.type "super"), none, (.fields (Array.mk [(.ref 350), (.ref 350), (.ref 350)])), (Array.mk [])⟩
noncomputable def o352 (P : Params) : Obj := ⟨(.type "builtin_function_or_method"), none, (.fields (Array.mk [(.builtin "object.__init_subclass__"), (.ref 350)])), (Array.mk [])⟩
noncomputable def tree0 (P : Params) : BT := (N (PySem.W.boot_o_0 P) (N (z1 P) (N (z3 P) (N (PySem.W.boot_o_7 P) (N (z15 P) (N (z31 P) .nil .nil) .nil) (N (z23 P) .nil .nil)) (N (z11 P) (N (z19 P) .nil .nil) (N (z27 P) .nil .nil))) (N (PySem.W.boot_o_5 P) (N (PySem.W.boot_o_9 P) (N (z17 P) (N (z33 P) .nil .nil) .nil) (N (z25 P) .nil .nil)) (N (z13 P) (N (z21 P) .nil .nil) (N (z29 P) .nil .nil)))) (N (z2 P) (N (PySem.W.boot_o_4 P) (N (PySem.W.boot_o_8 P) (N (z16 P) (N (z32 P) .nil .nil) .nil) (N (z24 P) .nil .nil)) (N (z12 P) (N (z20 P) .nil .nil) (N (z28 P) .nil .nil))) (N (PySem.W.boot_o_6 P) (N (PySem.W.boot_o_10 P) (N (z18 P) .nil .nil) (N (z26 P) .nil .nil)) (N (z14 P) (N (z22 P) .nil .nil) (N (z30 P) .nil .nil)))))
noncomputable def treeA (P : Params) : BT := (N (PySem.W.boot_o_0 P) (N (z1 P) (N (z3 P) (N (PySem.W.boot_o_7 P) (N (z15 P) (N (z31 P) .nil .nil) .nil) (N (z23 P) .nil .nil)) (N (z11 P) (N (z19 P) (N (y35 P) .nil .nil) .nil) (N (z27 P) .nil .nil))) (N (PySem.W.boot_o_5 P) (N (PySem.W.boot_o_9 P) (N (z17 P) (N (z33 P) .nil .nil) .nil) (N (z25 P) .nil .nil)) (N (z13 P) (N (z21 P) (N (y37 P) .nil .nil) .nil) (N (z29 P) .nil .nil)))) (N (z2 P) (N (PySem.W.boot_o_4 P) (N (PySem.W.boot_o_8 P) (N (z16 P) (N (z32 P) .nil .nil) .nil) (N (z24 P) .nil .nil)) (N (z12 P) (N (z20 P) (N (y36 P) .nil .nil) .nil) (N (z28 P) .nil .nil))) (N (PySem.W.boot_o_6 P) (N (PySem.W.boot_o_10 P) (N (z18 P) (N (y34 P) .nil .nil) .nil) (N (z26 P) .nil .nil)) (N (z14 P) (N (z22 P) .nil .nil) (N (z30 P) .nil .nil)))))
noncomputable def tree1 (P : Params) : BT := (N (PySem.W.boot_o_0 P) (N (z1 P) (N (o3 P) (N (PySem.W.boot_o_7 P) (N (z15 P) (N (z31 P) (N (o63 P) (N (o127 P) (N (o255 P) .nil .nil) .nil) (N (o191 P) (N (o319 P) .nil .nil) .nil)) (N (o95 P) (N (o159 P) (N (o287 P) .nil .nil) .nil) (N (o223 P) (N (o351 P) .nil .nil) .nil))) (N (o47 P) (N (o79 P) (N (o143 P) (N (o271 P) .nil .nil) .nil) (N (o207 P) (N (o335 P) .nil .nil) .nil)) (N (o111 P) (N (o175 P) (N (o303 P) .nil .nil) .nil) (N (o239 P) .nil .nil)))) (N (z23 P) (N (o39 P) (N (o71 P) (N (o135 P) (N (o263 P) .nil .nil) .nil) (N (o199 P) (N (o327 P) .nil .nil) .nil)) (N (o103 P) (N (o167 P) (N (o295 P) .nil .nil) .nil) (N (o231 P) .nil .nil))) (N (o55 P) (N (o87 P) (N (o151 P) (N (o279 P) .nil .nil) .nil) (N (o215 P) (N (o343 P) .nil .nil) .nil)) (N (o119 P) (N (o183 P) (N (o311 P) .nil .nil) .nil) (N (o247 P) .nil .nil))))) (N (z11 P) (N (z19 P) (N (o35 P) (N (o67 P) (N (o131 P) (N (o259 P) .nil .nil) .nil) (N (o195 P) (N (o323 P) .nil .nil) .nil)) (N (o99 P) (N (o163 P) (N (o291 P) .nil .nil) .nil) (N (o227 P) .nil .nil))) (N (o51 P) (N (o83 P) (N (o147 P) (N (o275 P) .nil .nil) .nil) (N (o211 P) (N (o339 P) .nil .nil) .nil)) (N (o115 P) (N (o179 P) (N (o307 P) .nil .nil) .nil) (N (o243 P) .nil .nil)))) (N (z27 P) (N (o43 P) (N (o75 P) (N (o139 P) (N (o267 P) .nil .nil) .nil) (N (o203 P) (N (o331 P) .nil .nil) .nil)) (N (o107 P) (N (o171 P) (N (o299 P) .nil .nil) .nil) (N (o235 P) .nil .nil))) (N (o59 P) (N (o91 P) (N (o155 P) (N (o283 P) .nil .nil) .nil) (N (o219 P) (N (o347 P) .nil .nil) .nil)) (N (o123 P) (N (o187 P) (N (o315 P) .nil .nil) .nil) (N (o251 P) .nil .nil)))))) (N (PySem.W.boot_o_5 P) (N (PySem.W.boot_o_9 P) (N (z17 P) (N (z33 P) (N (o65 P) (N (o129 P) (N (o257 P) .nil .nil) .nil) (N (o193 P) (N (o321 P) .nil .nil) .nil)) (N (o97 P) (N (o161 P) (N (o289 P) .nil .nil) .nil) (N (o225 P) .nil .nil))) (N (o49 P) (N (o81 P) (N (o145 P) (N (o273 P) .nil .nil) .nil) (N (o209 P) (N (o337 P) .nil .nil) .nil)) (N (o113 P) (N (o177 P) (N (o305 P) .nil .nil) .nil) (N (o241 P) .nil .nil)))) (N (z25 P) (N (o41 P) (N (o73 P) (N (o137 P) (N (o265 P) .nil .nil) .nil) (N (o201 P) (N (o329 P) .nil .nil) .nil)) (N (o105 P) (N (o169 P) (N (o297 P) .nil .nil) .nil) (N (o233 P) .nil .nil))) (N (o57 P) (N (o89 P) (N (o153 P) (N (o281 P) .nil .nil) .nil) (N (o217 P) (N (o345 P) .nil .nil) .nil)) (N (o121 P) (N (o185 P) (N (o313 P) .nil .nil) .nil) (N (o249 P) .nil .nil))))) (N (z13 P) (N (z21 P) (N (y37 P) (N (o69 P) (N (o133 P) (N (o261 P) .nil .nil) .nil) (N (o197 P) (N (o325 P) .nil .nil) .nil)) (N (o101 P) (N (o165 P) (N (o293 P) .nil .nil) .nil) (N (o229 P) .nil .nil))) (N (o53 P) (N (o85 P) (N (o149 P) (N (o277 P) .nil .nil) .nil) (N (o213 P) (N (o341 P) .nil .nil) .nil)) (N (o117 P) (N (o181 P) (N (o309 P) .nil .nil) .nil) (N (o245 P) .nil .nil)))) (N (z29 P) (N (o45 P) (N (o77 P) (N (o141 P) (N (o269 P) .nil .nil) .nil) (N (o205 P) (N (o333 P) .nil .nil) .nil)) (N (o109 P) (N (o173 P) (N (o301 P) .nil .nil) .nil) (N (o237 P) .nil .nil))) (N (o61 P) (N (o93 P) (N (o157 P) (N (o285 P) .nil .nil) .nil) (N (o221 P) (N (o349 P) .nil .nil) .nil)) (N (o125 P) (N (o189 P) (N (o317 P) .nil .nil) .nil) (N (o253 P) .nil .nil))))))) (N (o2 P) (N (PySem.W.boot_o_4 P) (N (PySem.W.boot_o_8 P) (N (z16 P) (N (z32 P) (N (o64 P) (N (o128 P) (N (o256 P) .nil .nil) .nil) (N (o192 P) (N (o320 P) .nil .nil) .nil)) (N (o96 P) (N (o160 P) (N (o288 P) .nil .nil) .nil) (N (o224 P) (N (o352 P) .nil .nil) .nil))) (N (o48 P) (N (o80 P) (N (o144 P) (N (o272 P) .nil .nil) .nil) (N (o208 P) (N (o336 P) .nil .nil) .nil)) (N (o112 P) (N (o176 P) (N (o304 P) .nil .nil) .nil) (N (o240 P) .nil .nil)))) (N (z24 P) (N (o40 P) (N (o72 P) (N (o136 P) (N (o264 P) .nil .nil) .nil) (N (o200 P) (N (o328 P) .nil .nil) .nil)) (N (o104 P) (N (o168 P) (N (o296 P) .nil .nil) .nil) (N (o232 P) .nil .nil))) (N (o56 P) (N (o88 P) (N (o152 P) (N (o280 P) .nil .nil) .nil) (N (o216 P) (N (o344 P) .nil .nil) .nil)) (N (o120 P) (N (o184 P) (N (o312 P) .nil .nil) .nil) (N (o248 P) .nil .nil))))) (N (z12 P) (N (z20 P) (N (y36 P) (N (o68 P) (N (o132 P) (N (o260 P) .nil .nil) .nil) (N (o196 P) (N (o324 P) .nil .nil) .nil)) (N (o100 P) (N (o164 P) (N (o292 P) .nil .nil) .nil) (N (o228 P) .nil .nil))) (N (o52 P) (N (o84 P) (N (o148 P) (N (o276 P) .nil .nil) .nil) (N (o212 P) (N (o340 P) .nil .nil) .nil)) (N (o116 P) (N (o180 P) (N (o308 P) .nil .nil) .nil) (N (o244 P) .nil .nil)))) (N (z28 P) (N (o44 P) (N (o76 P) (N (o140 P) (N (o268 P) .nil .nil) .nil) (N (o204 P) (N (o332 P) .nil .nil) .nil)) (N (o108 P) (N (o172 P) (N (o300 P) .nil .nil) .nil) (N (o236 P) .nil .nil))) (N (o60 P) (N (o92 P) (N (o156 P) (N (o284 P) .nil .nil) .nil) (N (o220 P) (N (o348 P) .nil .nil) .nil)) (N (o124 P) (N (o188 P) (N (o316 P) .nil .nil) .nil) (N (o252 P) .nil .nil)))))) (N (PySem.W.boot_o_6 P) (N (PySem.W.boot_o_10 P) (N (z18 P) (N (y34 P) (N (o66 P) (N (o130 P) (N (o258 P) .nil .nil) .nil) (N (o194 P) (N (o322 P) .nil .nil) .nil)) (N (o98 P) (N (o162 P) (N (o290 P) .nil .nil) .nil) (N (o226 P) .nil .nil))) (N (o50 P) (N (o82 P) (N (o146 P) (N (o274 P) .nil .nil) .nil) (N (o210 P) (N (o338 P) .nil .nil) .nil)) (N (o114 P) (N (o178 P) (N (o306 P) .nil .nil) .nil) (N (o242 P) .nil .nil)))) (N (z26 P) (N (o42 P) (N (o74 P) (N (o138 P) (N (o266 P) .nil .nil) .nil) (N (o202 P) (N (o330 P) .nil .nil) .nil)) (N (o106 P) (N (o170 P) (N (o298 P) .nil .nil) .nil) (N (o234 P) .nil .nil))) (N (o58 P) (N (o90 P) (N (o154 P) (N (o282 P) .nil .nil) .nil) (N (o218 P) (N (o346 P) .nil .nil) .nil)) (N (o122 P) (N (o186 P) (N (o314 P) .nil .nil) .nil) (N (o250 P) .nil .nil))))) (N (z14 P) (N (z22 P) (N (o38 P) (N (o70 P) (N (o134 P) (N (o262 P) .nil .nil) .nil) (N (o198 P) (N (o326 P) .nil .nil) .nil)) (N (o102 P) (N (o166 P) (N (o294 P) .nil .nil) .nil) (N (o230 P) .nil .nil))) (N (o54 P) (N (o86 P) (N (o150 P) (N (o278 P) .nil .nil) .nil) (N (o214 P) (N (o342 P) .nil .nil) .nil)) (N (o118 P) (N (o182 P) (N (o310 P) .nil .nil) .nil) (N (o246 P) .nil .nil)))) (N (z30 P) (N (o46 P) (N (o78 P) (N (o142 P) (N (o270 P) .nil .nil) .nil) (N (o206 P) (N (o334 P) .nil .nil) .nil)) (N (o110 P) (N (o174 P) (N (o302 P) .nil .nil) .nil) (N (o238 P) .nil .nil))) (N (o62 P) (N (o94 P) (N (o158 P) (N (o286 P) .nil .nil) .nil) (N (o222 P) (N (o350 P) .nil .nil) .nil)) (N (o126 P) (N (o190 P) (N (o318 P) .nil .nil) .nil) (N (o254 P) .nil .nil))))))))
noncomputable abbrev bd : List Stmt := behindTheImports pw
noncomputable def ev : Env := { scope := pw.main.scope, locals := mainNs, globals := mainNs, cells := [], code := .ref 36, frame := some 37 }
noncomputable abbrev cdB : Code := .body bd ev
noncomputable def sT0 (w : World) (os : OsState) : SharedT := ⟨tree0 w.params, 34, {}, #[], {}, 318, os⟩
noncomputable def sTA (w : World) (os : OsState) : SharedT := ⟨treeA w.params, 38, {}, #[], {}, 324, os⟩
noncomputable def sT1 (w : World) (os : OsState) : SharedT := ⟨tree1 w.params, 353, {}, #[], {}, 741, os⟩
set_option maxRecDepth 100000
set_option maxHeartbeats 0
noncomputable def sS : SharedT := ⟨.nil, 0, (start (opening pw)).1.heap.life, (start (opening pw)).1.gens, (start (opening pw)).1.drawn, (start (opening pw)).1.toks, (start (opening pw)).1.os⟩
theorem sS_abs : sS.abs = (start (opening pw)).1 := by kernel_rfl
noncomputable def runO (w : World) := (impGoT treeTable (opening pw) w 1080 sS (start (opening pw)).2).bind fun r => (importEnds treeTable (opening pw) w 20 r.1.abs r.2).bind fun s => (fenceModules? pw s).map fun s => (s.heap, s.gens, s.drawn, s.toks)
theorem h_O : ∀ w : World, runO w = some (absHeap (tree0 w.params) 34 {}, #[], {}, 318) := by
  intro w
  unfold runO
  rw [PySem.W.Fast.te14789777615569096658, PySem.W.Fast.te10274390034422433532, PySem.W.Fast.te14364793385576792824, PySem.W.Fast.te1435165496053646825, PySem.W.Fast.te14289696077712309145]
  kernel_rfl
theorem h_open : ∀ w : World, (fencedOpening treeTable pw w 8000).map (fun s => (s.heap, s.gens, s.drawn, s.toks)) = some (absHeap (tree0 w.params) 34 {}, #[], {}, 318) := by
  intro w
  have h := h_O w
  unfold runO at h
  obtain ⟨⟨S', t⟩, hr, h2⟩ := Option.bind_eq_some_iff.mp h
  obtain ⟨s, hs, h3⟩ := Option.bind_eq_some_iff.mp h2
  have g := imp_go (impGo_of hr) hs
  rw [sS_abs] at g
  have m := importEnds_mono (8000 - (1080 + 20)) _ _ _ _ g
  rw [show 1080 + 20 + (8000 - (1080 + 20)) = 8000 by decide] at m
  unfold fencedOpening
  rw [m]
  exact h3
theorem h_size : ∀ w : World, ((absHeap (tree0 w.params) 34 {}).isNs mainGlobals && (#[] : Array GenState).size == 0, (absHeap (tree0 w.params) 34 {}).objs.size, (absHeap (tree0 w.params) 34 {}).nsMap mainGlobals "__annotations__") = (true, 34, some (.ref 6)) := by
  intro w
  kernel_rfl
theorem h_pre : ∀ (w : World) (os : OsState), topGo treeTable pw w 34 (some (.ref 6)) 12 (sT0 w os).abs (topStub pw) = some ((sTA w os).abs, ⟨denote treeTable cdB, cdB, z4, [topFrame z4]⟩) := by
  intro w os
  kernel_rfl
theorem h_block : ∀ (w : World) (os : OsState), segRun treeTable pw w 34 (some (.ref 6)) 1 1 (sTA w os).abs (blockOf bd ev cdB z4 [topFrame z4]) = some (.next, (sTA w os).abs, cdB, z4) := by
  intro w os
  kernel_rfl
noncomputable abbrev br1 : List Stmt := bd.drop 9
noncomputable def u3 (P : Params) : Obj := ⟨(.type "dict"), none, (.dict (Array.mk [E P "__name__" 165 (.str (S "io") 371), E P "__doc__" 166 .none, E P "__package__" 167 .none, E P "__loader__" 168 (.builtin "__main__.__loader__#opaque"), E P "__spec__" 169 .none, E P "__annotations__" 170 (.ref 6), E P "__builtins__" 171 (.ref 4), E P "__file__" 173 (.str (S "/claim/cut.py") 172), E P "__cached__" 174 .none, E P "_sre" 275 (.ref 12), E P "deque" 317 (.type "collections.deque"), E P "_wall" 330 (.ref 44), E P "_twin_re_1" 370 (.ref 49), E P "_whence" 380 (.ref 56), E P "_index" 388 (.ref 63), E P "UnsupportedOperation" 410 (.ref 73), E P "IOBase" 442 (.ref 93), E P "BufferedIOBase" 460 (.ref 108), E P "TextIOBase" 478 (.ref 120)]) 19), (Array.mk [])⟩
noncomputable def u35 (P : Params) : Obj := ⟨.none, none, (.fields (Array.mk [(.int 3 0), (.int 0 0), (.ref 43), (.int 8 0), (.int 0 0), (.ref 55), (.int 13 0), (.int 0 0), (.ref 62), (.int 20 0), (.int 0 0), (.ref 69), (.int 22 0), (.int 0 0), (.ref 82), (.int 29 0), (.int 0 0), (.ref 104), (.int 31 0), (.int 0 0), (.ref 116)])), (Array.mk [])⟩
noncomputable def u108 (P : Params) : Obj := ⟨(.type "type"), none, (.cls { name := (S "BufferedIOBase"), bases := [(.ref 93)], mro := [(.ref 108), (.ref 93), (.type "object")], ns := 107, qualname := (S "BufferedIOBase"), hasDict := true, slotNames := [], subclasses := [], abstract := false, collection := none, hasDel := false }), (Array.mk [(some (.ref 99)), none, (some (.str (S "BufferedIOBase") 443)), (some (.str (S "BufferedIOBase") 451)), (some .none), (some (.bool true))])⟩
noncomputable def treeU (P : Params) : BT := (N (PySem.W.boot_o_0 P) (N (z1 P) (N (u3 P) (N (PySem.W.boot_o_7 P) (N (z15 P) (N (z31 P) (N (o63 P) .nil .nil) (N (o95 P) .nil .nil)) (N (o47 P) (N (o79 P) .nil .nil) (N (o111 P) .nil .nil))) (N (z23 P) (N (o39 P) (N (o71 P) .nil .nil) (N (o103 P) .nil .nil)) (N (o55 P) (N (o87 P) .nil .nil) (N (o119 P) .nil .nil)))) (N (z11 P) (N (z19 P) (N (u35 P) (N (o67 P) .nil .nil) (N (o99 P) .nil .nil)) (N (o51 P) (N (o83 P) .nil .nil) (N (o115 P) .nil .nil))) (N (z27 P) (N (o43 P) (N (o75 P) .nil .nil) (N (o107 P) .nil .nil)) (N (o59 P) (N (o91 P) .nil .nil) .nil)))) (N (PySem.W.boot_o_5 P) (N (PySem.W.boot_o_9 P) (N (z17 P) (N (z33 P) (N (o65 P) .nil .nil) (N (o97 P) .nil .nil)) (N (o49 P) (N (o81 P) .nil .nil) (N (o113 P) .nil .nil))) (N (z25 P) (N (o41 P) (N (o73 P) .nil .nil) (N (o105 P) .nil .nil)) (N (o57 P) (N (o89 P) .nil .nil) (N (o121 P) .nil .nil)))) (N (z13 P) (N (z21 P) (N (y37 P) (N (o69 P) .nil .nil) (N (o101 P) .nil .nil)) (N (o53 P) (N (o85 P) .nil .nil) (N (o117 P) .nil .nil))) (N (z29 P) (N (o45 P) (N (o77 P) .nil .nil) (N (o109 P) .nil .nil)) (N (o61 P) (N (o93 P) .nil .nil) .nil))))) (N (o2 P) (N (PySem.W.boot_o_4 P) (N (PySem.W.boot_o_8 P) (N (z16 P) (N (z32 P) (N (o64 P) .nil .nil) (N (o96 P) .nil .nil)) (N (o48 P) (N (o80 P) .nil .nil) (N (o112 P) .nil .nil))) (N (z24 P) (N (o40 P) (N (o72 P) .nil .nil) (N (o104 P) .nil .nil)) (N (o56 P) (N (o88 P) .nil .nil) (N (o120 P) .nil .nil)))) (N (z12 P) (N (z20 P) (N (y36 P) (N (o68 P) .nil .nil) (N (o100 P) .nil .nil)) (N (o52 P) (N (o84 P) .nil .nil) (N (o116 P) .nil .nil))) (N (z28 P) (N (o44 P) (N (o76 P) .nil .nil) (N (u108 P) .nil .nil)) (N (o60 P) (N (o92 P) .nil .nil) .nil)))) (N (PySem.W.boot_o_6 P) (N (PySem.W.boot_o_10 P) (N (z18 P) (N (y34 P) (N (o66 P) .nil .nil) (N (o98 P) .nil .nil)) (N (o50 P) (N (o82 P) .nil .nil) (N (o114 P) .nil .nil))) (N (z26 P) (N (o42 P) (N (o74 P) .nil .nil) (N (o106 P) .nil .nil)) (N (o58 P) (N (o90 P) .nil .nil) (N (o122 P) .nil .nil)))) (N (z14 P) (N (z22 P) (N (o38 P) (N (o70 P) .nil .nil) (N (o102 P) .nil .nil)) (N (o54 P) (N (o86 P) .nil .nil) (N (o118 P) .nil .nil))) (N (z30 P) (N (o46 P) (N (o78 P) .nil .nil) (N (o110 P) .nil .nil)) (N (o62 P) (N (o94 P) .nil .nil) .nil))))))
noncomputable def sTU (w : World) (os : OsState) : SharedT := ⟨treeU w.params, 123, {}, #[], {}, 479, os⟩
theorem h_A1 : ∀ (w : World) (os : OsState), segRunT treeTable pw w 34 (some (.ref 6)) 1 1200 (sTA w os) (piecesOf (bd.take 9) ev cdB z4 [topFrame z4]) = some (.next, sTU w os, cdB, ⟨31, 0, 32, 21⟩) := by
  rw [PySem.W.Fast.te10110043849684766642, PySem.W.Fast.te14364793385576792824]
  intro w os
  kernel_rfl
theorem h_A2 : ∀ (w : World) (os : OsState), segRunT treeTable pw w 34 (some (.ref 6)) 1 1400 (sTU w os) (piecesOf (br1.take 1) ev cdB ⟨31, 0, 32, 21⟩ [topFrame z4]) = some (.next, sT1 w os, cdB, ⟨33, 0, 202, 17⟩) := by
  rw [PySem.W.Fast.te10110043849684766642, PySem.W.Fast.te14364793385576792824]
  intro w os
  kernel_rfl
noncomputable def p3 (P : Params) : Obj := ⟨(.type "dict"), none, (.dict (Array.mk [E P "__name__" 165 (.str (S "cpy313.token") 1255), E P "__doc__" 166 .none, E P "__package__" 167 .none, E P "__loader__" 168 (.builtin "__main__.__loader__#opaque"), E P "__spec__" 169 .none, E P "__annotations__" 170 (.ref 6), E P "__builtins__" 171 (.ref 4), E P "__file__" 173 (.str (S "/claim/cut.py") 172), E P "__cached__" 174 .none, E P "_sre" 275 (.ref 12), E P "deque" 317 (.type "collections.deque"), E P "_wall" 330 (.ref 44), E P "_twin_re_1" 370 (.ref 49), E P "_whence" 380 (.ref 56), E P "_index" 388 (.ref 63), E P "UnsupportedOperation" 410 (.ref 73), E P "IOBase" 442 (.ref 93), E P "BufferedIOBase" 460 (.ref 108), E P "TextIOBase" 478 (.ref 120), E P "BytesIO" 740 (.ref 350), E P "StringIO" 1027 (.ref 597), E P "_kind" 1038 (.ref 606), E P "_fspath" 1047 (.ref 613), E P "_check_arg_types" 1057 (.ref 620), E P "isabs" 1064 (.ref 627), E P "join" 1075 (.ref 751), E P "join_path" 1076 (.ref 634), E P "dirname" 1086 (.ref 641), E P "shlex" 1227 (.ref 732), E P "split" 1237 (.ref 744), E P "join_shlex" 1245 (.ref 751), E P "_find_unsafe" 1247 (.ref 752), E P "quote" 1254 (.ref 759), E P "ENDMARKER" 1258 (.int 0 1257), E P "LPAR" 1260 (.int 7 1259), E P "RPAR" 1262 (.int 8 1261), E P "LSQB" 1264 (.int 9 1263), E P "RSQB" 1266 (.int 10 1265), E P "COLON" 1268 (.int 11 1267), E P "COMMA" 1270 (.int 12 1269), E P "SEMI" 1272 (.int 13 1271), E P "PLUS" 1274 (.int 14 1273), E P "MINUS" 1276 (.int 15 1275), E P "STAR" 1278 (.int 16 1277), E P "SLASH" 1280 (.int 17 1279), E P "VBAR" 1282 (.int 18 1281), E P "AMPER" 1284 (.int 19 1283), E P "LESS" 1286 (.int 20 1285), E P "GREATER" 1288 (.int 21 1287), E P "EQUAL" 1290 (.int 22 1289), E P "DOT" 1292 (.int 23 1291), E P "PERCENT" 1294 (.int 24 1293), E P "LBRACE" 1296 (.int 25 1295), E P "RBRACE" 1298 (.int 26 1297), E P "EQEQUAL" 1300 (.int 27 1299), E P "NOTEQUAL" 1302 (.int 28 1301), E P "LESSEQUAL" 1304 (.int 29 1303), E P "GREATEREQUAL" 1306 (.int 30 1305), E P "TILDE" 1308 (.int 31 1307), E P "CIRCUMFLEX" 1310 (.int 32 1309), E P "LEFTSHIFT" 1312 (.int 33 1311), E P "RIGHTSHIFT" 1314 (.int 34 1313), E P "DOUBLESTAR" 1316 (.int 35 1315), E P "PLUSEQUAL" 1318 (.int 36 1317), E P "MINEQUAL" 1320 (.int 37 1319), E P "STAREQUAL" 1322 (.int 38 1321), E P "SLASHEQUAL" 1324 (.int 39 1323), E P "PERCENTEQUAL" 1326 (.int 40 1325), E P "AMPEREQUAL" 1328 (.int 41 1327), E P "VBAREQUAL" 1330 (.int 42 1329), E P "CIRCUMFLEXEQUAL" 1332 (.int 43 1331), E P "LEFTSHIFTEQUAL" 1334 (.int 44 1333), E P "RIGHTSHIFTEQUAL" 1336 (.int 45 1335), E P "DOUBLESTAREQUAL" 1338 (.int 46 1337), E P "DOUBLESLASH" 1340 (.int 47 1339), E P "DOUBLESLASHEQUAL" 1342 (.int 48 1341), E P "AT" 1344 (.int 49 1343), E P "ATEQUAL" 1346 (.int 50 1345), E P "RARROW" 1348 (.int 51 1347), E P "ELLIPSIS" 1350 (.int 52 1349), E P "COLONEQUAL" 1352 (.int 53 1351), E P "EXCLAMATION" 1354 (.int 54 1353), E P "NT_OFFSET" 1356 (.int 256 1355)]) 83), (Array.mk [])⟩
noncomputable def p35 (P : Params) : Obj := ⟨.none, none, (.fields (Array.mk [(.int 3 0), (.int 0 0), (.ref 43), (.int 8 0), (.int 0 0), (.ref 55), (.int 13 0), (.int 0 0), (.ref 62), (.int 20 0), (.int 0 0), (.ref 69), (.int 22 0), (.int 0 0), (.ref 82), (.int 29 0), (.int 0 0), (.ref 104), (.int 31 0), (.int 0 0), (.ref 116), (.int 33 0), (.int 0 0), (.ref 128), (.int 203 0), (.int 0 0), (.ref 358), (.int 409 0), (.int 0 0), (.ref 605), (.int 430 0), (.int 0 0), (.ref 612), (.int 435 0), (.int 0 0), (.ref 619), (.int 440 0), (.int 0 0), (.ref 626), (.int 443 0), (.int 0 0), (.ref 633), (.int 464 0), (.int 0 0), (.ref 640), (.int 473 0), (.int 0 0), (.ref 647), (.int 725 0), (.int 0 0), (.ref 743), (.int 733 0), (.int 0 0), (.ref 750), (.int 737 0), (.int 0 0), (.ref 758)])), (Array.mk [])⟩
noncomputable def p120 (P : Params) : Obj := ⟨(.type "type"), none, (.cls { name := (S "TextIOBase"), bases := [(.ref 93)], mro := [(.ref 120), (.ref 93), (.type "object")], ns := 119, qualname := (S "TextIOBase"), hasDict := true, slotNames := [], subclasses := [(.ref 597)], abstract := false, collection := none, hasDel := false }), (Array.mk [(some (.ref 111)), none, (some (.str (S "TextIOBase") 461)), (some (.str (S "TextIOBase") 469)), (some .none), (some (.bool true))])⟩
noncomputable def p353 (P : Params) : Obj := ⟨(.type "tuple"), none, (.seq (Array.mk [(.ref 120)]) 0), (Array.mk [])⟩
noncomputable def p354 (P : Params) : Obj := ⟨(.type "builtin_function_or_method"), none, (.fields (Array.mk [(.builtin "type.__prepare__"), (.type "type")])), (Array.mk [])⟩
noncomputable def p355 (P : Params) : Obj := ⟨(.type "dict"), none, (.dict (Array.mk [E P "__module__" 748 (.str (S "_io") 753), E P "__qualname__" 750 (.str (S "StringIO") 749), E P "__firstlineno__" 752 (.int 203 751), E P "__init__" 765 (.ref 367), E P "_StringIO__translated" 774 (.ref 374), E P "_StringIO__check" 781 (.ref 381), E P "_StringIO__check_dot" 788 (.ref 388), E P "_StringIO__line" 803 (.ref 395), E P "closed" 811 (.ref 403), E P "line_buffering" 819 (.ref 411), E P "newlines" 827 (.ref 419), E P "encoding" 835 (.ref 427), E P "errors" 843 (.ref 435), E P "close" 850 (.ref 442), E P "__enter__" 857 (.ref 449), E P "__exit__" 865 (.ref 456), E P "readable" 872 (.ref 463), E P "writable" 879 (.ref 470), E P "seekable" 886 (.ref 477), E P "isatty" 893 (.ref 484), E P "flush" 900 (.ref 491), E P "fileno" 907 (.ref 498), E P "detach" 914 (.ref 505), E P "getvalue" 921 (.ref 512), E P "tell" 928 (.ref 519), E P "seek" 938 (.ref 527), E P "truncate" 946 (.ref 535), E P "read" 958 (.ref 543), E P "readline" 968 (.ref 551), E P "readlines" 978 (.ref 559), E P "__iter__" 985 (.ref 566), E P "__next__" 993 (.ref 573), E P "write" 1005 (.ref 580), E P "writelines" 1013 (.ref 587), E P "__repr__" 1020 (.ref 594), E P "__static_attributes__" 1024 (.ref 595)]) 36), (Array.mk [])⟩
noncomputable def p356 (P : Params) : Obj := ⟨(.type "tuple"), none, (.seq (Array.mk []) 0), (Array.mk [])⟩
noncomputable def p357 (P : Params) : Obj := ⟨.none, none, (.fields (Array.mk [(.int 206 0), (.int 4 0), (.ref 366), (.int 219 0), (.int 4 0), (.ref 373), (.int 227 0), (.int 4 0), (.ref 380), (.int 231 0), (.int 4 0), (.ref 387), (.int 235 0), (.int 4 0), (.ref 394), (.int 268 0), (.int 4 0), (.ref 401), (.int 272 0), (.int 4 0), (.ref 409), (.int 276 0), (.int 4 0), (.ref 417), (.int 280 0), (.int 4 0), (.ref 425), (.int 284 0), (.int 4 0), (.ref 433), (.int 287 0), (.int 4 0), (.ref 441), (.int 290 0), (.int 4 0), (.ref 448), (.int 294 0), (.int 4 0), (.ref 455), (.int 297 0), (.int 4 0), (.ref 462), (.int 301 0), (.int 4 0), (.ref 469), (.int 305 0), (.int 4 0), (.ref 476), (.int 309 0), (.int 4 0), (.ref 483), (.int 313 0), (.int 4 0), (.ref 490), (.int 316 0), (.int 4 0), (.ref 497), (.int 319 0), (.int 4 0), (.ref 504), (.int 322 0), (.int 4 0), (.ref 511), (.int 325 0), (.int 4 0), (.ref 518), (.int 329 0), (.int 4 0), (.ref 526), (.int 346 0), (.int 4 0), (.ref 534), (.int 349 0), (.int 4 0), (.ref 542), (.int 363 0), (.int 4 0), (.ref 550), (.int 370 0), (.int 4 0), (.ref 558), (.int 373 0), (.int 4 0), (.ref 565), (.int 377 0), (.int 4 0), (.ref 572), (.int 384 0), (.int 4 0), (.ref 579), (.int 403 0), (.int 4 0), (.ref 586), (.int 406 0), (.int 4 0), (.ref 593)])), (Array.mk [])⟩
noncomputable def p358 (P : Params) : Obj := ⟨(.type "code"), none, (.fields (Array.mk [(.str (S "StringIO") 743), (.str (S "StringIO") 744), (.str (S "/claim/cut.py") 745), (.int 203 0), (.int 0 0), (.int 0 0), (.int 0 0), (.int 0 0), (.ref 356), (.bool false), (.int 318 0), (.ref 357), .none, .none, .none, .none, (.int 746 0), (.int 203 0), (.str (S "/claim/cut.py") 747)])), (Array.mk [])⟩
noncomputable def p359 (P : Params) : Obj := ⟨(.type "frame"), none, .plain, (Array.mk [(some (.ref 358)), (some (.ref 3)), (some (.ref 355)), none, (some (.str (S "io") 371)), none, (some (.ref 0))])⟩
noncomputable def p360 (P : Params) : Obj := ⟨(.type "tuple"), none, (.seq (Array.mk [(.str (S "") 755), (.str (S "\n") 756)]) 0), (Array.mk [])⟩
noncomputable def p361 (P : Params) : Obj := ⟨(.type "tuple"), none, (.seq (Array.mk []) 0), (Array.mk [])⟩
noncomputable def p362 (P : Params) : Obj := ⟨.none, none, (.fields (Array.mk [])), (Array.mk [])⟩
noncomputable def p363 (P : Params) : Obj := ⟨(.type "tuple"), none, (.seq (Array.mk [(.str (S "self") 760), (.str (S "initial_value") 761), (.str (S "newline") 762)]) 0), (Array.mk [])⟩
noncomputable def p364 (P : Params) : Obj := ⟨(.type "tuple"), none, (.seq (Array.mk []) 0), (Array.mk [])⟩
noncomputable def p365 (P : Params) : Obj := ⟨.none, none, (.func (fnAt (cm 12 1) (S "__init__") (S "StringIO.__init__") 0 [] .none .none .none .none none .none .none 0)), (Array.mk [])⟩
noncomputable def p366 (P : Params) : Obj := ⟨(.type "code"), none, (.fields (Array.mk [(.str (S "__init__") 757), (.str (S "StringIO.__init__") 758), (.str (S "/claim/cut.py") 759), (.int 206 0), (.int 3 0), (.int 0 0), (.int 0 0), (.int 3 0), (.ref 361), (.bool true), (.int 318 0), (.ref 362), .none, (.ref 363), (.ref 364), (.ref 365), (.int 763 0), (.int 206 0), (.str (S "/claim/cut.py") 764)])), (Array.mk [])⟩
noncomputable def p367 (P : Params) : Obj := ⟨(.type "function"), none, (.func (fnAt (cm 12 1) (S "__init__") (S "StringIO.__init__") 3 [] (.ref 360) .none .none (.str (S "io") 371) none (.ref 366) .none 0)), (Array.mk [])⟩
noncomputable def p368 (P : Params) : Obj := ⟨(.type "tuple"), none, (.seq (Array.mk []) 0), (Array.mk [])⟩
noncomputable def p369 (P : Params) : Obj := ⟨.none, none, (.fields (Array.mk [])), (Array.mk [])⟩
noncomputable def p370 (P : Params) : Obj := ⟨(.type "tuple"), none, (.seq (Array.mk [(.str (S "self") 769), (.str (S "s") 770), (.str (S "newline") 771)]) 0), (Array.mk [])⟩
noncomputable def p371 (P : Params) : Obj := ⟨(.type "tuple"), none, (.seq (Array.mk []) 0), (Array.mk [])⟩
noncomputable def p372 (P : Params) : Obj := ⟨.none, none, (.func (fnAt (cm 12 2) (S "__translated") (S "StringIO.__translated") 0 [] .none .none .none .none none .none .none 0)), (Array.mk [])⟩
noncomputable def p373 (P : Params) : Obj := ⟨(.type "code"), none, (.fields (Array.mk [(.str (S "__translated") 766), (.str (S "StringIO.__translated") 767), (.str (S "/claim/cut.py") 768), (.int 219 0), (.int 2 0), (.int 0 0), (.int 0 0), (.int 3 0), (.ref 368), (.bool true), (.int 318 0), (.ref 369), .none, (.ref 370), (.ref 371), (.ref 372), (.int 772 0), (.int 219 0), (.str (S "/claim/cut.py") 773)])), (Array.mk [])⟩
noncomputable def p374 (P : Params) : Obj := ⟨(.type "function"), none, (.func (fnAt (cm 12 2) (S "__translated") (S "StringIO.__translated") 3 [] .none .none .none (.str (S "io") 371) none (.ref 373) .none 0)), (Array.mk [])⟩
noncomputable def p375 (P : Params) : Obj := ⟨(.type "tuple"), none, (.seq (Array.mk []) 0), (Array.mk [])⟩
noncomputable def p376 (P : Params) : Obj := ⟨.none, none, (.fields (Array.mk [])), (Array.mk [])⟩
noncomputable def p377 (P : Params) : Obj := ⟨(.type "tuple"), none, (.seq (Array.mk [(.str (S "self") 778)]) 0), (Array.mk [])⟩
noncomputable def p378 (P : Params) : Obj := ⟨(.type "tuple"), none, (.seq (Array.mk []) 0), (Array.mk [])⟩
noncomputable def p379 (P : Params) : Obj := ⟨.none, none, (.func (fnAt (cm 12 3) (S "__check") (S "StringIO.__check") 0 [] .none .none .none .none none .none .none 0)), (Array.mk [])⟩
noncomputable def p380 (P : Params) : Obj := ⟨(.type "code"), none, (.fields (Array.mk [(.str (S "__check") 775), (.str (S "StringIO.__check") 776), (.str (S "/claim/cut.py") 777), (.int 227 0), (.int 1 0), (.int 0 0), (.int 0 0), (.int 3 0), (.ref 375), (.bool true), (.int 318 0), (.ref 376), .none, (.ref 377), (.ref 378), (.ref 379), (.int 779 0), (.int 227 0), (.str (S "/claim/cut.py") 780)])), (Array.mk [])⟩
noncomputable def p381 (P : Params) : Obj := ⟨(.type "function"), none, (.func (fnAt (cm 12 3) (S "__check") (S "StringIO.__check") 3 [] .none .none .none (.str (S "io") 371) none (.ref 380) .none 0)), (Array.mk [])⟩
noncomputable def p382 (P : Params) : Obj := ⟨(.type "tuple"), none, (.seq (Array.mk []) 0), (Array.mk [])⟩
noncomputable def p383 (P : Params) : Obj := ⟨.none, none, (.fields (Array.mk [])), (Array.mk [])⟩
noncomputable def p384 (P : Params) : Obj := ⟨(.type "tuple"), none, (.seq (Array.mk [(.str (S "self") 785)]) 0), (Array.mk [])⟩
noncomputable def p385 (P : Params) : Obj := ⟨(.type "tuple"), none, (.seq (Array.mk []) 0), (Array.mk [])⟩
noncomputable def p386 (P : Params) : Obj := ⟨.none, none, (.func (fnAt (cm 12 4) (S "__check_dot") (S "StringIO.__check_dot") 0 [] .none .none .none .none none .none .none 0)), (Array.mk [])⟩
noncomputable def p387 (P : Params) : Obj := ⟨(.type "code"), none, (.fields (Array.mk [(.str (S "__check_dot") 782), (.str (S "StringIO.__check_dot") 783), (.str (S "/claim/cut.py") 784), (.int 231 0), (.int 1 0), (.int 0 0), (.int 0 0), (.int 3 0), (.ref 382), (.bool true), (.int 318 0), (.ref 383), .none, (.ref 384), (.ref 385), (.ref 386), (.int 786 0), (.int 231 0), (.str (S "/claim/cut.py") 787)])), (Array.mk [])⟩
noncomputable def p388 (P : Params) : Obj := ⟨(.type "function"), none, (.func (fnAt (cm 12 4) (S "__check_dot") (S "StringIO.__check_dot") 3 [] .none .none .none (.str (S "io") 371) none (.ref 387) .none 0)), (Array.mk [])⟩
noncomputable def p389 (P : Params) : Obj := ⟨(.type "tuple"), none, (.seq (Array.mk []) 0), (Array.mk [])⟩
noncomputable def p390 (P : Params) : Obj := ⟨.none, none, (.fields (Array.mk [])), (Array.mk [])⟩
noncomputable def p391 (P : Params) : Obj := ⟨(.type "tuple"), none, (.seq (Array.mk [(.str (S "self") 792), (.str (S "limit") 793), (.str (S "start") 794), (.str (S "stop") 795), (.str (S "cut") 796), (.str (S "newline") 797), (.str (S "i") 798), (.str (S "j") 799), (.str (S "end") 800)]) 0), (Array.mk [])⟩
noncomputable def p392 (P : Params) : Obj := ⟨(.type "tuple"), none, (.seq (Array.mk []) 0), (Array.mk [])⟩
noncomputable def p393 (P : Params) : Obj := ⟨.none, none, (.func (fnAt (cm 12 5) (S "__line") (S "StringIO.__line") 0 [] .none .none .none .none none .none .none 0)), (Array.mk [])⟩
noncomputable def p394 (P : Params) : Obj := ⟨(.type "code"), none, (.fields (Array.mk [(.str (S "__line") 789), (.str (S "StringIO.__line") 790), (.str (S "/claim/cut.py") 791), (.int 235 0), (.int 2 0), (.int 0 0), (.int 0 0), (.int 3 0), (.ref 389), (.bool true), (.int 318 0), (.ref 390), .none, (.ref 391), (.ref 392), (.ref 393), (.int 801 0), (.int 235 0), (.str (S "/claim/cut.py") 802)])), (Array.mk [])⟩
noncomputable def p395 (P : Params) : Obj := ⟨(.type "function"), none, (.func (fnAt (cm 12 5) (S "__line") (S "StringIO.__line") 3 [] .none .none .none (.str (S "io") 371) none (.ref 394) .none 0)), (Array.mk [])⟩
noncomputable def p396 (P : Params) : Obj := ⟨(.type "tuple"), none, (.seq (Array.mk []) 0), (Array.mk [])⟩
noncomputable def p397 (P : Params) : Obj := ⟨.none, none, (.fields (Array.mk [])), (Array.mk [])⟩
noncomputable def p398 (P : Params) : Obj := ⟨(.type "tuple"), none, (.seq (Array.mk [(.str (S "self") 807)]) 0), (Array.mk [])⟩
noncomputable def p399 (P : Params) : Obj := ⟨(.type "tuple"), none, (.seq (Array.mk []) 0), (Array.mk [])⟩
noncomputable def p400 (P : Params) : Obj := ⟨.none, none, (.func (fnAt (cm 12 6) (S "closed") (S "StringIO.closed") 0 [] .none .none .none .none none .none .none 0)), (Array.mk [])⟩
noncomputable def p401 (P : Params) : Obj := ⟨(.type "code"), none, (.fields (Array.mk [(.str (S "closed") 804), (.str (S "StringIO.closed") 805), (.str (S "/claim/cut.py") 806), (.int 267 0), (.int 1 0), (.int 0 0), (.int 0 0), (.int 3 0), (.ref 396), (.bool true), (.int 318 0), (.ref 397), .none, (.ref 398), (.ref 399), (.ref 400), (.int 808 0), (.int 267 0), (.str (S "/claim/cut.py") 809)])), (Array.mk [])⟩
noncomputable def p402 (P : Params) : Obj := ⟨(.type "function"), none, (.func (fnAt (cm 12 6) (S "closed") (S "StringIO.closed") 3 [] .none .none .none (.str (S "io") 371) none (.ref 401) .none 0)), (Array.mk [])⟩
noncomputable def p403 (P : Params) : Obj := ⟨(.type "property"), none, (.fields (Array.mk [(.ref 402), .none, .none, .none, (.str (S "closed") 811), (.bool false)])), (Array.mk [])⟩
noncomputable def p404 (P : Params) : Obj := ⟨(.type "tuple"), none, (.seq (Array.mk []) 0), (Array.mk [])⟩
noncomputable def p405 (P : Params) : Obj := ⟨.none, none, (.fields (Array.mk [])), (Array.mk [])⟩
noncomputable def p406 (P : Params) : Obj := ⟨(.type "tuple"), none, (.seq (Array.mk [(.str (S "self") 815)]) 0), (Array.mk [])⟩
noncomputable def p407 (P : Params) : Obj := ⟨(.type "tuple"), none, (.seq (Array.mk []) 0), (Array.mk [])⟩
noncomputable def p408 (P : Params) : Obj := ⟨.none, none, (.func (fnAt (cm 12 7) (S "line_buffering") (S "StringIO.line_buffering") 0 [] .none .none .none .none none .none .none 0)), (Array.mk [])⟩
noncomputable def p409 (P : Params) : Obj := ⟨(.type "code"), none, (.fields (Array.mk [(.str (S "line_buffering") 812), (.str (S "StringIO.line_buffering") 813), (.str (S "/claim/cut.py") 814), (.int 271 0), (.int 1 0), (.int 0 0), (.int 0 0), (.int 3 0), (.ref 404), (.bool true), (.int 318 0), (.ref 405), .none, (.ref 406), (.ref 407), (.ref 408), (.int 816 0), (.int 271 0), (.str (S "/claim/cut.py") 817)])), (Array.mk [])⟩
noncomputable def p410 (P : Params) : Obj := ⟨(.type "function"), none, (.func (fnAt (cm 12 7) (S "line_buffering") (S "StringIO.line_buffering") 3 [] .none .none .none (.str (S "io") 371) none (.ref 409) .none 0)), (Array.mk [])⟩
noncomputable def p411 (P : Params) : Obj := ⟨(.type "property"), none, (.fields (Array.mk [(.ref 410), .none, .none, .none, (.str (S "line_buffering") 819), (.bool false)])), (Array.mk [])⟩
noncomputable def p412 (P : Params) : Obj := ⟨(.type "tuple"), none, (.seq (Array.mk []) 0), (Array.mk [])⟩
noncomputable def p413 (P : Params) : Obj := ⟨.none, none, (.fields (Array.mk [])), (Array.mk [])⟩
noncomputable def p414 (P : Params) : Obj := ⟨(.type "tuple"), none, (.seq (Array.mk [(.str (S "self") 823)]) 0), (Array.mk [])⟩
noncomputable def p415 (P : Params) : Obj := ⟨(.type "tuple"), none, (.seq (Array.mk []) 0), (Array.mk [])⟩
noncomputable def p416 (P : Params) : Obj := ⟨.none, none, (.func (fnAt (cm 12 8) (S "newlines") (S "StringIO.newlines") 0 [] .none .none .none .none none .none .none 0)), (Array.mk [])⟩
noncomputable def p417 (P : Params) : Obj := ⟨(.type "code"), none, (.fields (Array.mk [(.str (S "newlines") 820), (.str (S "StringIO.newlines") 821), (.str (S "/claim/cut.py") 822), (.int 275 0), (.int 1 0), (.int 0 0), (.int 0 0), (.int 3 0), (.ref 412), (.bool true), (.int 318 0), (.ref 413), .none, (.ref 414), (.ref 415), (.ref 416), (.int 824 0), (.int 275 0), (.str (S "/claim/cut.py") 825)])), (Array.mk [])⟩
noncomputable def p418 (P : Params) : Obj := ⟨(.type "function"), none, (.func (fnAt (cm 12 8) (S "newlines") (S "StringIO.newlines") 3 [] .none .none .none (.str (S "io") 371) none (.ref 417) .none 0)), (Array.mk [])⟩
noncomputable def p419 (P : Params) : Obj := ⟨(.type "property"), none, (.fields (Array.mk [(.ref 418), .none, .none, .none, (.str (S "newlines") 827), (.bool false)])), (Array.mk [])⟩
noncomputable def p420 (P : Params) : Obj := ⟨(.type "tuple"), none, (.seq (Array.mk []) 0), (Array.mk [])⟩
noncomputable def p421 (P : Params) : Obj := ⟨.none, none, (.fields (Array.mk [])), (Array.mk [])⟩
noncomputable def p422 (P : Params) : Obj := ⟨(.type "tuple"), none, (.seq (Array.mk [(.str (S "self") 831)]) 0), (Array.mk [])⟩
noncomputable def p423 (P : Params) : Obj := ⟨(.type "tuple"), none, (.seq (Array.mk []) 0), (Array.mk [])⟩
noncomputable def p424 (P : Params) : Obj := ⟨.none, none, (.func (fnAt (cm 12 9) (S "encoding") (S "StringIO.encoding") 0 [] .none .none .none .none none .none .none 0)), (Array.mk [])⟩
noncomputable def p425 (P : Params) : Obj := ⟨(.type "code"), none, (.fields (Array.mk [(.str (S "encoding") 828), (.str (S "StringIO.encoding") 829), (.str (S "/claim/cut.py") 830), (.int 279 0), (.int 1 0), (.int 0 0), (.int 0 0), (.int 3 0), (.ref 420), (.bool true), (.int 318 0), (.ref 421), .none, (.ref 422), (.ref 423), (.ref 424), (.int 832 0), (.int 279 0), (.str (S "/claim/cut.py") 833)])), (Array.mk [])⟩
noncomputable def p426 (P : Params) : Obj := ⟨(.type "function"), none, (.func (fnAt (cm 12 9) (S "encoding") (S "StringIO.encoding") 3 [] .none .none .none (.str (S "io") 371) none (.ref 425) .none 0)), (Array.mk [])⟩
noncomputable def p427 (P : Params) : Obj := ⟨(.type "property"), none, (.fields (Array.mk [(.ref 426), .none, .none, .none, (.str (S "encoding") 835), (.bool false)])), (Array.mk [])⟩
noncomputable def p428 (P : Params) : Obj := ⟨(.type "tuple"), none, (.seq (Array.mk []) 0), (Array.mk [])⟩
noncomputable def p429 (P : Params) : Obj := ⟨.none, none, (.fields (Array.mk [])), (Array.mk [])⟩
noncomputable def p430 (P : Params) : Obj := ⟨(.type "tuple"), none, (.seq (Array.mk [(.str (S "self") 839)]) 0), (Array.mk [])⟩
noncomputable def p431 (P : Params) : Obj := ⟨(.type "tuple"), none, (.seq (Array.mk []) 0), (Array.mk [])⟩
noncomputable def p432 (P : Params) : Obj := ⟨.none, none, (.func (fnAt (cm 12 10) (S "errors") (S "StringIO.errors") 0 [] .none .none .none .none none .none .none 0)), (Array.mk [])⟩
noncomputable def p433 (P : Params) : Obj := ⟨(.type "code"), none, (.fields (Array.mk [(.str (S "errors") 836), (.str (S "StringIO.errors") 837), (.str (S "/claim/cut.py") 838), (.int 283 0), (.int 1 0), (.int 0 0), (.int 0 0), (.int 3 0), (.ref 428), (.bool true), (.int 318 0), (.ref 429), .none, (.ref 430), (.ref 431), (.ref 432), (.int 840 0), (.int 283 0), (.str (S "/claim/cut.py") 841)])), (Array.mk [])⟩
noncomputable def p434 (P : Params) : Obj := ⟨(.type "function"), none, (.func (fnAt (cm 12 10) (S "errors") (S "StringIO.errors") 3 [] .none .none .none (.str (S "io") 371) none (.ref 433) .none 0)), (Array.mk [])⟩
noncomputable def p435 (P : Params) : Obj := ⟨(.type "property"), none, (.fields (Array.mk [(.ref 434), .none, .none, .none, (.str (S "errors") 843), (.bool false)])), (Array.mk [])⟩
noncomputable def p436 (P : Params) : Obj := ⟨(.type "tuple"), none, (.seq (Array.mk []) 0), (Array.mk [])⟩
noncomputable def p437 (P : Params) : Obj := ⟨.none, none, (.fields (Array.mk [])), (Array.mk [])⟩
noncomputable def p438 (P : Params) : Obj := ⟨(.type "tuple"), none, (.seq (Array.mk [(.str (S "self") 847)]) 0), (Array.mk [])⟩
noncomputable def p439 (P : Params) : Obj := ⟨(.type "tuple"), none, (.seq (Array.mk []) 0), (Array.mk [])⟩
noncomputable def p440 (P : Params) : Obj := ⟨.none, none, (.func (fnAt (cm 12 11) (S "close") (S "StringIO.close") 0 [] .none .none .none .none none .none .none 0)), (Array.mk [])⟩
noncomputable def p441 (P : Params) : Obj := ⟨(.type "code"), none, (.fields (Array.mk [(.str (S "close") 844), (.str (S "StringIO.close") 845), (.str (S "/claim/cut.py") 846), (.int 287 0), (.int 1 0), (.int 0 0), (.int 0 0), (.int 3 0), (.ref 436), (.bool true), (.int 318 0), (.ref 437), .none, (.ref 438), (.ref 439), (.ref 440), (.int 848 0), (.int 287 0), (.str (S "/claim/cut.py") 849)])), (Array.mk [])⟩
noncomputable def p442 (P : Params) : Obj := ⟨(.type "function"), none, (.func (fnAt (cm 12 11) (S "close") (S "StringIO.close") 3 [] .none .none .none (.str (S "io") 371) none (.ref 441) .none 0)), (Array.mk [])⟩
noncomputable def p443 (P : Params) : Obj := ⟨(.type "tuple"), none, (.seq (Array.mk []) 0), (Array.mk [])⟩
noncomputable def p444 (P : Params) : Obj := ⟨.none, none, (.fields (Array.mk [])), (Array.mk [])⟩
noncomputable def p445 (P : Params) : Obj := ⟨(.type "tuple"), none, (.seq (Array.mk [(.str (S "self") 854)]) 0), (Array.mk [])⟩
noncomputable def p446 (P : Params) : Obj := ⟨(.type "tuple"), none, (.seq (Array.mk []) 0), (Array.mk [])⟩
noncomputable def p447 (P : Params) : Obj := ⟨.none, none, (.func (fnAt (cm 12 12) (S "__enter__") (S "StringIO.__enter__") 0 [] .none .none .none .none none .none .none 0)), (Array.mk [])⟩
noncomputable def p448 (P : Params) : Obj := ⟨(.type "code"), none, (.fields (Array.mk [(.str (S "__enter__") 851), (.str (S "StringIO.__enter__") 852), (.str (S "/claim/cut.py") 853), (.int 290 0), (.int 1 0), (.int 0 0), (.int 0 0), (.int 3 0), (.ref 443), (.bool true), (.int 318 0), (.ref 444), .none, (.ref 445), (.ref 446), (.ref 447), (.int 855 0), (.int 290 0), (.str (S "/claim/cut.py") 856)])), (Array.mk [])⟩
noncomputable def p449 (P : Params) : Obj := ⟨(.type "function"), none, (.func (fnAt (cm 12 12) (S "__enter__") (S "StringIO.__enter__") 3 [] .none .none .none (.str (S "io") 371) none (.ref 448) .none 0)), (Array.mk [])⟩
noncomputable def p450 (P : Params) : Obj := ⟨(.type "tuple"), none, (.seq (Array.mk []) 0), (Array.mk [])⟩
noncomputable def p451 (P : Params) : Obj := ⟨.none, none, (.fields (Array.mk [])), (Array.mk [])⟩
noncomputable def p452 (P : Params) : Obj := ⟨(.type "tuple"), none, (.seq (Array.mk [(.str (S "self") 861), (.str (S "args") 862)]) 0), (Array.mk [])⟩
noncomputable def p453 (P : Params) : Obj := ⟨(.type "tuple"), none, (.seq (Array.mk []) 0), (Array.mk [])⟩
noncomputable def p454 (P : Params) : Obj := ⟨.none, none, (.func (fnAt (cm 12 13) (S "__exit__") (S "StringIO.__exit__") 0 [] .none .none .none .none none .none .none 0)), (Array.mk [])⟩
noncomputable def p455 (P : Params) : Obj := ⟨(.type "code"), none, (.fields (Array.mk [(.str (S "__exit__") 858), (.str (S "StringIO.__exit__") 859), (.str (S "/claim/cut.py") 860), (.int 294 0), (.int 1 0), (.int 0 0), (.int 0 0), (.int 7 0), (.ref 450), (.bool true), (.int 318 0), (.ref 451), .none, (.ref 452), (.ref 453), (.ref 454), (.int 863 0), (.int 294 0), (.str (S "/claim/cut.py") 864)])), (Array.mk [])⟩
noncomputable def p456 (P : Params) : Obj := ⟨(.type "function"), none, (.func (fnAt (cm 12 13) (S "__exit__") (S "StringIO.__exit__") 3 [] .none .none .none (.str (S "io") 371) none (.ref 455) .none 0)), (Array.mk [])⟩
noncomputable def p457 (P : Params) : Obj := ⟨(.type "tuple"), none, (.seq (Array.mk []) 0), (Array.mk [])⟩
noncomputable def p458 (P : Params) : Obj := ⟨.none, none, (.fields (Array.mk [])), (Array.mk [])⟩
noncomputable def p459 (P : Params) : Obj := ⟨(.type "tuple"), none, (.seq (Array.mk [(.str (S "self") 869)]) 0), (Array.mk [])⟩
noncomputable def p460 (P : Params) : Obj := ⟨(.type "tuple"), none, (.seq (Array.mk []) 0), (Array.mk [])⟩
noncomputable def p461 (P : Params) : Obj := ⟨.none, none, (.func (fnAt (cm 12 14) (S "readable") (S "StringIO.readable") 0 [] .none .none .none .none none .none .none 0)), (Array.mk [])⟩
noncomputable def p462 (P : Params) : Obj := ⟨(.type "code"), none, (.fields (Array.mk [(.str (S "readable") 866), (.str (S "StringIO.readable") 867), (.str (S "/claim/cut.py") 868), (.int 297 0), (.int 1 0), (.int 0 0), (.int 0 0), (.int 3 0), (.ref 457), (.bool true), (.int 318 0), (.ref 458), .none, (.ref 459), (.ref 460), (.ref 461), (.int 870 0), (.int 297 0), (.str (S "/claim/cut.py") 871)])), (Array.mk [])⟩
noncomputable def p463 (P : Params) : Obj := ⟨(.type "function"), none, (.func (fnAt (cm 12 14) (S "readable") (S "StringIO.readable") 3 [] .none .none .none (.str (S "io") 371) none (.ref 462) .none 0)), (Array.mk [])⟩
noncomputable def p464 (P : Params) : Obj := ⟨(.type "tuple"), none, (.seq (Array.mk []) 0), (Array.mk [])⟩
noncomputable def p465 (P : Params) : Obj := ⟨.none, none, (.fields (Array.mk [])), (Array.mk [])⟩
noncomputable def p466 (P : Params) : Obj := ⟨(.type "tuple"), none, (.seq (Array.mk [(.str (S "self") 876)]) 0), (Array.mk [])⟩
noncomputable def p467 (P : Params) : Obj := ⟨(.type "tuple"), none, (.seq (Array.mk []) 0), (Array.mk [])⟩
noncomputable def p468 (P : Params) : Obj := ⟨.none, none, (.func (fnAt (cm 12 15) (S "writable") (S "StringIO.writable") 0 [] .none .none .none .none none .none .none 0)), (Array.mk [])⟩
noncomputable def p469 (P : Params) : Obj := ⟨(.type "code"), none, (.fields (Array.mk [(.str (S "writable") 873), (.str (S "StringIO.writable") 874), (.str (S "/claim/cut.py") 875), (.int 301 0), (.int 1 0), (.int 0 0), (.int 0 0), (.int 3 0), (.ref 464), (.bool true), (.int 318 0), (.ref 465), .none, (.ref 466), (.ref 467), (.ref 468), (.int 877 0), (.int 301 0), (.str (S "/claim/cut.py") 878)])), (Array.mk [])⟩
noncomputable def p470 (P : Params) : Obj := ⟨(.type "function"), none, (.func (fnAt (cm 12 15) (S "writable") (S "StringIO.writable") 3 [] .none .none .none (.str (S "io") 371) none (.ref 469) .none 0)), (Array.mk [])⟩
noncomputable def p471 (P : Params) : Obj := ⟨(.type "tuple"), none, (.seq (Array.mk []) 0), (Array.mk [])⟩
noncomputable def p472 (P : Params) : Obj := ⟨.none, none, (.fields (Array.mk [])), (Array.mk [])⟩
noncomputable def p473 (P : Params) : Obj := ⟨(.type "tuple"), none, (.seq (Array.mk [(.str (S "self") 883)]) 0), (Array.mk [])⟩
noncomputable def p474 (P : Params) : Obj := ⟨(.type "tuple"), none, (.seq (Array.mk []) 0), (Array.mk [])⟩
noncomputable def p475 (P : Params) : Obj := ⟨.none, none, (.func (fnAt (cm 12 16) (S "seekable") (S "StringIO.seekable") 0 [] .none .none .none .none none .none .none 0)), (Array.mk [])⟩
noncomputable def p476 (P : Params) : Obj := ⟨(.type "code"), none, (.fields (Array.mk [(.str (S "seekable") 880), (.str (S "StringIO.seekable") 881), (.str (S "/claim/cut.py") 882), (.int 305 0), (.int 1 0), (.int 0 0), (.int 0 0), (.int 3 0), (.ref 471), (.bool true), (.int 318 0), (.ref 472), .none, (.ref 473), (.ref 474), (.ref 475), (.int 884 0), (.int 305 0), (.str (S "/claim/cut.py") 885)])), (Array.mk [])⟩
noncomputable def p477 (P : Params) : Obj := ⟨(.type "function"), none, (.func (fnAt (cm 12 16) (S "seekable") (S "StringIO.seekable") 3 [] .none .none .none (.str (S "io") 371) none (.ref 476) .none 0)), (Array.mk [])⟩
noncomputable def p478 (P : Params) : Obj := ⟨(.type "tuple"), none, (.seq (Array.mk []) 0), (Array.mk [])⟩
noncomputable def p479 (P : Params) : Obj := ⟨.none, none, (.fields (Array.mk [])), (Array.mk [])⟩
noncomputable def p480 (P : Params) : Obj := ⟨(.type "tuple"), none, (.seq (Array.mk [(.str (S "self") 890)]) 0), (Array.mk [])⟩
noncomputable def p481 (P : Params) : Obj := ⟨(.type "tuple"), none, (.seq (Array.mk []) 0), (Array.mk [])⟩
noncomputable def p482 (P : Params) : Obj := ⟨.none, none, (.func (fnAt (cm 12 17) (S "isatty") (S "StringIO.isatty") 0 [] .none .none .none .none none .none .none 0)), (Array.mk [])⟩
noncomputable def p483 (P : Params) : Obj := ⟨(.type "code"), none, (.fields (Array.mk [(.str (S "isatty") 887), (.str (S "StringIO.isatty") 888), (.str (S "/claim/cut.py") 889), (.int 309 0), (.int 1 0), (.int 0 0), (.int 0 0), (.int 3 0), (.ref 478), (.bool true), (.int 318 0), (.ref 479), .none, (.ref 480), (.ref 481), (.ref 482), (.int 891 0), (.int 309 0), (.str (S "/claim/cut.py") 892)])), (Array.mk [])⟩
noncomputable def p484 (P : Params) : Obj := ⟨(.type "function"), none, (.func (fnAt (cm 12 17) (S "isatty") (S "StringIO.isatty") 3 [] .none .none .none (.str (S "io") 371) none (.ref 483) .none 0)), (Array.mk [])⟩
noncomputable def p485 (P : Params) : Obj := ⟨(.type "tuple"), none, (.seq (Array.mk []) 0), (Array.mk [])⟩
noncomputable def p486 (P : Params) : Obj := ⟨.none, none, (.fields (Array.mk [])), (Array.mk [])⟩
noncomputable def p487 (P : Params) : Obj := ⟨(.type "tuple"), none, (.seq (Array.mk [(.str (S "self") 897)]) 0), (Array.mk [])⟩
noncomputable def p488 (P : Params) : Obj := ⟨(.type "tuple"), none, (.seq (Array.mk []) 0), (Array.mk [])⟩
noncomputable def p489 (P : Params) : Obj := ⟨.none, none, (.func (fnAt (cm 12 18) (S "flush") (S "StringIO.flush") 0 [] .none .none .none .none none .none .none 0)), (Array.mk [])⟩
noncomputable def p490 (P : Params) : Obj := ⟨(.type "code"), none, (.fields (Array.mk [(.str (S "flush") 894), (.str (S "StringIO.flush") 895), (.str (S "/claim/cut.py") 896), (.int 313 0), (.int 1 0), (.int 0 0), (.int 0 0), (.int 3 0), (.ref 485), (.bool true), (.int 318 0), (.ref 486), .none, (.ref 487), (.ref 488), (.ref 489), (.int 898 0), (.int 313 0), (.str (S "/claim/cut.py") 899)])), (Array.mk [])⟩
noncomputable def p491 (P : Params) : Obj := ⟨(.type "function"), none, (.func (fnAt (cm 12 18) (S "flush") (S "StringIO.flush") 3 [] .none .none .none (.str (S "io") 371) none (.ref 490) .none 0)), (Array.mk [])⟩
noncomputable def p492 (P : Params) : Obj := ⟨(.type "tuple"), none, (.seq (Array.mk []) 0), (Array.mk [])⟩
noncomputable def p493 (P : Params) : Obj := ⟨.none, none, (.fields (Array.mk [])), (Array.mk [])⟩
noncomputable def p494 (P : Params) : Obj := ⟨(.type "tuple"), none, (.seq (Array.mk [(.str (S "self") 904)]) 0), (Array.mk [])⟩
noncomputable def p495 (P : Params) : Obj := ⟨(.type "tuple"), none, (.seq (Array.mk []) 0), (Array.mk [])⟩
noncomputable def p496 (P : Params) : Obj := ⟨.none, none, (.func (fnAt (cm 12 19) (S "fileno") (S "StringIO.fileno") 0 [] .none .none .none .none none .none .none 0)), (Array.mk [])⟩
noncomputable def p497 (P : Params) : Obj := ⟨(.type "code"), none, (.fields (Array.mk [(.str (S "fileno") 901), (.str (S "StringIO.fileno") 902), (.str (S "/claim/cut.py") 903), (.int 316 0), (.int 1 0), (.int 0 0), (.int 0 0), (.int 3 0), (.ref 492), (.bool true), (.int 318 0), (.ref 493), .none, (.ref 494), (.ref 495), (.ref 496), (.int 905 0), (.int 316 0), (.str (S "/claim/cut.py") 906)])), (Array.mk [])⟩
noncomputable def p498 (P : Params) : Obj := ⟨(.type "function"), none, (.func (fnAt (cm 12 19) (S "fileno") (S "StringIO.fileno") 3 [] .none .none .none (.str (S "io") 371) none (.ref 497) .none 0)), (Array.mk [])⟩
noncomputable def p499 (P : Params) : Obj := ⟨(.type "tuple"), none, (.seq (Array.mk []) 0), (Array.mk [])⟩
noncomputable def p500 (P : Params) : Obj := ⟨.none, none, (.fields (Array.mk [])), (Array.mk [])⟩
noncomputable def p501 (P : Params) : Obj := ⟨(.type "tuple"), none, (.seq (Array.mk [(.str (S "self") 911)]) 0), (Array.mk [])⟩
noncomputable def p502 (P : Params) : Obj := ⟨(.type "tuple"), none, (.seq (Array.mk []) 0), (Array.mk [])⟩
noncomputable def p503 (P : Params) : Obj := ⟨.none, none, (.func (fnAt (cm 12 20) (S "detach") (S "StringIO.detach") 0 [] .none .none .none .none none .none .none 0)), (Array.mk [])⟩
noncomputable def p504 (P : Params) : Obj := ⟨(.type "code"), none, (.fields (Array.mk [(.str (S "detach") 908), (.str (S "StringIO.detach") 909), (.str (S "/claim/cut.py") 910), (.int 319 0), (.int 1 0), (.int 0 0), (.int 0 0), (.int 3 0), (.ref 499), (.bool true), (.int 318 0), (.ref 500), .none, (.ref 501), (.ref 502), (.ref 503), (.int 912 0), (.int 319 0), (.str (S "/claim/cut.py") 913)])), (Array.mk [])⟩
noncomputable def p505 (P : Params) : Obj := ⟨(.type "function"), none, (.func (fnAt (cm 12 20) (S "detach") (S "StringIO.detach") 3 [] .none .none .none (.str (S "io") 371) none (.ref 504) .none 0)), (Array.mk [])⟩
noncomputable def p506 (P : Params) : Obj := ⟨(.type "tuple"), none, (.seq (Array.mk []) 0), (Array.mk [])⟩
noncomputable def p507 (P : Params) : Obj := ⟨.none, none, (.fields (Array.mk [])), (Array.mk [])⟩
noncomputable def p508 (P : Params) : Obj := ⟨(.type "tuple"), none, (.seq (Array.mk [(.str (S "self") 918)]) 0), (Array.mk [])⟩
noncomputable def p509 (P : Params) : Obj := ⟨(.type "tuple"), none, (.seq (Array.mk []) 0), (Array.mk [])⟩
noncomputable def p510 (P : Params) : Obj := ⟨.none, none, (.func (fnAt (cm 12 21) (S "getvalue") (S "StringIO.getvalue") 0 [] .none .none .none .none none .none .none 0)), (Array.mk [])⟩
noncomputable def p511 (P : Params) : Obj := ⟨(.type "code"), none, (.fields (Array.mk [(.str (S "getvalue") 915), (.str (S "StringIO.getvalue") 916), (.str (S "/claim/cut.py") 917), (.int 322 0), (.int 1 0), (.int 0 0), (.int 0 0), (.int 3 0), (.ref 506), (.bool true), (.int 318 0), (.ref 507), .none, (.ref 508), (.ref 509), (.ref 510), (.int 919 0), (.int 322 0), (.str (S "/claim/cut.py") 920)])), (Array.mk [])⟩
noncomputable def p512 (P : Params) : Obj := ⟨(.type "function"), none, (.func (fnAt (cm 12 21) (S "getvalue") (S "StringIO.getvalue") 3 [] .none .none .none (.str (S "io") 371) none (.ref 511) .none 0)), (Array.mk [])⟩
noncomputable def p513 (P : Params) : Obj := ⟨(.type "tuple"), none, (.seq (Array.mk []) 0), (Array.mk [])⟩
noncomputable def p514 (P : Params) : Obj := ⟨.none, none, (.fields (Array.mk [])), (Array.mk [])⟩
noncomputable def p515 (P : Params) : Obj := ⟨(.type "tuple"), none, (.seq (Array.mk [(.str (S "self") 925)]) 0), (Array.mk [])⟩
noncomputable def p516 (P : Params) : Obj := ⟨(.type "tuple"), none, (.seq (Array.mk []) 0), (Array.mk [])⟩
noncomputable def p517 (P : Params) : Obj := ⟨.none, none, (.func (fnAt (cm 12 22) (S "tell") (S "StringIO.tell") 0 [] .none .none .none .none none .none .none 0)), (Array.mk [])⟩
noncomputable def p518 (P : Params) : Obj := ⟨(.type "code"), none, (.fields (Array.mk [(.str (S "tell") 922), (.str (S "StringIO.tell") 923), (.str (S "/claim/cut.py") 924), (.int 325 0), (.int 1 0), (.int 0 0), (.int 0 0), (.int 3 0), (.ref 513), (.bool true), (.int 318 0), (.ref 514), .none, (.ref 515), (.ref 516), (.ref 517), (.int 926 0), (.int 325 0), (.str (S "/claim/cut.py") 927)])), (Array.mk [])⟩
noncomputable def p519 (P : Params) : Obj := ⟨(.type "function"), none, (.func (fnAt (cm 12 22) (S "tell") (S "StringIO.tell") 3 [] .none .none .none (.str (S "io") 371) none (.ref 518) .none 0)), (Array.mk [])⟩
noncomputable def p520 (P : Params) : Obj := ⟨(.type "tuple"), none, (.seq (Array.mk [(.int 0 929)]) 0), (Array.mk [])⟩
noncomputable def p521 (P : Params) : Obj := ⟨(.type "tuple"), none, (.seq (Array.mk []) 0), (Array.mk [])⟩
noncomputable def p522 (P : Params) : Obj := ⟨.none, none, (.fields (Array.mk [])), (Array.mk [])⟩
noncomputable def p523 (P : Params) : Obj := ⟨(.type "tuple"), none, (.seq (Array.mk [(.str (S "self") 933), (.str (S "pos") 934), (.str (S "whence") 935)]) 0), (Array.mk [])⟩
noncomputable def p524 (P : Params) : Obj := ⟨(.type "tuple"), none, (.seq (Array.mk []) 0), (Array.mk [])⟩
noncomputable def p525 (P : Params) : Obj := ⟨.none, none, (.func (fnAt (cm 12 23) (S "seek") (S "StringIO.seek") 0 [] .none .none .none .none none .none .none 0)), (Array.mk [])⟩
noncomputable def p526 (P : Params) : Obj := ⟨(.type "code"), none, (.fields (Array.mk [(.str (S "seek") 930), (.str (S "StringIO.seek") 931), (.str (S "/claim/cut.py") 932), (.int 329 0), (.int 3 0), (.int 3 0), (.int 0 0), (.int 3 0), (.ref 521), (.bool true), (.int 318 0), (.ref 522), .none, (.ref 523), (.ref 524), (.ref 525), (.int 936 0), (.int 329 0), (.str (S "/claim/cut.py") 937)])), (Array.mk [])⟩
noncomputable def p527 (P : Params) : Obj := ⟨(.type "function"), none, (.func (fnAt (cm 12 23) (S "seek") (S "StringIO.seek") 3 [] (.ref 520) .none .none (.str (S "io") 371) none (.ref 526) .none 0)), (Array.mk [])⟩
noncomputable def p528 (P : Params) : Obj := ⟨(.type "tuple"), none, (.seq (Array.mk [.none]) 0), (Array.mk [])⟩
noncomputable def p529 (P : Params) : Obj := ⟨(.type "tuple"), none, (.seq (Array.mk []) 0), (Array.mk [])⟩
noncomputable def p530 (P : Params) : Obj := ⟨.none, none, (.fields (Array.mk [])), (Array.mk [])⟩
noncomputable def p531 (P : Params) : Obj := ⟨(.type "tuple"), none, (.seq (Array.mk [(.str (S "self") 942), (.str (S "pos") 943)]) 0), (Array.mk [])⟩
noncomputable def p532 (P : Params) : Obj := ⟨(.type "tuple"), none, (.seq (Array.mk []) 0), (Array.mk [])⟩
noncomputable def p533 (P : Params) : Obj := ⟨.none, none, (.func (fnAt (cm 12 24) (S "truncate") (S "StringIO.truncate") 0 [] .none .none .none .none none .none .none 0)), (Array.mk [])⟩
noncomputable def p534 (P : Params) : Obj := ⟨(.type "code"), none, (.fields (Array.mk [(.str (S "truncate") 939), (.str (S "StringIO.truncate") 940), (.str (S "/claim/cut.py") 941), (.int 346 0), (.int 2 0), (.int 2 0), (.int 0 0), (.int 3 0), (.ref 529), (.bool true), (.int 318 0), (.ref 530), .none, (.ref 531), (.ref 532), (.ref 533), (.int 944 0), (.int 346 0), (.str (S "/claim/cut.py") 945)])), (Array.mk [])⟩
noncomputable def p535 (P : Params) : Obj := ⟨(.type "function"), none, (.func (fnAt (cm 12 24) (S "truncate") (S "StringIO.truncate") 3 [] (.ref 528) .none .none (.str (S "io") 371) none (.ref 534) .none 0)), (Array.mk [])⟩
noncomputable def p536 (P : Params) : Obj := ⟨(.type "tuple"), none, (.seq (Array.mk [(.int (-1) 948)]) 0), (Array.mk [])⟩
noncomputable def p537 (P : Params) : Obj := ⟨(.type "tuple"), none, (.seq (Array.mk []) 0), (Array.mk [])⟩
noncomputable def p538 (P : Params) : Obj := ⟨.none, none, (.fields (Array.mk [])), (Array.mk [])⟩
noncomputable def p539 (P : Params) : Obj := ⟨(.type "tuple"), none, (.seq (Array.mk [(.str (S "self") 952), (.str (S "size") 953), (.str (S "start") 954), (.str (S "stop") 955)]) 0), (Array.mk [])⟩
noncomputable def p540 (P : Params) : Obj := ⟨(.type "tuple"), none, (.seq (Array.mk []) 0), (Array.mk [])⟩
noncomputable def p541 (P : Params) : Obj := ⟨.none, none, (.func (fnAt (cm 12 25) (S "read") (S "StringIO.read") 0 [] .none .none .none .none none .none .none 0)), (Array.mk [])⟩
noncomputable def p542 (P : Params) : Obj := ⟨(.type "code"), none, (.fields (Array.mk [(.str (S "read") 949), (.str (S "StringIO.read") 950), (.str (S "/claim/cut.py") 951), (.int 349 0), (.int 2 0), (.int 2 0), (.int 0 0), (.int 3 0), (.ref 537), (.bool true), (.int 318 0), (.ref 538), .none, (.ref 539), (.ref 540), (.ref 541), (.int 956 0), (.int 349 0), (.str (S "/claim/cut.py") 957)])), (Array.mk [])⟩
noncomputable def p543 (P : Params) : Obj := ⟨(.type "function"), none, (.func (fnAt (cm 12 25) (S "read") (S "StringIO.read") 3 [] (.ref 536) .none .none (.str (S "io") 371) none (.ref 542) .none 0)), (Array.mk [])⟩
noncomputable def p544 (P : Params) : Obj := ⟨(.type "tuple"), none, (.seq (Array.mk [(.int (-1) 960)]) 0), (Array.mk [])⟩
noncomputable def p545 (P : Params) : Obj := ⟨(.type "tuple"), none, (.seq (Array.mk []) 0), (Array.mk [])⟩
noncomputable def p546 (P : Params) : Obj := ⟨.none, none, (.fields (Array.mk [])), (Array.mk [])⟩
noncomputable def p547 (P : Params) : Obj := ⟨(.type "tuple"), none, (.seq (Array.mk [(.str (S "self") 964), (.str (S "size") 965)]) 0), (Array.mk [])⟩
noncomputable def p548 (P : Params) : Obj := ⟨(.type "tuple"), none, (.seq (Array.mk []) 0), (Array.mk [])⟩
noncomputable def p549 (P : Params) : Obj := ⟨.none, none, (.func (fnAt (cm 12 26) (S "readline") (S "StringIO.readline") 0 [] .none .none .none .none none .none .none 0)), (Array.mk [])⟩
noncomputable def p550 (P : Params) : Obj := ⟨(.type "code"), none, (.fields (Array.mk [(.str (S "readline") 961), (.str (S "StringIO.readline") 962), (.str (S "/claim/cut.py") 963), (.int 363 0), (.int 2 0), (.int 2 0), (.int 0 0), (.int 3 0), (.ref 545), (.bool true), (.int 318 0), (.ref 546), .none, (.ref 547), (.ref 548), (.ref 549), (.int 966 0), (.int 363 0), (.str (S "/claim/cut.py") 967)])), (Array.mk [])⟩
noncomputable def p551 (P : Params) : Obj := ⟨(.type "function"), none, (.func (fnAt (cm 12 26) (S "readline") (S "StringIO.readline") 3 [] (.ref 544) .none .none (.str (S "io") 371) none (.ref 550) .none 0)), (Array.mk [])⟩
noncomputable def p552 (P : Params) : Obj := ⟨(.type "tuple"), none, (.seq (Array.mk [(.int (-1) 970)]) 0), (Array.mk [])⟩
noncomputable def p553 (P : Params) : Obj := ⟨(.type "tuple"), none, (.seq (Array.mk []) 0), (Array.mk [])⟩
noncomputable def p554 (P : Params) : Obj := ⟨.none, none, (.fields (Array.mk [])), (Array.mk [])⟩
noncomputable def p555 (P : Params) : Obj := ⟨(.type "tuple"), none, (.seq (Array.mk [(.str (S "self") 974), (.str (S "hint") 975)]) 0), (Array.mk [])⟩
noncomputable def p556 (P : Params) : Obj := ⟨(.type "tuple"), none, (.seq (Array.mk []) 0), (Array.mk [])⟩
noncomputable def p557 (P : Params) : Obj := ⟨.none, none, (.func (fnAt (cm 12 27) (S "readlines") (S "StringIO.readlines") 0 [] .none .none .none .none none .none .none 0)), (Array.mk [])⟩
noncomputable def p558 (P : Params) : Obj := ⟨(.type "code"), none, (.fields (Array.mk [(.str (S "readlines") 971), (.str (S "StringIO.readlines") 972), (.str (S "/claim/cut.py") 973), (.int 370 0), (.int 2 0), (.int 2 0), (.int 0 0), (.int 3 0), (.ref 553), (.bool true), (.int 318 0), (.ref 554), .none, (.ref 555), (.ref 556), (.ref 557), (.int 976 0), (.int 370 0), (.str (S "/claim/cut.py") 977)])), (Array.mk [])⟩
noncomputable def p559 (P : Params) : Obj := ⟨(.type "function"), none, (.func (fnAt (cm 12 27) (S "readlines") (S "StringIO.readlines") 3 [] (.ref 552) .none .none (.str (S "io") 371) none (.ref 558) .none 0)), (Array.mk [])⟩
noncomputable def p560 (P : Params) : Obj := ⟨(.type "tuple"), none, (.seq (Array.mk []) 0), (Array.mk [])⟩
noncomputable def p561 (P : Params) : Obj := ⟨.none, none, (.fields (Array.mk [])), (Array.mk [])⟩
noncomputable def p562 (P : Params) : Obj := ⟨(.type "tuple"), none, (.seq (Array.mk [(.str (S "self") 982)]) 0), (Array.mk [])⟩
noncomputable def p563 (P : Params) : Obj := ⟨(.type "tuple"), none, (.seq (Array.mk []) 0), (Array.mk [])⟩
noncomputable def p564 (P : Params) : Obj := ⟨.none, none, (.func (fnAt (cm 12 28) (S "__iter__") (S "StringIO.__iter__") 0 [] .none .none .none .none none .none .none 0)), (Array.mk [])⟩
noncomputable def p565 (P : Params) : Obj := ⟨(.type "code"), none, (.fields (Array.mk [(.str (S "__iter__") 979), (.str (S "StringIO.__iter__") 980), (.str (S "/claim/cut.py") 981), (.int 373 0), (.int 1 0), (.int 0 0), (.int 0 0), (.int 3 0), (.ref 560), (.bool true), (.int 318 0), (.ref 561), .none, (.ref 562), (.ref 563), (.ref 564), (.int 983 0), (.int 373 0), (.str (S "/claim/cut.py") 984)])), (Array.mk [])⟩
noncomputable def p566 (P : Params) : Obj := ⟨(.type "function"), none, (.func (fnAt (cm 12 28) (S "__iter__") (S "StringIO.__iter__") 3 [] .none .none .none (.str (S "io") 371) none (.ref 565) .none 0)), (Array.mk [])⟩
noncomputable def p567 (P : Params) : Obj := ⟨(.type "tuple"), none, (.seq (Array.mk []) 0), (Array.mk [])⟩
noncomputable def p568 (P : Params) : Obj := ⟨.none, none, (.fields (Array.mk [])), (Array.mk [])⟩
noncomputable def p569 (P : Params) : Obj := ⟨(.type "tuple"), none, (.seq (Array.mk [(.str (S "self") 989), (.str (S "line") 990)]) 0), (Array.mk [])⟩
noncomputable def p570 (P : Params) : Obj := ⟨(.type "tuple"), none, (.seq (Array.mk []) 0), (Array.mk [])⟩
noncomputable def p571 (P : Params) : Obj := ⟨.none, none, (.func (fnAt (cm 12 29) (S "__next__") (S "StringIO.__next__") 0 [] .none .none .none .none none .none .none 0)), (Array.mk [])⟩
noncomputable def p572 (P : Params) : Obj := ⟨(.type "code"), none, (.fields (Array.mk [(.str (S "__next__") 986), (.str (S "StringIO.__next__") 987), (.str (S "/claim/cut.py") 988), (.int 377 0), (.int 1 0), (.int 0 0), (.int 0 0), (.int 3 0), (.ref 567), (.bool true), (.int 318 0), (.ref 568), .none, (.ref 569), (.ref 570), (.ref 571), (.int 991 0), (.int 377 0), (.str (S "/claim/cut.py") 992)])), (Array.mk [])⟩
noncomputable def p573 (P : Params) : Obj := ⟨(.type "function"), none, (.func (fnAt (cm 12 29) (S "__next__") (S "StringIO.__next__") 3 [] .none .none .none (.str (S "io") 371) none (.ref 572) .none 0)), (Array.mk [])⟩
noncomputable def p574 (P : Params) : Obj := ⟨(.type "tuple"), none, (.seq (Array.mk []) 0), (Array.mk [])⟩
noncomputable def p575 (P : Params) : Obj := ⟨.none, none, (.fields (Array.mk [])), (Array.mk [])⟩
noncomputable def p576 (P : Params) : Obj := ⟨(.type "tuple"), none, (.seq (Array.mk [(.str (S "self") 997), (.str (S "s") 998), (.str (S "n") 999), (.str (S "m") 1000), (.str (S "start") 1001), (.str (S "buf") 1002)]) 0), (Array.mk [])⟩
noncomputable def p577 (P : Params) : Obj := ⟨(.type "tuple"), none, (.seq (Array.mk []) 0), (Array.mk [])⟩
noncomputable def p578 (P : Params) : Obj := ⟨.none, none, (.func (fnAt (cm 12 30) (S "write") (S "StringIO.write") 0 [] .none .none .none .none none .none .none 0)), (Array.mk [])⟩
noncomputable def p579 (P : Params) : Obj := ⟨(.type "code"), none, (.fields (Array.mk [(.str (S "write") 994), (.str (S "StringIO.write") 995), (.str (S "/claim/cut.py") 996), (.int 384 0), (.int 2 0), (.int 2 0), (.int 0 0), (.int 3 0), (.ref 574), (.bool true), (.int 318 0), (.ref 575), .none, (.ref 576), (.ref 577), (.ref 578), (.int 1003 0), (.int 384 0), (.str (S "/claim/cut.py") 1004)])), (Array.mk [])⟩
noncomputable def p580 (P : Params) : Obj := ⟨(.type "function"), none, (.func (fnAt (cm 12 30) (S "write") (S "StringIO.write") 3 [] .none .none .none (.str (S "io") 371) none (.ref 579) .none 0)), (Array.mk [])⟩
noncomputable def p581 (P : Params) : Obj := ⟨(.type "tuple"), none, (.seq (Array.mk []) 0), (Array.mk [])⟩
noncomputable def p582 (P : Params) : Obj := ⟨.none, none, (.fields (Array.mk [])), (Array.mk [])⟩
noncomputable def p583 (P : Params) : Obj := ⟨(.type "tuple"), none, (.seq (Array.mk [(.str (S "self") 1009), (.str (S "lines") 1010)]) 0), (Array.mk [])⟩
noncomputable def p584 (P : Params) : Obj := ⟨(.type "tuple"), none, (.seq (Array.mk []) 0), (Array.mk [])⟩
noncomputable def p585 (P : Params) : Obj := ⟨.none, none, (.func (fnAt (cm 12 31) (S "writelines") (S "StringIO.writelines") 0 [] .none .none .none .none none .none .none 0)), (Array.mk [])⟩
noncomputable def p586 (P : Params) : Obj := ⟨(.type "code"), none, (.fields (Array.mk [(.str (S "writelines") 1006), (.str (S "StringIO.writelines") 1007), (.str (S "/claim/cut.py") 1008), (.int 403 0), (.int 2 0), (.int 2 0), (.int 0 0), (.int 3 0), (.ref 581), (.bool true), (.int 318 0), (.ref 582), .none, (.ref 583), (.ref 584), (.ref 585), (.int 1011 0), (.int 403 0), (.str (S "/claim/cut.py") 1012)])), (Array.mk [])⟩
noncomputable def p587 (P : Params) : Obj := ⟨(.type "function"), none, (.func (fnAt (cm 12 31) (S "writelines") (S "StringIO.writelines") 3 [] .none .none .none (.str (S "io") 371) none (.ref 586) .none 0)), (Array.mk [])⟩
noncomputable def p588 (P : Params) : Obj := ⟨(.type "tuple"), none, (.seq (Array.mk []) 0), (Array.mk [])⟩
noncomputable def p589 (P : Params) : Obj := ⟨.none, none, (.fields (Array.mk [])), (Array.mk [])⟩
noncomputable def p590 (P : Params) : Obj := ⟨(.type "tuple"), none, (.seq (Array.mk [(.str (S "self") 1017)]) 0), (Array.mk [])⟩
noncomputable def p591 (P : Params) : Obj := ⟨(.type "tuple"), none, (.seq (Array.mk []) 0), (Array.mk [])⟩
noncomputable def p592 (P : Params) : Obj := ⟨.none, none, (.func (fnAt (cm 12 32) (S "__repr__") (S "StringIO.__repr__") 0 [] .none .none .none .none none .none .none 0)), (Array.mk [])⟩
noncomputable def p593 (P : Params) : Obj := ⟨(.type "code"), none, (.fields (Array.mk [(.str (S "__repr__") 1014), (.str (S "StringIO.__repr__") 1015), (.str (S "/claim/cut.py") 1016), (.int 406 0), (.int 1 0), (.int 0 0), (.int 0 0), (.int 3 0), (.ref 588), (.bool true), (.int 318 0), (.ref 589), .none, (.ref 590), (.ref 591), (.ref 592), (.int 1018 0), (.int 406 0), (.str (S "/claim/cut.py") 1019)])), (Array.mk [])⟩
noncomputable def p594 (P : Params) : Obj := ⟨(.type "function"), none, (.func (fnAt (cm 12 32) (S "__repr__") (S "StringIO.__repr__") 3 [] .none .none .none (.str (S "io") 371) none (.ref 593) .none 0)), (Array.mk [])⟩
noncomputable def p595 (P : Params) : Obj := ⟨(.type "tuple"), none, (.seq (Array.mk [(.str (S "__buf") 1021), (.str (S "__newline") 1022), (.str (S "__pos") 1023)]) 0), (Array.mk [])⟩
noncomputable def p596 (P : Params) : Obj := ⟨(.type "dict"), none, (.dict (Array.mk [E P "__module__" 748 (.str (S "_io") 753), E P "__firstlineno__" 752 (.int 203 751), E P "__init__" 765 (.ref 367), E P "_StringIO__translated" 774 (.ref 374), E P "_StringIO__check" 781 (.ref 381), E P "_StringIO__check_dot" 788 (.ref 388), E P "_StringIO__line" 803 (.ref 395), E P "closed" 811 (.ref 403), E P "line_buffering" 819 (.ref 411), E P "newlines" 827 (.ref 419), E P "encoding" 835 (.ref 427), E P "errors" 843 (.ref 435), E P "close" 850 (.ref 442), E P "__enter__" 857 (.ref 449), E P "__exit__" 865 (.ref 456), E P "readable" 872 (.ref 463), E P "writable" 879 (.ref 470), E P "seekable" 886 (.ref 477), E P "isatty" 893 (.ref 484), E P "flush" 900 (.ref 491), E P "fileno" 907 (.ref 498), E P "detach" 914 (.ref 505), E P "getvalue" 921 (.ref 512), E P "tell" 928 (.ref 519), E P "seek" 938 (.ref 527), E P "truncate" 946 (.ref 535), E P "read" 958 (.ref 543), E P "readline" 968 (.ref 551), E P "readlines" 978 (.ref 559), E P "__iter__" 985 (.ref 566), E P "__next__" 993 (.ref 573), E P "write" 1005 (.ref 580), E P "writelines" 1013 (.ref 587), E P "__repr__" 1020 (.ref 594), E P "__static_attributes__" 1024 (.ref 595), E P "__doc__" 1025 .none]) 2), (Array.mk [])⟩
noncomputable def p597 (P : Params) : Obj := ⟨(.type "type"), none, (.cls { name := (S "StringIO"), bases := [(.ref 120)], mro := [(.ref 597), (.ref 120), (.ref 93), (.type "object")], ns := 596, qualname := (S "StringIO"), hasDict := true, slotNames := [], subclasses := [], abstract := false, collection := none, hasDel := false }), (Array.mk [(some (.ref 353)), none, (some (.str (S "StringIO") 741)), (some (.str (S "StringIO") 749)), (some .none), (some (.bool true))])⟩
noncomputable def p598 (P : Params) : Obj := ⟨(.type "super"), none, (.fields (Array.mk [(.ref 597), (.ref 597), (.ref 597)])), (Array.mk [])⟩
noncomputable def p599 (P : Params) : Obj := ⟨(.type "builtin_function_or_method"), none, (.fields (Array.mk [(.builtin "object.__init_subclass__"), (.ref 597)])), (Array.mk [])⟩
noncomputable def p600 (P : Params) : Obj := ⟨(.type "tuple"), none, (.seq (Array.mk []) 0), (Array.mk [])⟩
noncomputable def p601 (P : Params) : Obj := ⟨.none, none, (.fields (Array.mk [])), (Array.mk [])⟩
noncomputable def p602 (P : Params) : Obj := ⟨(.type "tuple"), none, (.seq (Array.mk [(.str (S "name") 1033), (.str (S "x") 1034), (.str (S "t") 1035)]) 0), (Array.mk [])⟩
noncomputable def p603 (P : Params) : Obj := ⟨(.type "tuple"), none, (.seq (Array.mk []) 0), (Array.mk [])⟩
noncomputable def p604 (P : Params) : Obj := ⟨.none, none, (.func (fnAt (tp 14) (S "_kind") (S "_kind") 0 [] .none .none .none .none none .none .none 0)), (Array.mk [])⟩
noncomputable def p605 (P : Params) : Obj := ⟨(.type "code"), none, (.fields (Array.mk [(.str (S "_kind") 1030), (.str (S "_kind") 1031), (.str (S "/claim/cut.py") 1032), (.int 409 0), (.int 2 0), (.int 0 0), (.int 0 0), (.int 3 0), (.ref 600), (.bool true), (.int 318 0), (.ref 601), .none, (.ref 602), (.ref 603), (.ref 604), (.int 1036 0), (.int 409 0), (.str (S "/claim/cut.py") 1037)])), (Array.mk [])⟩
noncomputable def p606 (P : Params) : Obj := ⟨(.type "function"), none, (.func (fnAt (tp 14) (S "_kind") (S "_kind") 3 [] .none .none .none (.str (S "os.path") 1028) none (.ref 605) .none 0)), (Array.mk [])⟩
noncomputable def p607 (P : Params) : Obj := ⟨(.type "tuple"), none, (.seq (Array.mk []) 0), (Array.mk [])⟩
noncomputable def p608 (P : Params) : Obj := ⟨.none, none, (.fields (Array.mk [])), (Array.mk [])⟩
noncomputable def p609 (P : Params) : Obj := ⟨(.type "tuple"), none, (.seq (Array.mk [(.str (S "name") 1042), (.str (S "x") 1043), (.str (S "k") 1044)]) 0), (Array.mk [])⟩
noncomputable def p610 (P : Params) : Obj := ⟨(.type "tuple"), none, (.seq (Array.mk []) 0), (Array.mk [])⟩
noncomputable def p611 (P : Params) : Obj := ⟨.none, none, (.func (fnAt (tp 15) (S "_fspath") (S "_fspath") 0 [] .none .none .none .none none .none .none 0)), (Array.mk [])⟩
noncomputable def p612 (P : Params) : Obj := ⟨(.type "code"), none, (.fields (Array.mk [(.str (S "_fspath") 1039), (.str (S "_fspath") 1040), (.str (S "/claim/cut.py") 1041), (.int 430 0), (.int 2 0), (.int 0 0), (.int 0 0), (.int 3 0), (.ref 607), (.bool true), (.int 318 0), (.ref 608), .none, (.ref 609), (.ref 610), (.ref 611), (.int 1045 0), (.int 430 0), (.str (S "/claim/cut.py") 1046)])), (Array.mk [])⟩
noncomputable def p613 (P : Params) : Obj := ⟨(.type "function"), none, (.func (fnAt (tp 15) (S "_fspath") (S "_fspath") 3 [] .none .none .none (.str (S "os.path") 1028) none (.ref 612) .none 0)), (Array.mk [])⟩
noncomputable def p614 (P : Params) : Obj := ⟨(.type "tuple"), none, (.seq (Array.mk []) 0), (Array.mk [])⟩
noncomputable def p615 (P : Params) : Obj := ⟨.none, none, (.fields (Array.mk [])), (Array.mk [])⟩
noncomputable def p616 (P : Params) : Obj := ⟨(.type "tuple"), none, (.seq (Array.mk [(.str (S "funcname") 1051), (.str (S "args") 1052), (.str (S "s") 1053), (.str (S "k") 1054)]) 0), (Array.mk [])⟩
noncomputable def p617 (P : Params) : Obj := ⟨(.type "tuple"), none, (.seq (Array.mk []) 0), (Array.mk [])⟩
noncomputable def p618 (P : Params) : Obj := ⟨.none, none, (.func (fnAt (tp 16) (S "_check_arg_types") (S "_check_arg_types") 0 [] .none .none .none .none none .none .none 0)), (Array.mk [])⟩
noncomputable def p619 (P : Params) : Obj := ⟨(.type "code"), none, (.fields (Array.mk [(.str (S "_check_arg_types") 1048), (.str (S "_check_arg_types") 1049), (.str (S "/claim/cut.py") 1050), (.int 435 0), (.int 1 0), (.int 0 0), (.int 0 0), (.int 7 0), (.ref 614), (.bool true), (.int 318 0), (.ref 615), .none, (.ref 616), (.ref 617), (.ref 618), (.int 1055 0), (.int 435 0), (.str (S "/claim/cut.py") 1056)])), (Array.mk [])⟩
noncomputable def p620 (P : Params) : Obj := ⟨(.type "function"), none, (.func (fnAt (tp 16) (S "_check_arg_types") (S "_check_arg_types") 3 [] .none .none .none (.str (S "os.path") 1028) none (.ref 619) .none 0)), (Array.mk [])⟩
noncomputable def p621 (P : Params) : Obj := ⟨(.type "tuple"), none, (.seq (Array.mk []) 0), (Array.mk [])⟩
noncomputable def p622 (P : Params) : Obj := ⟨.none, none, (.fields (Array.mk [])), (Array.mk [])⟩
noncomputable def p623 (P : Params) : Obj := ⟨(.type "tuple"), none, (.seq (Array.mk [(.str (S "s") 1061)]) 0), (Array.mk [])⟩
noncomputable def p624 (P : Params) : Obj := ⟨(.type "tuple"), none, (.seq (Array.mk []) 0), (Array.mk [])⟩
noncomputable def p625 (P : Params) : Obj := ⟨.none, none, (.func (fnAt (tp 17) (S "isabs") (S "isabs") 0 [] .none .none .none .none none .none .none 0)), (Array.mk [])⟩
noncomputable def p626 (P : Params) : Obj := ⟨(.type "code"), none, (.fields (Array.mk [(.str (S "isabs") 1058), (.str (S "isabs") 1059), (.str (S "/claim/cut.py") 1060), (.int 440 0), (.int 1 0), (.int 0 0), (.int 0 0), (.int 3 0), (.ref 621), (.bool true), (.int 318 0), (.ref 622), .none, (.ref 623), (.ref 624), (.ref 625), (.int 1062 0), (.int 440 0), (.str (S "/claim/cut.py") 1063)])), (Array.mk [])⟩
noncomputable def p627 (P : Params) : Obj := ⟨(.type "function"), none, (.func (fnAt (tp 17) (S "isabs") (S "isabs") 3 [] .none .none .none (.str (S "os.path") 1028) none (.ref 626) .none 0)), (Array.mk [])⟩
noncomputable def p628 (P : Params) : Obj := ⟨(.type "tuple"), none, (.seq (Array.mk []) 0), (Array.mk [])⟩
noncomputable def p629 (P : Params) : Obj := ⟨.none, none, (.fields (Array.mk [])), (Array.mk [])⟩
noncomputable def p630 (P : Params) : Obj := ⟨(.type "tuple"), none, (.seq (Array.mk [(.str (S "a") 1068), (.str (S "p") 1069), (.str (S "b") 1070), (.str (S "sep") 1071), (.str (S "path") 1072)]) 0), (Array.mk [])⟩
noncomputable def p631 (P : Params) : Obj := ⟨(.type "tuple"), none, (.seq (Array.mk []) 0), (Array.mk [])⟩
noncomputable def p632 (P : Params) : Obj := ⟨.none, none, (.func (fnAt (tp 18) (S "join") (S "join") 0 [] .none .none .none .none none .none .none 0)), (Array.mk [])⟩
noncomputable def p633 (P : Params) : Obj := ⟨(.type "code"), none, (.fields (Array.mk [(.str (S "join") 1065), (.str (S "join") 1066), (.str (S "/claim/cut.py") 1067), (.int 443 0), (.int 1 0), (.int 0 0), (.int 0 0), (.int 7 0), (.ref 628), (.bool true), (.int 318 0), (.ref 629), .none, (.ref 630), (.ref 631), (.ref 632), (.int 1073 0), (.int 443 0), (.str (S "/claim/cut.py") 1074)])), (Array.mk [])⟩
noncomputable def p634 (P : Params) : Obj := ⟨(.type "function"), none, (.func (fnAt (tp 18) (S "join") (S "join") 3 [] .none .none .none (.str (S "os.path") 1028) none (.ref 633) .none 0)), (Array.mk [])⟩
noncomputable def p635 (P : Params) : Obj := ⟨(.type "tuple"), none, (.seq (Array.mk []) 0), (Array.mk [])⟩
noncomputable def p636 (P : Params) : Obj := ⟨.none, none, (.fields (Array.mk [])), (Array.mk [])⟩
noncomputable def p637 (P : Params) : Obj := ⟨(.type "tuple"), none, (.seq (Array.mk [(.str (S "p") 1080), (.str (S "sep") 1081), (.str (S "i") 1082), (.str (S "head") 1083)]) 0), (Array.mk [])⟩
noncomputable def p638 (P : Params) : Obj := ⟨(.type "tuple"), none, (.seq (Array.mk []) 0), (Array.mk [])⟩
noncomputable def p639 (P : Params) : Obj := ⟨.none, none, (.func (fnAt (tp 20) (S "dirname") (S "dirname") 0 [] .none .none .none .none none .none .none 0)), (Array.mk [])⟩
noncomputable def p640 (P : Params) : Obj := ⟨(.type "code"), none, (.fields (Array.mk [(.str (S "dirname") 1077), (.str (S "dirname") 1078), (.str (S "/claim/cut.py") 1079), (.int 464 0), (.int 1 0), (.int 0 0), (.int 0 0), (.int 3 0), (.ref 635), (.bool true), (.int 318 0), (.ref 636), .none, (.ref 637), (.ref 638), (.ref 639), (.int 1084 0), (.int 464 0), (.str (S "/claim/cut.py") 1085)])), (Array.mk [])⟩
noncomputable def p641 (P : Params) : Obj := ⟨(.type "function"), none, (.func (fnAt (tp 20) (S "dirname") (S "dirname") 3 [] .none .none .none (.str (S "os.path") 1028) none (.ref 640) .none 0)), (Array.mk [])⟩
noncomputable def p642 (P : Params) : Obj := ⟨(.type "tuple"), none, (.seq (Array.mk []) 0), (Array.mk [])⟩
noncomputable def p643 (P : Params) : Obj := ⟨(.type "builtin_function_or_method"), none, (.fields (Array.mk [(.builtin "type.__prepare__"), (.type "type")])), (Array.mk [])⟩
noncomputable def p644 (P : Params) : Obj := ⟨(.type "dict"), none, (.dict (Array.mk [E P "__module__" 1096 (.str (S "cpy313.shlex") 1087), E P "__qualname__" 1098 (.str (S "shlex") 1097), E P "__firstlineno__" 1100 (.int 473 1099), E P "__init__" 1112 (.ref 656), E P "punctuation_chars" 1120 (.ref 664), E P "push_token" 1128 (.ref 671), E P "push_source" 1137 (.ref 679), E P "pop_source" 1144 (.ref 686), E P "get_token" 1156 (.ref 693), E P "read_token" 1167 (.ref 700), E P "sourcehook" 1175 (.ref 707), E P "error_leader" 1184 (.ref 715), E P "__iter__" 1191 (.ref 722), E P "__next__" 1199 (.ref 729), E P "__static_attributes__" 1220 (.ref 730)]) 15), (Array.mk [])⟩
noncomputable def p645 (P : Params) : Obj := ⟨(.type "tuple"), none, (.seq (Array.mk []) 0), (Array.mk [])⟩
noncomputable def p646 (P : Params) : Obj := ⟨.none, none, (.fields (Array.mk [(.int 475 0), (.int 4 0), (.ref 655), (.int 517 0), (.int 4 0), (.ref 662), (.int 520 0), (.int 4 0), (.ref 670), (.int 523 0), (.int 4 0), (.ref 678), (.int 536 0), (.int 4 0), (.ref 685), (.int 543 0), (.int 4 0), (.ref 692), (.int 570 0), (.int 4 0), (.ref 699), (.int 707 0), (.int 4 0), (.ref 706), (.int 714 0), (.int 4 0), (.ref 714), (.int 717 0), (.int 4 0), (.ref 721), (.int 720 0), (.int 4 0), (.ref 728)])), (Array.mk [])⟩
noncomputable def p647 (P : Params) : Obj := ⟨(.type "code"), none, (.fields (Array.mk [(.str (S "shlex") 1091), (.str (S "shlex") 1092), (.str (S "/claim/cut.py") 1093), (.int 473 0), (.int 0 0), (.int 0 0), (.int 0 0), (.int 0 0), (.ref 645), (.bool false), (.int 318 0), (.ref 646), .none, .none, .none, .none, (.int 1094 0), (.int 473 0), (.str (S "/claim/cut.py") 1095)])), (Array.mk [])⟩
noncomputable def p648 (P : Params) : Obj := ⟨(.type "frame"), none, .plain, (Array.mk [(some (.ref 647)), (some (.ref 3)), (some (.ref 644)), none, (some (.str (S "cpy313.shlex") 1087)), none, (some (.ref 0))])⟩
noncomputable def p649 (P : Params) : Obj := ⟨(.type "tuple"), none, (.seq (Array.mk [.none, .none, (.bool false), (.bool false)]) 0), (Array.mk [])⟩
noncomputable def p650 (P : Params) : Obj := ⟨(.type "tuple"), none, (.seq (Array.mk []) 0), (Array.mk [])⟩
noncomputable def p651 (P : Params) : Obj := ⟨.none, none, (.fields (Array.mk [])), (Array.mk [])⟩
noncomputable def p652 (P : Params) : Obj := ⟨(.type "tuple"), none, (.seq (Array.mk [(.str (S "self") 1104), (.str (S "instream") 1105), (.str (S "infile") 1106), (.str (S "posix") 1107), (.str (S "punctuation_chars") 1108), (.str (S "t") 1109)]) 0), (Array.mk [])⟩
noncomputable def p653 (P : Params) : Obj := ⟨(.type "tuple"), none, (.seq (Array.mk []) 0), (Array.mk [])⟩
noncomputable def p654 (P : Params) : Obj := ⟨.none, none, (.func (fnAt (cm 22 0) (S "__init__") (S "shlex.__init__") 0 [] .none .none .none .none none .none .none 0)), (Array.mk [])⟩
noncomputable def p655 (P : Params) : Obj := ⟨(.type "code"), none, (.fields (Array.mk [(.str (S "__init__") 1101), (.str (S "shlex.__init__") 1102), (.str (S "/claim/cut.py") 1103), (.int 475 0), (.int 5 0), (.int 0 0), (.int 0 0), (.int 3 0), (.ref 650), (.bool true), (.int 318 0), (.ref 651), .none, (.ref 652), (.ref 653), (.ref 654), (.int 1110 0), (.int 475 0), (.str (S "/claim/cut.py") 1111)])), (Array.mk [])⟩
noncomputable def p656 (P : Params) : Obj := ⟨(.type "function"), none, (.func (fnAt (cm 22 0) (S "__init__") (S "shlex.__init__") 3 [] (.ref 649) .none .none (.str (S "cpy313.shlex") 1087) none (.ref 655) .none 0)), (Array.mk [])⟩
noncomputable def p657 (P : Params) : Obj := ⟨(.type "tuple"), none, (.seq (Array.mk []) 0), (Array.mk [])⟩
noncomputable def p658 (P : Params) : Obj := ⟨.none, none, (.fields (Array.mk [])), (Array.mk [])⟩
noncomputable def p659 (P : Params) : Obj := ⟨(.type "tuple"), none, (.seq (Array.mk [(.str (S "self") 1116)]) 0), (Array.mk [])⟩
noncomputable def p660 (P : Params) : Obj := ⟨(.type "tuple"), none, (.seq (Array.mk []) 0), (Array.mk [])⟩
noncomputable def p661 (P : Params) : Obj := ⟨.none, none, (.func (fnAt (cm 22 1) (S "punctuation_chars") (S "shlex.punctuation_chars") 0 [] .none .none .none .none none .none .none 0)), (Array.mk [])⟩
noncomputable def p662 (P : Params) : Obj := ⟨(.type "code"), none, (.fields (Array.mk [(.str (S "punctuation_chars") 1113), (.str (S "shlex.punctuation_chars") 1114), (.str (S "/claim/cut.py") 1115), (.int 516 0), (.int 1 0), (.int 0 0), (.int 0 0), (.int 3 0), (.ref 657), (.bool true), (.int 318 0), (.ref 658), .none, (.ref 659), (.ref 660), (.ref 661), (.int 1117 0), (.int 516 0), (.str (S "/claim/cut.py") 1118)])), (Array.mk [])⟩
noncomputable def p663 (P : Params) : Obj := ⟨(.type "function"), none, (.func (fnAt (cm 22 1) (S "punctuation_chars") (S "shlex.punctuation_chars") 3 [] .none .none .none (.str (S "cpy313.shlex") 1087) none (.ref 662) .none 0)), (Array.mk [])⟩
noncomputable def p664 (P : Params) : Obj := ⟨(.type "property"), none, (.fields (Array.mk [(.ref 663), .none, .none, .none, (.str (S "punctuation_chars") 1120), (.bool false)])), (Array.mk [])⟩
noncomputable def p665 (P : Params) : Obj := ⟨(.type "tuple"), none, (.seq (Array.mk []) 0), (Array.mk [])⟩
noncomputable def p666 (P : Params) : Obj := ⟨.none, none, (.fields (Array.mk [])), (Array.mk [])⟩
noncomputable def p667 (P : Params) : Obj := ⟨(.type "tuple"), none, (.seq (Array.mk [(.str (S "self") 1124), (.str (S "tok") 1125)]) 0), (Array.mk [])⟩
noncomputable def p668 (P : Params) : Obj := ⟨(.type "tuple"), none, (.seq (Array.mk []) 0), (Array.mk [])⟩
noncomputable def p669 (P : Params) : Obj := ⟨.none, none, (.func (fnAt (cm 22 2) (S "push_token") (S "shlex.push_token") 0 [] .none .none .none .none none .none .none 0)), (Array.mk [])⟩
noncomputable def p670 (P : Params) : Obj := ⟨(.type "code"), none, (.fields (Array.mk [(.str (S "push_token") 1121), (.str (S "shlex.push_token") 1122), (.str (S "/claim/cut.py") 1123), (.int 520 0), (.int 2 0), (.int 0 0), (.int 0 0), (.int 3 0), (.ref 665), (.bool true), (.int 318 0), (.ref 666), .none, (.ref 667), (.ref 668), (.ref 669), (.int 1126 0), (.int 520 0), (.str (S "/claim/cut.py") 1127)])), (Array.mk [])⟩
noncomputable def p671 (P : Params) : Obj := ⟨(.type "function"), none, (.func (fnAt (cm 22 2) (S "push_token") (S "shlex.push_token") 3 [] .none .none .none (.str (S "cpy313.shlex") 1087) none (.ref 670) .none 0)), (Array.mk [])⟩
noncomputable def p672 (P : Params) : Obj := ⟨(.type "tuple"), none, (.seq (Array.mk [.none]) 0), (Array.mk [])⟩
noncomputable def p673 (P : Params) : Obj := ⟨(.type "tuple"), none, (.seq (Array.mk []) 0), (Array.mk [])⟩
noncomputable def p674 (P : Params) : Obj := ⟨.none, none, (.fields (Array.mk [])), (Array.mk [])⟩
noncomputable def p675 (P : Params) : Obj := ⟨(.type "tuple"), none, (.seq (Array.mk [(.str (S "self") 1132), (.str (S "newstream") 1133), (.str (S "newfile") 1134)]) 0), (Array.mk [])⟩
noncomputable def p676 (P : Params) : Obj := ⟨(.type "tuple"), none, (.seq (Array.mk []) 0), (Array.mk [])⟩
noncomputable def p677 (P : Params) : Obj := ⟨.none, none, (.func (fnAt (cm 22 3) (S "push_source") (S "shlex.push_source") 0 [] .none .none .none .none none .none .none 0)), (Array.mk [])⟩
noncomputable def p678 (P : Params) : Obj := ⟨(.type "code"), none, (.fields (Array.mk [(.str (S "push_source") 1129), (.str (S "shlex.push_source") 1130), (.str (S "/claim/cut.py") 1131), (.int 523 0), (.int 3 0), (.int 0 0), (.int 0 0), (.int 3 0), (.ref 673), (.bool true), (.int 318 0), (.ref 674), .none, (.ref 675), (.ref 676), (.ref 677), (.int 1135 0), (.int 523 0), (.str (S "/claim/cut.py") 1136)])), (Array.mk [])⟩
noncomputable def p679 (P : Params) : Obj := ⟨(.type "function"), none, (.func (fnAt (cm 22 3) (S "push_source") (S "shlex.push_source") 3 [] (.ref 672) .none .none (.str (S "cpy313.shlex") 1087) none (.ref 678) .none 0)), (Array.mk [])⟩
noncomputable def p680 (P : Params) : Obj := ⟨(.type "tuple"), none, (.seq (Array.mk []) 0), (Array.mk [])⟩
noncomputable def p681 (P : Params) : Obj := ⟨.none, none, (.fields (Array.mk [])), (Array.mk [])⟩
noncomputable def p682 (P : Params) : Obj := ⟨(.type "tuple"), none, (.seq (Array.mk [(.str (S "self") 1141)]) 0), (Array.mk [])⟩
noncomputable def p683 (P : Params) : Obj := ⟨(.type "tuple"), none, (.seq (Array.mk []) 0), (Array.mk [])⟩
noncomputable def p684 (P : Params) : Obj := ⟨.none, none, (.func (fnAt (cm 22 4) (S "pop_source") (S "shlex.pop_source") 0 [] .none .none .none .none none .none .none 0)), (Array.mk [])⟩
noncomputable def p685 (P : Params) : Obj := ⟨(.type "code"), none, (.fields (Array.mk [(.str (S "pop_source") 1138), (.str (S "shlex.pop_source") 1139), (.str (S "/claim/cut.py") 1140), (.int 536 0), (.int 1 0), (.int 0 0), (.int 0 0), (.int 3 0), (.ref 680), (.bool true), (.int 318 0), (.ref 681), .none, (.ref 682), (.ref 683), (.ref 684), (.int 1142 0), (.int 536 0), (.str (S "/claim/cut.py") 1143)])), (Array.mk [])⟩
noncomputable def p686 (P : Params) : Obj := ⟨(.type "function"), none, (.func (fnAt (cm 22 4) (S "pop_source") (S "shlex.pop_source") 3 [] .none .none .none (.str (S "cpy313.shlex") 1087) none (.ref 685) .none 0)), (Array.mk [])⟩
noncomputable def p687 (P : Params) : Obj := ⟨(.type "tuple"), none, (.seq (Array.mk []) 0), (Array.mk [])⟩
noncomputable def p688 (P : Params) : Obj := ⟨.none, none, (.fields (Array.mk [])), (Array.mk [])⟩
noncomputable def p689 (P : Params) : Obj := ⟨(.type "tuple"), none, (.seq (Array.mk [(.str (S "self") 1148), (.str (S "tok") 1149), (.str (S "raw") 1150), (.str (S "spec") 1151), (.str (S "newfile") 1152), (.str (S "newstream") 1153)]) 0), (Array.mk [])⟩
noncomputable def p690 (P : Params) : Obj := ⟨(.type "tuple"), none, (.seq (Array.mk []) 0), (Array.mk [])⟩
noncomputable def p691 (P : Params) : Obj := ⟨.none, none, (.func (fnAt (cm 22 5) (S "get_token") (S "shlex.get_token") 0 [] .none .none .none .none none .none .none 0)), (Array.mk [])⟩
noncomputable def p692 (P : Params) : Obj := ⟨(.type "code"), none, (.fields (Array.mk [(.str (S "get_token") 1145), (.str (S "shlex.get_token") 1146), (.str (S "/claim/cut.py") 1147), (.int 543 0), (.int 1 0), (.int 0 0), (.int 0 0), (.int 3 0), (.ref 687), (.bool true), (.int 318 0), (.ref 688), .none, (.ref 689), (.ref 690), (.ref 691), (.int 1154 0), (.int 543 0), (.str (S "/claim/cut.py") 1155)])), (Array.mk [])⟩
noncomputable def p693 (P : Params) : Obj := ⟨(.type "function"), none, (.func (fnAt (cm 22 5) (S "get_token") (S "shlex.get_token") 3 [] .none .none .none (.str (S "cpy313.shlex") 1087) none (.ref 692) .none 0)), (Array.mk [])⟩
noncomputable def p694 (P : Params) : Obj := ⟨(.type "tuple"), none, (.seq (Array.mk []) 0), (Array.mk [])⟩
noncomputable def p695 (P : Params) : Obj := ⟨.none, none, (.fields (Array.mk [])), (Array.mk [])⟩
noncomputable def p696 (P : Params) : Obj := ⟨(.type "tuple"), none, (.seq (Array.mk [(.str (S "self") 1160), (.str (S "quoted") 1161), (.str (S "escapedstate") 1162), (.str (S "nextchar") 1163), (.str (S "result") 1164)]) 0), (Array.mk [])⟩
noncomputable def p697 (P : Params) : Obj := ⟨(.type "tuple"), none, (.seq (Array.mk []) 0), (Array.mk [])⟩
noncomputable def p698 (P : Params) : Obj := ⟨.none, none, (.func (fnAt (cm 22 6) (S "read_token") (S "shlex.read_token") 0 [] .none .none .none .none none .none .none 0)), (Array.mk [])⟩
noncomputable def p699 (P : Params) : Obj := ⟨(.type "code"), none, (.fields (Array.mk [(.str (S "read_token") 1157), (.str (S "shlex.read_token") 1158), (.str (S "/claim/cut.py") 1159), (.int 570 0), (.int 1 0), (.int 0 0), (.int 0 0), (.int 3 0), (.ref 694), (.bool true), (.int 318 0), (.ref 695), .none, (.ref 696), (.ref 697), (.ref 698), (.int 1165 0), (.int 570 0), (.str (S "/claim/cut.py") 1166)])), (Array.mk [])⟩
noncomputable def p700 (P : Params) : Obj := ⟨(.type "function"), none, (.func (fnAt (cm 22 6) (S "read_token") (S "shlex.read_token") 3 [] .none .none .none (.str (S "cpy313.shlex") 1087) none (.ref 699) .none 0)), (Array.mk [])⟩
noncomputable def p701 (P : Params) : Obj := ⟨(.type "tuple"), none, (.seq (Array.mk []) 0), (Array.mk [])⟩
noncomputable def p702 (P : Params) : Obj := ⟨.none, none, (.fields (Array.mk [])), (Array.mk [])⟩
noncomputable def p703 (P : Params) : Obj := ⟨(.type "tuple"), none, (.seq (Array.mk [(.str (S "self") 1171), (.str (S "newfile") 1172)]) 0), (Array.mk [])⟩
noncomputable def p704 (P : Params) : Obj := ⟨(.type "tuple"), none, (.seq (Array.mk []) 0), (Array.mk [])⟩
noncomputable def p705 (P : Params) : Obj := ⟨.none, none, (.func (fnAt (cm 22 7) (S "sourcehook") (S "shlex.sourcehook") 0 [] .none .none .none .none none .none .none 0)), (Array.mk [])⟩
noncomputable def p706 (P : Params) : Obj := ⟨(.type "code"), none, (.fields (Array.mk [(.str (S "sourcehook") 1168), (.str (S "shlex.sourcehook") 1169), (.str (S "/claim/cut.py") 1170), (.int 707 0), (.int 2 0), (.int 0 0), (.int 0 0), (.int 3 0), (.ref 701), (.bool true), (.int 318 0), (.ref 702), .none, (.ref 703), (.ref 704), (.ref 705), (.int 1173 0), (.int 707 0), (.str (S "/claim/cut.py") 1174)])), (Array.mk [])⟩
noncomputable def p707 (P : Params) : Obj := ⟨(.type "function"), none, (.func (fnAt (cm 22 7) (S "sourcehook") (S "shlex.sourcehook") 3 [] .none .none .none (.str (S "cpy313.shlex") 1087) none (.ref 706) .none 0)), (Array.mk [])⟩
noncomputable def p708 (P : Params) : Obj := ⟨(.type "tuple"), none, (.seq (Array.mk [.none, .none]) 0), (Array.mk [])⟩
noncomputable def p709 (P : Params) : Obj := ⟨(.type "tuple"), none, (.seq (Array.mk []) 0), (Array.mk [])⟩
noncomputable def p710 (P : Params) : Obj := ⟨.none, none, (.fields (Array.mk [])), (Array.mk [])⟩
noncomputable def p711 (P : Params) : Obj := ⟨(.type "tuple"), none, (.seq (Array.mk [(.str (S "self") 1179), (.str (S "infile") 1180), (.str (S "lineno") 1181)]) 0), (Array.mk [])⟩
noncomputable def p712 (P : Params) : Obj := ⟨(.type "tuple"), none, (.seq (Array.mk []) 0), (Array.mk [])⟩
noncomputable def p713 (P : Params) : Obj := ⟨.none, none, (.func (fnAt (cm 22 8) (S "error_leader") (S "shlex.error_leader") 0 [] .none .none .none .none none .none .none 0)), (Array.mk [])⟩
noncomputable def p714 (P : Params) : Obj := ⟨(.type "code"), none, (.fields (Array.mk [(.str (S "error_leader") 1176), (.str (S "shlex.error_leader") 1177), (.str (S "/claim/cut.py") 1178), (.int 714 0), (.int 3 0), (.int 0 0), (.int 0 0), (.int 3 0), (.ref 709), (.bool true), (.int 318 0), (.ref 710), .none, (.ref 711), (.ref 712), (.ref 713), (.int 1182 0), (.int 714 0), (.str (S "/claim/cut.py") 1183)])), (Array.mk [])⟩
noncomputable def p715 (P : Params) : Obj := ⟨(.type "function"), none, (.func (fnAt (cm 22 8) (S "error_leader") (S "shlex.error_leader") 3 [] (.ref 708) .none .none (.str (S "cpy313.shlex") 1087) none (.ref 714) .none 0)), (Array.mk [])⟩
noncomputable def p716 (P : Params) : Obj := ⟨(.type "tuple"), none, (.seq (Array.mk []) 0), (Array.mk [])⟩
noncomputable def p717 (P : Params) : Obj := ⟨.none, none, (.fields (Array.mk [])), (Array.mk [])⟩
noncomputable def p718 (P : Params) : Obj := ⟨(.type "tuple"), none, (.seq (Array.mk [(.str (S "self") 1188)]) 0), (Array.mk [])⟩
noncomputable def p719 (P : Params) : Obj := ⟨(.type "tuple"), none, (.seq (Array.mk []) 0), (Array.mk [])⟩
noncomputable def p720 (P : Params) : Obj := ⟨.none, none, (.func (fnAt (cm 22 9) (S "__iter__") (S "shlex.__iter__") 0 [] .none .none .none .none none .none .none 0)), (Array.mk [])⟩
noncomputable def p721 (P : Params) : Obj := ⟨(.type "code"), none, (.fields (Array.mk [(.str (S "__iter__") 1185), (.str (S "shlex.__iter__") 1186), (.str (S "/claim/cut.py") 1187), (.int 717 0), (.int 1 0), (.int 0 0), (.int 0 0), (.int 3 0), (.ref 716), (.bool true), (.int 318 0), (.ref 717), .none, (.ref 718), (.ref 719), (.ref 720), (.int 1189 0), (.int 717 0), (.str (S "/claim/cut.py") 1190)])), (Array.mk [])⟩
noncomputable def p722 (P : Params) : Obj := ⟨(.type "function"), none, (.func (fnAt (cm 22 9) (S "__iter__") (S "shlex.__iter__") 3 [] .none .none .none (.str (S "cpy313.shlex") 1087) none (.ref 721) .none 0)), (Array.mk [])⟩
noncomputable def p723 (P : Params) : Obj := ⟨(.type "tuple"), none, (.seq (Array.mk []) 0), (Array.mk [])⟩
noncomputable def p724 (P : Params) : Obj := ⟨.none, none, (.fields (Array.mk [])), (Array.mk [])⟩
noncomputable def p725 (P : Params) : Obj := ⟨(.type "tuple"), none, (.seq (Array.mk [(.str (S "self") 1195), (.str (S "token") 1196)]) 0), (Array.mk [])⟩
noncomputable def p726 (P : Params) : Obj := ⟨(.type "tuple"), none, (.seq (Array.mk []) 0), (Array.mk [])⟩
noncomputable def p727 (P : Params) : Obj := ⟨.none, none, (.func (fnAt (cm 22 10) (S "__next__") (S "shlex.__next__") 0 [] .none .none .none .none none .none .none 0)), (Array.mk [])⟩
noncomputable def p728 (P : Params) : Obj := ⟨(.type "code"), none, (.fields (Array.mk [(.str (S "__next__") 1192), (.str (S "shlex.__next__") 1193), (.str (S "/claim/cut.py") 1194), (.int 720 0), (.int 1 0), (.int 0 0), (.int 0 0), (.int 3 0), (.ref 723), (.bool true), (.int 318 0), (.ref 724), .none, (.ref 725), (.ref 726), (.ref 727), (.int 1197 0), (.int 720 0), (.str (S "/claim/cut.py") 1198)])), (Array.mk [])⟩
noncomputable def p729 (P : Params) : Obj := ⟨(.type "function"), none, (.func (fnAt (cm 22 10) (S "__next__") (S "shlex.__next__") 3 [] .none .none .none (.str (S "cpy313.shlex") 1087) none (.ref 728) .none 0)), (Array.mk [])⟩
noncomputable def p730 (P : Params) : Obj := ⟨(.type "tuple"), none, (.seq (Array.mk [(.str (S "_punctuation_chars") 1200), (.str (S "_pushback_chars") 1201), (.str (S "commenters") 1202), (.str (S "debug") 1203), (.str (S "eof") 1204), (.str (S "escape") 1205), (.str (S "escapedquotes") 1206), (.str (S "filestack") 1207), (.str (S "infile") 1208), (.str (S "instream") 1209), (.str (S "lineno") 1210), (.str (S "posix") 1211), (.str (S "pushback") 1212), (.str (S "quotes") 1213), (.str (S "source") 1214), (.str (S "state") 1215), (.str (S "token") 1216), (.str (S "whitespace") 1217), (.str (S "whitespace_split") 1218), (.str (S "wordchars") 1219)]) 0), (Array.mk [])⟩
noncomputable def p731 (P : Params) : Obj := ⟨(.type "dict"), none, (.dict (Array.mk [E P "__module__" 1096 (.str (S "cpy313.shlex") 1087), E P "__firstlineno__" 1100 (.int 473 1099), E P "__init__" 1112 (.ref 656), E P "punctuation_chars" 1120 (.ref 664), E P "push_token" 1128 (.ref 671), E P "push_source" 1137 (.ref 679), E P "pop_source" 1144 (.ref 686), E P "get_token" 1156 (.ref 693), E P "read_token" 1167 (.ref 700), E P "sourcehook" 1175 (.ref 707), E P "error_leader" 1184 (.ref 715), E P "__iter__" 1191 (.ref 722), E P "__next__" 1199 (.ref 729), E P "__static_attributes__" 1220 (.ref 730), E P "__dict__" 1222 (.ref 733), E P "__weakref__" 1224 (.ref 734), E P "__doc__" 1225 .none]) 4), (Array.mk [])⟩
noncomputable def p732 (P : Params) : Obj := ⟨(.type "type"), none, (.cls { name := (S "shlex"), bases := [(.type "object")], mro := [(.ref 732), (.type "object")], ns := 731, qualname := (S "shlex"), hasDict := true, slotNames := [], subclasses := [], abstract := false, collection := none, hasDel := false }), (Array.mk [none, none, (some (.str (S "shlex") 1089)), (some (.str (S "shlex") 1097)), (some (.builtin "object.__new__")), (some (.bool true))])⟩
noncomputable def p733 (P : Params) : Obj := ⟨(.type "getset_descriptor"), none, (.fields (Array.mk [(.str (S "__dict__") 1221), (.ref 732), (.builtin "function.__dict__"), (.builtin "function.__dict__#set")])), (Array.mk [])⟩
noncomputable def p734 (P : Params) : Obj := ⟨(.type "getset_descriptor"), none, (.fields (Array.mk [(.str (S "__weakref__") 1223), (.ref 732), (.builtin "ExceptionGroup.__weakref__"), .none])), (Array.mk [])⟩
noncomputable def p735 (P : Params) : Obj := ⟨(.type "super"), none, (.fields (Array.mk [(.ref 732), (.ref 732), (.ref 732)])), (Array.mk [])⟩
noncomputable def p736 (P : Params) : Obj := ⟨(.type "builtin_function_or_method"), none, (.fields (Array.mk [(.builtin "object.__init_subclass__"), (.ref 732)])), (Array.mk [])⟩
noncomputable def p737 (P : Params) : Obj := ⟨(.type "tuple"), none, (.seq (Array.mk [(.bool false), (.bool true)]) 0), (Array.mk [])⟩
noncomputable def p738 (P : Params) : Obj := ⟨(.type "tuple"), none, (.seq (Array.mk []) 0), (Array.mk [])⟩
noncomputable def p739 (P : Params) : Obj := ⟨.none, none, (.fields (Array.mk [])), (Array.mk [])⟩
noncomputable def p740 (P : Params) : Obj := ⟨(.type "tuple"), none, (.seq (Array.mk [(.str (S "s") 1231), (.str (S "comments") 1232), (.str (S "posix") 1233), (.str (S "lex") 1234)]) 0), (Array.mk [])⟩
noncomputable def p741 (P : Params) : Obj := ⟨(.type "tuple"), none, (.seq (Array.mk []) 0), (Array.mk [])⟩
noncomputable def p742 (P : Params) : Obj := ⟨.none, none, (.func (fnAt (tp 23) (S "split") (S "split") 0 [] .none .none .none .none none .none .none 0)), (Array.mk [])⟩
noncomputable def p743 (P : Params) : Obj := ⟨(.type "code"), none, (.fields (Array.mk [(.str (S "split") 1228), (.str (S "split") 1229), (.str (S "/claim/cut.py") 1230), (.int 725 0), (.int 3 0), (.int 0 0), (.int 0 0), (.int 3 0), (.ref 738), (.bool true), (.int 318 0), (.ref 739), .none, (.ref 740), (.ref 741), (.ref 742), (.int 1235 0), (.int 725 0), (.str (S "/claim/cut.py") 1236)])), (Array.mk [])⟩
noncomputable def p744 (P : Params) : Obj := ⟨(.type "function"), none, (.func (fnAt (tp 23) (S "split") (S "split") 3 [] (.ref 737) .none .none (.str (S "cpy313.shlex") 1087) none (.ref 743) .none 0)), (Array.mk [])⟩
noncomputable def p745 (P : Params) : Obj := ⟨(.type "tuple"), none, (.seq (Array.mk []) 0), (Array.mk [])⟩
noncomputable def p746 (P : Params) : Obj := ⟨.none, none, (.fields (Array.mk [])), (Array.mk [])⟩
noncomputable def p747 (P : Params) : Obj := ⟨(.type "tuple"), none, (.seq (Array.mk [(.str (S "split_command") 1241)]) 0), (Array.mk [])⟩
noncomputable def p748 (P : Params) : Obj := ⟨(.type "tuple"), none, (.seq (Array.mk []) 0), (Array.mk [])⟩
noncomputable def p749 (P : Params) : Obj := ⟨.none, none, (.func (fnAt (tp 24) (S "join") (S "join") 0 [] .none .none .none .none none .none .none 0)), (Array.mk [])⟩
noncomputable def p750 (P : Params) : Obj := ⟨(.type "code"), none, (.fields (Array.mk [(.str (S "join") 1238), (.str (S "join") 1239), (.str (S "/claim/cut.py") 1240), (.int 733 0), (.int 1 0), (.int 0 0), (.int 0 0), (.int 3 0), (.ref 745), (.bool true), (.int 318 0), (.ref 746), .none, (.ref 747), (.ref 748), (.ref 749), (.int 1242 0), (.int 733 0), (.str (S "/claim/cut.py") 1243)])), (Array.mk [])⟩
noncomputable def p751 (P : Params) : Obj := ⟨(.type "function"), none, (.func (fnAt (tp 24) (S "join") (S "join") 3 [] .none .none .none (.str (S "cpy313.shlex") 1087) none (.ref 750) .none 0)), (Array.mk [])⟩
noncomputable def p752 (P : Params) : Obj := ⟨(.type "builtin_function_or_method"), none, (.fields (Array.mk [(.builtin "re.Pattern.search"), (.ref 49)])), (Array.mk [])⟩
noncomputable def p753 (P : Params) : Obj := ⟨(.type "tuple"), none, (.seq (Array.mk []) 0), (Array.mk [])⟩
noncomputable def p754 (P : Params) : Obj := ⟨.none, none, (.fields (Array.mk [])), (Array.mk [])⟩
noncomputable def p755 (P : Params) : Obj := ⟨(.type "tuple"), none, (.seq (Array.mk [(.str (S "s") 1251)]) 0), (Array.mk [])⟩
noncomputable def p756 (P : Params) : Obj := ⟨(.type "tuple"), none, (.seq (Array.mk []) 0), (Array.mk [])⟩
noncomputable def p757 (P : Params) : Obj := ⟨.none, none, (.func (fnAt (tp 27) (S "quote") (S "quote") 0 [] .none .none .none .none none .none .none 0)), (Array.mk [])⟩
noncomputable def p758 (P : Params) : Obj := ⟨(.type "code"), none, (.fields (Array.mk [(.str (S "quote") 1248), (.str (S "quote") 1249), (.str (S "/claim/cut.py") 1250), (.int 737 0), (.int 1 0), (.int 0 0), (.int 0 0), (.int 3 0), (.ref 753), (.bool true), (.int 318 0), (.ref 754), .none, (.ref 755), (.ref 756), (.ref 757), (.int 1252 0), (.int 737 0), (.str (S "/claim/cut.py") 1253)])), (Array.mk [])⟩
noncomputable def p759 (P : Params) : Obj := ⟨(.type "function"), none, (.func (fnAt (tp 27) (S "quote") (S "quote") 3 [] .none .none .none (.str (S "cpy313.shlex") 1087) none (.ref 758) .none 0)), (Array.mk [])⟩
noncomputable def tree2 (P : Params) : BT := (N (PySem.W.boot_o_0 P) (N (z1 P) (N (p3 P) (N (PySem.W.boot_o_7 P) (N (z15 P) (N (z31 P) (N (o63 P) (N (o127 P) (N (o255 P) (N (p511 P) .nil .nil) .nil) (N (p383 P) (N (p639 P) .nil .nil) .nil)) (N (o191 P) (N (o319 P) (N (p575 P) .nil .nil) .nil) (N (p447 P) (N (p703 P) .nil .nil) .nil))) (N (o95 P) (N (o159 P) (N (o287 P) (N (p543 P) .nil .nil) .nil) (N (p415 P) (N (p671 P) .nil .nil) .nil)) (N (o223 P) (N (o351 P) (N (p607 P) .nil .nil) .nil) (N (p479 P) (N (p735 P) .nil .nil) .nil)))) (N (o47 P) (N (o79 P) (N (o143 P) (N (o271 P) (N (p527 P) .nil .nil) .nil) (N (p399 P) (N (p655 P) .nil .nil) .nil)) (N (o207 P) (N (o335 P) (N (p591 P) .nil .nil) .nil) (N (p463 P) (N (p719 P) .nil .nil) .nil))) (N (o111 P) (N (o175 P) (N (o303 P) (N (p559 P) .nil .nil) .nil) (N (p431 P) (N (p687 P) .nil .nil) .nil)) (N (o239 P) (N (p367 P) (N (p623 P) .nil .nil) .nil) (N (p495 P) (N (p751 P) .nil .nil) .nil))))) (N (z23 P) (N (o39 P) (N (o71 P) (N (o135 P) (N (o263 P) (N (p519 P) .nil .nil) .nil) (N (p391 P) (N (p647 P) .nil .nil) .nil)) (N (o199 P) (N (o327 P) (N (p583 P) .nil .nil) .nil) (N (p455 P) (N (p711 P) .nil .nil) .nil))) (N (o103 P) (N (o167 P) (N (o295 P) (N (p551 P) .nil .nil) .nil) (N (p423 P) (N (p679 P) .nil .nil) .nil)) (N (o231 P) (N (p359 P) (N (p615 P) .nil .nil) .nil) (N (p487 P) (N (p743 P) .nil .nil) .nil)))) (N (o55 P) (N (o87 P) (N (o151 P) (N (o279 P) (N (p535 P) .nil .nil) .nil) (N (p407 P) (N (p663 P) .nil .nil) .nil)) (N (o215 P) (N (o343 P) (N (p599 P) .nil .nil) .nil) (N (p471 P) (N (p727 P) .nil .nil) .nil))) (N (o119 P) (N (o183 P) (N (o311 P) (N (p567 P) .nil .nil) .nil) (N (p439 P) (N (p695 P) .nil .nil) .nil)) (N (o247 P) (N (p375 P) (N (p631 P) .nil .nil) .nil) (N (p503 P) (N (p759 P) .nil .nil) .nil)))))) (N (z11 P) (N (z19 P) (N (p35 P) (N (o67 P) (N (o131 P) (N (o259 P) (N (p515 P) .nil .nil) .nil) (N (p387 P) (N (p643 P) .nil .nil) .nil)) (N (o195 P) (N (o323 P) (N (p579 P) .nil .nil) .nil) (N (p451 P) (N (p707 P) .nil .nil) .nil))) (N (o99 P) (N (o163 P) (N (o291 P) (N (p547 P) .nil .nil) .nil) (N (p419 P) (N (p675 P) .nil .nil) .nil)) (N (o227 P) (N (p355 P) (N (p611 P) .nil .nil) .nil) (N (p483 P) (N (p739 P) .nil .nil) .nil)))) (N (o51 P) (N (o83 P) (N (o147 P) (N (o275 P) (N (p531 P) .nil .nil) .nil) (N (p403 P) (N (p659 P) .nil .nil) .nil)) (N (o211 P) (N (o339 P) (N (p595 P) .nil .nil) .nil) (N (p467 P) (N (p723 P) .nil .nil) .nil))) (N (o115 P) (N (o179 P) (N (o307 P) (N (p563 P) .nil .nil) .nil) (N (p435 P) (N (p691 P) .nil .nil) .nil)) (N (o243 P) (N (p371 P) (N (p627 P) .nil .nil) .nil) (N (p499 P) (N (p755 P) .nil .nil) .nil))))) (N (z27 P) (N (o43 P) (N (o75 P) (N (o139 P) (N (o267 P) (N (p523 P) .nil .nil) .nil) (N (p395 P) (N (p651 P) .nil .nil) .nil)) (N (o203 P) (N (o331 P) (N (p587 P) .nil .nil) .nil) (N (p459 P) (N (p715 P) .nil .nil) .nil))) (N (o107 P) (N (o171 P) (N (o299 P) (N (p555 P) .nil .nil) .nil) (N (p427 P) (N (p683 P) .nil .nil) .nil)) (N (o235 P) (N (p363 P) (N (p619 P) .nil .nil) .nil) (N (p491 P) (N (p747 P) .nil .nil) .nil)))) (N (o59 P) (N (o91 P) (N (o155 P) (N (o283 P) (N (p539 P) .nil .nil) .nil) (N (p411 P) (N (p667 P) .nil .nil) .nil)) (N (o219 P) (N (o347 P) (N (p603 P) .nil .nil) .nil) (N (p475 P) (N (p731 P) .nil .nil) .nil))) (N (o123 P) (N (o187 P) (N (o315 P) (N (p571 P) .nil .nil) .nil) (N (p443 P) (N (p699 P) .nil .nil) .nil)) (N (o251 P) (N (p379 P) (N (p635 P) .nil .nil) .nil) (N (p507 P) .nil .nil))))))) (N (PySem.W.boot_o_5 P) (N (PySem.W.boot_o_9 P) (N (z17 P) (N (z33 P) (N (o65 P) (N (o129 P) (N (o257 P) (N (p513 P) .nil .nil) .nil) (N (p385 P) (N (p641 P) .nil .nil) .nil)) (N (o193 P) (N (o321 P) (N (p577 P) .nil .nil) .nil) (N (p449 P) (N (p705 P) .nil .nil) .nil))) (N (o97 P) (N (o161 P) (N (o289 P) (N (p545 P) .nil .nil) .nil) (N (p417 P) (N (p673 P) .nil .nil) .nil)) (N (o225 P) (N (p353 P) (N (p609 P) .nil .nil) .nil) (N (p481 P) (N (p737 P) .nil .nil) .nil)))) (N (o49 P) (N (o81 P) (N (o145 P) (N (o273 P) (N (p529 P) .nil .nil) .nil) (N (p401 P) (N (p657 P) .nil .nil) .nil)) (N (o209 P) (N (o337 P) (N (p593 P) .nil .nil) .nil) (N (p465 P) (N (p721 P) .nil .nil) .nil))) (N (o113 P) (N (o177 P) (N (o305 P) (N (p561 P) .nil .nil) .nil) (N (p433 P) (N (p689 P) .nil .nil) .nil)) (N (o241 P) (N (p369 P) (N (p625 P) .nil .nil) .nil) (N (p497 P) (N (p753 P) .nil .nil) .nil))))) (N (z25 P) (N (o41 P) (N (o73 P) (N (o137 P) (N (o265 P) (N (p521 P) .nil .nil) .nil) (N (p393 P) (N (p649 P) .nil .nil) .nil)) (N (o201 P) (N (o329 P) (N (p585 P) .nil .nil) .nil) (N (p457 P) (N (p713 P) .nil .nil) .nil))) (N (o105 P) (N (o169 P) (N (o297 P) (N (p553 P) .nil .nil) .nil) (N (p425 P) (N (p681 P) .nil .nil) .nil)) (N (o233 P) (N (p361 P) (N (p617 P) .nil .nil) .nil) (N (p489 P) (N (p745 P) .nil .nil) .nil)))) (N (o57 P) (N (o89 P) (N (o153 P) (N (o281 P) (N (p537 P) .nil .nil) .nil) (N (p409 P) (N (p665 P) .nil .nil) .nil)) (N (o217 P) (N (o345 P) (N (p601 P) .nil .nil) .nil) (N (p473 P) (N (p729 P) .nil .nil) .nil))) (N (o121 P) (N (o185 P) (N (o313 P) (N (p569 P) .nil .nil) .nil) (N (p441 P) (N (p697 P) .nil .nil) .nil)) (N (o249 P) (N (p377 P) (N (p633 P) .nil .nil) .nil) (N (p505 P) .nil .nil)))))) (N (z13 P) (N (z21 P) (N (y37 P) (N (o69 P) (N (o133 P) (N (o261 P) (N (p517 P) .nil .nil) .nil) (N (p389 P) (N (p645 P) .nil .nil) .nil)) (N (o197 P) (N (o325 P) (N (p581 P) .nil .nil) .nil) (N (p453 P) (N (p709 P) .nil .nil) .nil))) (N (o101 P) (N (o165 P) (N (o293 P) (N (p549 P) .nil .nil) .nil) (N (p421 P) (N (p677 P) .nil .nil) .nil)) (N (o229 P) (N (p357 P) (N (p613 P) .nil .nil) .nil) (N (p485 P) (N (p741 P) .nil .nil) .nil)))) (N (o53 P) (N (o85 P) (N (o149 P) (N (o277 P) (N (p533 P) .nil .nil) .nil) (N (p405 P) (N (p661 P) .nil .nil) .nil)) (N (o213 P) (N (o341 P) (N (p597 P) .nil .nil) .nil) (N (p469 P) (N (p725 P) .nil .nil) .nil))) (N (o117 P) (N (o181 P) (N (o309 P) (N (p565 P) .nil .nil) .nil) (N (p437 P) (N (p693 P) .nil .nil) .nil)) (N (o245 P) (N (p373 P) (N (p629 P) .nil .nil) .nil) (N (p501 P) (N (p757 P) .nil .nil) .nil))))) (N (z29 P) (N (o45 P) (N (o77 P) (N (o141 P) (N (o269 P) (N (p525 P) .nil .nil) .nil) (N (p397 P) (N (p653 P) .nil .nil) .nil)) (N (o205 P) (N (o333 P) (N (p589 P) .nil .nil) .nil) (N (p461 P) (N (p717 P) .nil .nil) .nil))) (N (o109 P) (N (o173 P) (N (o301 P) (N (p557 P) .nil .nil) .nil) (N (p429 P) (N (p685 P) .nil .nil) .nil)) (N (o237 P) (N (p365 P) (N (p621 P) .nil .nil) .nil) (N (p493 P) (N (p749 P) .nil .nil) .nil)))) (N (o61 P) (N (o93 P) (N (o157 P) (N (o285 P) (N (p541 P) .nil .nil) .nil) (N (p413 P) (N (p669 P) .nil .nil) .nil)) (N (o221 P) (N (o349 P) (N (p605 P) .nil .nil) .nil) (N (p477 P) (N (p733 P) .nil .nil) .nil))) (N (o125 P) (N (o189 P) (N (o317 P) (N (p573 P) .nil .nil) .nil) (N (p445 P) (N (p701 P) .nil .nil) .nil)) (N (o253 P) (N (p381 P) (N (p637 P) .nil .nil) .nil) (N (p509 P) .nil .nil)))))))) (N (o2 P) (N (PySem.W.boot_o_4 P) (N (PySem.W.boot_o_8 P) (N (z16 P) (N (z32 P) (N (o64 P) (N (o128 P) (N (o256 P) (N (p512 P) .nil .nil) .nil) (N (p384 P) (N (p640 P) .nil .nil) .nil)) (N (o192 P) (N (o320 P) (N (p576 P) .nil .nil) .nil) (N (p448 P) (N (p704 P) .nil .nil) .nil))) (N (o96 P) (N (o160 P) (N (o288 P) (N (p544 P) .nil .nil) .nil) (N (p416 P) (N (p672 P) .nil .nil) .nil)) (N (o224 P) (N (o352 P) (N (p608 P) .nil .nil) .nil) (N (p480 P) (N (p736 P) .nil .nil) .nil)))) (N (o48 P) (N (o80 P) (N (o144 P) (N (o272 P) (N (p528 P) .nil .nil) .nil) (N (p400 P) (N (p656 P) .nil .nil) .nil)) (N (o208 P) (N (o336 P) (N (p592 P) .nil .nil) .nil) (N (p464 P) (N (p720 P) .nil .nil) .nil))) (N (o112 P) (N (o176 P) (N (o304 P) (N (p560 P) .nil .nil) .nil) (N (p432 P) (N (p688 P) .nil .nil) .nil)) (N (o240 P) (N (p368 P) (N (p624 P) .nil .nil) .nil) (N (p496 P) (N (p752 P) .nil .nil) .nil))))) (N (z24 P) (N (o40 P) (N (o72 P) (N (o136 P) (N (o264 P) (N (p520 P) .nil .nil) .nil) (N (p392 P) (N (p648 P) .nil .nil) .nil)) (N (o200 P) (N (o328 P) (N (p584 P) .nil .nil) .nil) (N (p456 P) (N (p712 P) .nil .nil) .nil))) (N (o104 P) (N (o168 P) (N (o296 P) (N (p552 P) .nil .nil) .nil) (N (p424 P) (N (p680 P) .nil .nil) .nil)) (N (o232 P) (N (p360 P) (N (p616 P) .nil .nil) .nil) (N (p488 P) (N (p744 P) .nil .nil) .nil)))) (N (o56 P) (N (o88 P) (N (o152 P) (N (o280 P) (N (p536 P) .nil .nil) .nil) (N (p408 P) (N (p664 P) .nil .nil) .nil)) (N (o216 P) (N (o344 P) (N (p600 P) .nil .nil) .nil) (N (p472 P) (N (p728 P) .nil .nil) .nil))) (N (p120 P) (N (o184 P) (N (o312 P) (N (p568 P) .nil .nil) .nil) (N (p440 P) (N (p696 P) .nil .nil) .nil)) (N (o248 P) (N (p376 P) (N (p632 P) .nil .nil) .nil) (N (p504 P) .nil .nil)))))) (N (z12 P) (N (z20 P) (N (y36 P) (N (o68 P) (N (o132 P) (N (o260 P) (N (p516 P) .nil .nil) .nil) (N (p388 P) (N (p644 P) .nil .nil) .nil)) (N (o196 P) (N (o324 P) (N (p580 P) .nil .nil) .nil) (N (p452 P) (N (p708 P) .nil .nil) .nil))) (N (o100 P) (N (o164 P) (N (o292 P) (N (p548 P) .nil .nil) .nil) (N (p420 P) (N (p676 P) .nil .nil) .nil)) (N (o228 P) (N (p356 P) (N (p612 P) .nil .nil) .nil) (N (p484 P) (N (p740 P) .nil .nil) .nil)))) (N (o52 P) (N (o84 P) (N (o148 P) (N (o276 P) (N (p532 P) .nil .nil) .nil) (N (p404 P) (N (p660 P) .nil .nil) .nil)) (N (o212 P) (N (o340 P) (N (p596 P) .nil .nil) .nil) (N (p468 P) (N (p724 P) .nil .nil) .nil))) (N (o116 P) (N (o180 P) (N (o308 P) (N (p564 P) .nil .nil) .nil) (N (p436 P) (N (p692 P) .nil .nil) .nil)) (N (o244 P) (N (p372 P) (N (p628 P) .nil .nil) .nil) (N (p500 P) (N (p756 P) .nil .nil) .nil))))) (N (z28 P) (N (o44 P) (N (o76 P) (N (o140 P) (N (o268 P) (N (p524 P) .nil .nil) .nil) (N (p396 P) (N (p652 P) .nil .nil) .nil)) (N (o204 P) (N (o332 P) (N (p588 P) .nil .nil) .nil) (N (p460 P) (N (p716 P) .nil .nil) .nil))) (N (o108 P) (N (o172 P) (N (o300 P) (N (p556 P) .nil .nil) .nil) (N (p428 P) (N (p684 P) .nil .nil) .nil)) (N (o236 P) (N (p364 P) (N (p620 P) .nil .nil) .nil) (N (p492 P) (N (p748 P) .nil .nil) .nil)))) (N (o60 P) (N (o92 P) (N (o156 P) (N (o284 P) (N (p540 P) .nil .nil) .nil) (N (p412 P) (N (p668 P) .nil .nil) .nil)) (N (o220 P) (N (o348 P) (N (p604 P) .nil .nil) .nil) (N (p476 P) (N (p732 P) .nil .nil) .nil))) (N (o124 P) (N (o188 P) (N (o316 P) (N (p572 P) .nil .nil) .nil) (N (p444 P) (N (p700 P) .nil .nil) .nil)) (N (o252 P) (N (p380 P) (N (p636 P) .nil .nil) .nil) (N (p508 P) .nil .nil))))))) (N (PySem.W.boot_o_6 P) (N (PySem.W.boot_o_10 P) (N (z18 P) (N (y34 P) (N (o66 P) (N (o130 P) (N (o258 P) (N (p514 P) .nil .nil) .nil) (N (p386 P) (N (p642 P) .nil .nil) .nil)) (N (o194 P) (N (o322 P) (N (p578 P) .nil .nil) .nil) (N (p450 P) (N (p706 P) .nil .nil) .nil))) (N (o98 P) (N (o162 P) (N (o290 P) (N (p546 P) .nil .nil) .nil) (N (p418 P) (N (p674 P) .nil .nil) .nil)) (N (o226 P) (N (p354 P) (N (p610 P) .nil .nil) .nil) (N (p482 P) (N (p738 P) .nil .nil) .nil)))) (N (o50 P) (N (o82 P) (N (o146 P) (N (o274 P) (N (p530 P) .nil .nil) .nil) (N (p402 P) (N (p658 P) .nil .nil) .nil)) (N (o210 P) (N (o338 P) (N (p594 P) .nil .nil) .nil) (N (p466 P) (N (p722 P) .nil .nil) .nil))) (N (o114 P) (N (o178 P) (N (o306 P) (N (p562 P) .nil .nil) .nil) (N (p434 P) (N (p690 P) .nil .nil) .nil)) (N (o242 P) (N (p370 P) (N (p626 P) .nil .nil) .nil) (N (p498 P) (N (p754 P) .nil .nil) .nil))))) (N (z26 P) (N (o42 P) (N (o74 P) (N (o138 P) (N (o266 P) (N (p522 P) .nil .nil) .nil) (N (p394 P) (N (p650 P) .nil .nil) .nil)) (N (o202 P) (N (o330 P) (N (p586 P) .nil .nil) .nil) (N (p458 P) (N (p714 P) .nil .nil) .nil))) (N (o106 P) (N (o170 P) (N (o298 P) (N (p554 P) .nil .nil) .nil) (N (p426 P) (N (p682 P) .nil .nil) .nil)) (N (o234 P) (N (p362 P) (N (p618 P) .nil .nil) .nil) (N (p490 P) (N (p746 P) .nil .nil) .nil)))) (N (o58 P) (N (o90 P) (N (o154 P) (N (o282 P) (N (p538 P) .nil .nil) .nil) (N (p410 P) (N (p666 P) .nil .nil) .nil)) (N (o218 P) (N (o346 P) (N (p602 P) .nil .nil) .nil) (N (p474 P) (N (p730 P) .nil .nil) .nil))) (N (o122 P) (N (o186 P) (N (o314 P) (N (p570 P) .nil .nil) .nil) (N (p442 P) (N (p698 P) .nil .nil) .nil)) (N (o250 P) (N (p378 P) (N (p634 P) .nil .nil) .nil) (N (p506 P) .nil .nil)))))) (N (z14 P) (N (z22 P) (N (o38 P) (N (o70 P) (N (o134 P) (N (o262 P) (N (p518 P) .nil .nil) .nil) (N (p390 P) (N (p646 P) .nil .nil) .nil)) (N (o198 P) (N (o326 P) (N (p582 P) .nil .nil) .nil) (N (p454 P) (N (p710 P) .nil .nil) .nil))) (N (o102 P) (N (o166 P) (N (o294 P) (N (p550 P) .nil .nil) .nil) (N (p422 P) (N (p678 P) .nil .nil) .nil)) (N (o230 P) (N (p358 P) (N (p614 P) .nil .nil) .nil) (N (p486 P) (N (p742 P) .nil .nil) .nil)))) (N (o54 P) (N (o86 P) (N (o150 P) (N (o278 P) (N (p534 P) .nil .nil) .nil) (N (p406 P) (N (p662 P) .nil .nil) .nil)) (N (o214 P) (N (o342 P) (N (p598 P) .nil .nil) .nil) (N (p470 P) (N (p726 P) .nil .nil) .nil))) (N (o118 P) (N (o182 P) (N (o310 P) (N (p566 P) .nil .nil) .nil) (N (p438 P) (N (p694 P) .nil .nil) .nil)) (N (o246 P) (N (p374 P) (N (p630 P) .nil .nil) .nil) (N (p502 P) (N (p758 P) .nil .nil) .nil))))) (N (z30 P) (N (o46 P) (N (o78 P) (N (o142 P) (N (o270 P) (N (p526 P) .nil .nil) .nil) (N (p398 P) (N (p654 P) .nil .nil) .nil)) (N (o206 P) (N (o334 P) (N (p590 P) .nil .nil) .nil) (N (p462 P) (N (p718 P) .nil .nil) .nil))) (N (o110 P) (N (o174 P) (N (o302 P) (N (p558 P) .nil .nil) .nil) (N (p430 P) (N (p686 P) .nil .nil) .nil)) (N (o238 P) (N (p366 P) (N (p622 P) .nil .nil) .nil) (N (p494 P) (N (p750 P) .nil .nil) .nil)))) (N (o62 P) (N (o94 P) (N (o158 P) (N (o286 P) (N (p542 P) .nil .nil) .nil) (N (p414 P) (N (p670 P) .nil .nil) .nil)) (N (o222 P) (N (o350 P) (N (p606 P) .nil .nil) .nil) (N (p478 P) (N (p734 P) .nil .nil) .nil))) (N (o126 P) (N (o190 P) (N (o318 P) (N (p574 P) .nil .nil) .nil) (N (p446 P) (N (p702 P) .nil .nil) .nil)) (N (o254 P) (N (p382 P) (N (p638 P) .nil .nil) .nil) (N (p510 P) .nil .nil)))))))))
set_option maxRecDepth 100000
set_option maxHeartbeats 0
noncomputable def sT2 (w : World) (os : OsState) : SharedT := ⟨tree2 w.params, 760, {}, #[], {}, 1357, os⟩
noncomputable abbrev br2 : List Stmt := br1.drop 1
noncomputable abbrev br3 : List Stmt := br2.drop 1
noncomputable def v3 (P : Params) : Obj := ⟨(.type "dict"), none, (.dict (Array.mk [E P "__name__" 165 (.str (S "io") 371), E P "__doc__" 166 .none, E P "__package__" 167 .none, E P "__loader__" 168 (.builtin "__main__.__loader__#opaque"), E P "__spec__" 169 .none, E P "__annotations__" 170 (.ref 6), E P "__builtins__" 171 (.ref 4), E P "__file__" 173 (.str (S "/claim/cut.py") 172), E P "__cached__" 174 .none, E P "_sre" 275 (.ref 12), E P "deque" 317 (.type "collections.deque"), E P "_wall" 330 (.ref 44), E P "_twin_re_1" 370 (.ref 49), E P "_whence" 380 (.ref 56), E P "_index" 388 (.ref 63), E P "UnsupportedOperation" 410 (.ref 73), E P "IOBase" 442 (.ref 93), E P "BufferedIOBase" 460 (.ref 108), E P "TextIOBase" 478 (.ref 120), E P "BytesIO" 740 (.ref 350), E P "StringIO" 1027 (.ref 597)]) 21), (Array.mk [])⟩
noncomputable def v35 (P : Params) : Obj := ⟨.none, none, (.fields (Array.mk [(.int 3 0), (.int 0 0), (.ref 43), (.int 8 0), (.int 0 0), (.ref 55), (.int 13 0), (.int 0 0), (.ref 62), (.int 20 0), (.int 0 0), (.ref 69), (.int 22 0), (.int 0 0), (.ref 82), (.int 29 0), (.int 0 0), (.ref 104), (.int 31 0), (.int 0 0), (.ref 116), (.int 33 0), (.int 0 0), (.ref 128), (.int 203 0), (.int 0 0), (.ref 358)])), (Array.mk [])⟩
noncomputable def treeV (P : Params) : BT := (N (PySem.W.boot_o_0 P) (N (z1 P) (N (v3 P) (N (PySem.W.boot_o_7 P) (N (z15 P) (N (z31 P) (N (o63 P) (N (o127 P) (N (o255 P) (N (p511 P) .nil .nil) .nil) (N (p383 P) .nil .nil)) (N (o191 P) (N (o319 P) (N (p575 P) .nil .nil) .nil) (N (p447 P) .nil .nil))) (N (o95 P) (N (o159 P) (N (o287 P) (N (p543 P) .nil .nil) .nil) (N (p415 P) .nil .nil)) (N (o223 P) (N (o351 P) .nil .nil) (N (p479 P) .nil .nil)))) (N (o47 P) (N (o79 P) (N (o143 P) (N (o271 P) (N (p527 P) .nil .nil) .nil) (N (p399 P) .nil .nil)) (N (o207 P) (N (o335 P) (N (p591 P) .nil .nil) .nil) (N (p463 P) .nil .nil))) (N (o111 P) (N (o175 P) (N (o303 P) (N (p559 P) .nil .nil) .nil) (N (p431 P) .nil .nil)) (N (o239 P) (N (p367 P) .nil .nil) (N (p495 P) .nil .nil))))) (N (z23 P) (N (o39 P) (N (o71 P) (N (o135 P) (N (o263 P) (N (p519 P) .nil .nil) .nil) (N (p391 P) .nil .nil)) (N (o199 P) (N (o327 P) (N (p583 P) .nil .nil) .nil) (N (p455 P) .nil .nil))) (N (o103 P) (N (o167 P) (N (o295 P) (N (p551 P) .nil .nil) .nil) (N (p423 P) .nil .nil)) (N (o231 P) (N (p359 P) .nil .nil) (N (p487 P) .nil .nil)))) (N (o55 P) (N (o87 P) (N (o151 P) (N (o279 P) (N (p535 P) .nil .nil) .nil) (N (p407 P) .nil .nil)) (N (o215 P) (N (o343 P) (N (p599 P) .nil .nil) .nil) (N (p471 P) .nil .nil))) (N (o119 P) (N (o183 P) (N (o311 P) (N (p567 P) .nil .nil) .nil) (N (p439 P) .nil .nil)) (N (o247 P) (N (p375 P) .nil .nil) (N (p503 P) .nil .nil)))))) (N (z11 P) (N (z19 P) (N (v35 P) (N (o67 P) (N (o131 P) (N (o259 P) (N (p515 P) .nil .nil) .nil) (N (p387 P) .nil .nil)) (N (o195 P) (N (o323 P) (N (p579 P) .nil .nil) .nil) (N (p451 P) .nil .nil))) (N (o99 P) (N (o163 P) (N (o291 P) (N (p547 P) .nil .nil) .nil) (N (p419 P) .nil .nil)) (N (o227 P) (N (p355 P) .nil .nil) (N (p483 P) .nil .nil)))) (N (o51 P) (N (o83 P) (N (o147 P) (N (o275 P) (N (p531 P) .nil .nil) .nil) (N (p403 P) .nil .nil)) (N (o211 P) (N (o339 P) (N (p595 P) .nil .nil) .nil) (N (p467 P) .nil .nil))) (N (o115 P) (N (o179 P) (N (o307 P) (N (p563 P) .nil .nil) .nil) (N (p435 P) .nil .nil)) (N (o243 P) (N (p371 P) .nil .nil) (N (p499 P) .nil .nil))))) (N (z27 P) (N (o43 P) (N (o75 P) (N (o139 P) (N (o267 P) (N (p523 P) .nil .nil) .nil) (N (p395 P) .nil .nil)) (N (o203 P) (N (o331 P) (N (p587 P) .nil .nil) .nil) (N (p459 P) .nil .nil))) (N (o107 P) (N (o171 P) (N (o299 P) (N (p555 P) .nil .nil) .nil) (N (p427 P) .nil .nil)) (N (o235 P) (N (p363 P) .nil .nil) (N (p491 P) .nil .nil)))) (N (o59 P) (N (o91 P) (N (o155 P) (N (o283 P) (N (p539 P) .nil .nil) .nil) (N (p411 P) .nil .nil)) (N (o219 P) (N (o347 P) .nil .nil) (N (p475 P) .nil .nil))) (N (o123 P) (N (o187 P) (N (o315 P) (N (p571 P) .nil .nil) .nil) (N (p443 P) .nil .nil)) (N (o251 P) (N (p379 P) .nil .nil) (N (p507 P) .nil .nil))))))) (N (PySem.W.boot_o_5 P) (N (PySem.W.boot_o_9 P) (N (z17 P) (N (z33 P) (N (o65 P) (N (o129 P) (N (o257 P) (N (p513 P) .nil .nil) .nil) (N (p385 P) .nil .nil)) (N (o193 P) (N (o321 P) (N (p577 P) .nil .nil) .nil) (N (p449 P) .nil .nil))) (N (o97 P) (N (o161 P) (N (o289 P) (N (p545 P) .nil .nil) .nil) (N (p417 P) .nil .nil)) (N (o225 P) (N (p353 P) .nil .nil) (N (p481 P) .nil .nil)))) (N (o49 P) (N (o81 P) (N (o145 P) (N (o273 P) (N (p529 P) .nil .nil) .nil) (N (p401 P) .nil .nil)) (N (o209 P) (N (o337 P) (N (p593 P) .nil .nil) .nil) (N (p465 P) .nil .nil))) (N (o113 P) (N (o177 P) (N (o305 P) (N (p561 P) .nil .nil) .nil) (N (p433 P) .nil .nil)) (N (o241 P) (N (p369 P) .nil .nil) (N (p497 P) .nil .nil))))) (N (z25 P) (N (o41 P) (N (o73 P) (N (o137 P) (N (o265 P) (N (p521 P) .nil .nil) .nil) (N (p393 P) .nil .nil)) (N (o201 P) (N (o329 P) (N (p585 P) .nil .nil) .nil) (N (p457 P) .nil .nil))) (N (o105 P) (N (o169 P) (N (o297 P) (N (p553 P) .nil .nil) .nil) (N (p425 P) .nil .nil)) (N (o233 P) (N (p361 P) .nil .nil) (N (p489 P) .nil .nil)))) (N (o57 P) (N (o89 P) (N (o153 P) (N (o281 P) (N (p537 P) .nil .nil) .nil) (N (p409 P) .nil .nil)) (N (o217 P) (N (o345 P) .nil .nil) (N (p473 P) .nil .nil))) (N (o121 P) (N (o185 P) (N (o313 P) (N (p569 P) .nil .nil) .nil) (N (p441 P) .nil .nil)) (N (o249 P) (N (p377 P) .nil .nil) (N (p505 P) .nil .nil)))))) (N (z13 P) (N (z21 P) (N (y37 P) (N (o69 P) (N (o133 P) (N (o261 P) (N (p517 P) .nil .nil) .nil) (N (p389 P) .nil .nil)) (N (o197 P) (N (o325 P) (N (p581 P) .nil .nil) .nil) (N (p453 P) .nil .nil))) (N (o101 P) (N (o165 P) (N (o293 P) (N (p549 P) .nil .nil) .nil) (N (p421 P) .nil .nil)) (N (o229 P) (N (p357 P) .nil .nil) (N (p485 P) .nil .nil)))) (N (o53 P) (N (o85 P) (N (o149 P) (N (o277 P) (N (p533 P) .nil .nil) .nil) (N (p405 P) .nil .nil)) (N (o213 P) (N (o341 P) (N (p597 P) .nil .nil) .nil) (N (p469 P) .nil .nil))) (N (o117 P) (N (o181 P) (N (o309 P) (N (p565 P) .nil .nil) .nil) (N (p437 P) .nil .nil)) (N (o245 P) (N (p373 P) .nil .nil) (N (p501 P) .nil .nil))))) (N (z29 P) (N (o45 P) (N (o77 P) (N (o141 P) (N (o269 P) (N (p525 P) .nil .nil) .nil) (N (p397 P) .nil .nil)) (N (o205 P) (N (o333 P) (N (p589 P) .nil .nil) .nil) (N (p461 P) .nil .nil))) (N (o109 P) (N (o173 P) (N (o301 P) (N (p557 P) .nil .nil) .nil) (N (p429 P) .nil .nil)) (N (o237 P) (N (p365 P) .nil .nil) (N (p493 P) .nil .nil)))) (N (o61 P) (N (o93 P) (N (o157 P) (N (o285 P) (N (p541 P) .nil .nil) .nil) (N (p413 P) .nil .nil)) (N (o221 P) (N (o349 P) .nil .nil) (N (p477 P) .nil .nil))) (N (o125 P) (N (o189 P) (N (o317 P) (N (p573 P) .nil .nil) .nil) (N (p445 P) .nil .nil)) (N (o253 P) (N (p381 P) .nil .nil) (N (p509 P) .nil .nil)))))))) (N (o2 P) (N (PySem.W.boot_o_4 P) (N (PySem.W.boot_o_8 P) (N (z16 P) (N (z32 P) (N (o64 P) (N (o128 P) (N (o256 P) (N (p512 P) .nil .nil) .nil) (N (p384 P) .nil .nil)) (N (o192 P) (N (o320 P) (N (p576 P) .nil .nil) .nil) (N (p448 P) .nil .nil))) (N (o96 P) (N (o160 P) (N (o288 P) (N (p544 P) .nil .nil) .nil) (N (p416 P) .nil .nil)) (N (o224 P) (N (o352 P) .nil .nil) (N (p480 P) .nil .nil)))) (N (o48 P) (N (o80 P) (N (o144 P) (N (o272 P) (N (p528 P) .nil .nil) .nil) (N (p400 P) .nil .nil)) (N (o208 P) (N (o336 P) (N (p592 P) .nil .nil) .nil) (N (p464 P) .nil .nil))) (N (o112 P) (N (o176 P) (N (o304 P) (N (p560 P) .nil .nil) .nil) (N (p432 P) .nil .nil)) (N (o240 P) (N (p368 P) .nil .nil) (N (p496 P) .nil .nil))))) (N (z24 P) (N (o40 P) (N (o72 P) (N (o136 P) (N (o264 P) (N (p520 P) .nil .nil) .nil) (N (p392 P) .nil .nil)) (N (o200 P) (N (o328 P) (N (p584 P) .nil .nil) .nil) (N (p456 P) .nil .nil))) (N (o104 P) (N (o168 P) (N (o296 P) (N (p552 P) .nil .nil) .nil) (N (p424 P) .nil .nil)) (N (o232 P) (N (p360 P) .nil .nil) (N (p488 P) .nil .nil)))) (N (o56 P) (N (o88 P) (N (o152 P) (N (o280 P) (N (p536 P) .nil .nil) .nil) (N (p408 P) .nil .nil)) (N (o216 P) (N (o344 P) .nil .nil) (N (p472 P) .nil .nil))) (N (p120 P) (N (o184 P) (N (o312 P) (N (p568 P) .nil .nil) .nil) (N (p440 P) .nil .nil)) (N (o248 P) (N (p376 P) .nil .nil) (N (p504 P) .nil .nil)))))) (N (z12 P) (N (z20 P) (N (y36 P) (N (o68 P) (N (o132 P) (N (o260 P) (N (p516 P) .nil .nil) .nil) (N (p388 P) .nil .nil)) (N (o196 P) (N (o324 P) (N (p580 P) .nil .nil) .nil) (N (p452 P) .nil .nil))) (N (o100 P) (N (o164 P) (N (o292 P) (N (p548 P) .nil .nil) .nil) (N (p420 P) .nil .nil)) (N (o228 P) (N (p356 P) .nil .nil) (N (p484 P) .nil .nil)))) (N (o52 P) (N (o84 P) (N (o148 P) (N (o276 P) (N (p532 P) .nil .nil) .nil) (N (p404 P) .nil .nil)) (N (o212 P) (N (o340 P) (N (p596 P) .nil .nil) .nil) (N (p468 P) .nil .nil))) (N (o116 P) (N (o180 P) (N (o308 P) (N (p564 P) .nil .nil) .nil) (N (p436 P) .nil .nil)) (N (o244 P) (N (p372 P) .nil .nil) (N (p500 P) .nil .nil))))) (N (z28 P) (N (o44 P) (N (o76 P) (N (o140 P) (N (o268 P) (N (p524 P) .nil .nil) .nil) (N (p396 P) .nil .nil)) (N (o204 P) (N (o332 P) (N (p588 P) .nil .nil) .nil) (N (p460 P) .nil .nil))) (N (o108 P) (N (o172 P) (N (o300 P) (N (p556 P) .nil .nil) .nil) (N (p428 P) .nil .nil)) (N (o236 P) (N (p364 P) .nil .nil) (N (p492 P) .nil .nil)))) (N (o60 P) (N (o92 P) (N (o156 P) (N (o284 P) (N (p540 P) .nil .nil) .nil) (N (p412 P) .nil .nil)) (N (o220 P) (N (o348 P) .nil .nil) (N (p476 P) .nil .nil))) (N (o124 P) (N (o188 P) (N (o316 P) (N (p572 P) .nil .nil) .nil) (N (p444 P) .nil .nil)) (N (o252 P) (N (p380 P) .nil .nil) (N (p508 P) .nil .nil))))))) (N (PySem.W.boot_o_6 P) (N (PySem.W.boot_o_10 P) (N (z18 P) (N (y34 P) (N (o66 P) (N (o130 P) (N (o258 P) (N (p514 P) .nil .nil) .nil) (N (p386 P) .nil .nil)) (N (o194 P) (N (o322 P) (N (p578 P) .nil .nil) .nil) (N (p450 P) .nil .nil))) (N (o98 P) (N (o162 P) (N (o290 P) (N (p546 P) .nil .nil) .nil) (N (p418 P) .nil .nil)) (N (o226 P) (N (p354 P) .nil .nil) (N (p482 P) .nil .nil)))) (N (o50 P) (N (o82 P) (N (o146 P) (N (o274 P) (N (p530 P) .nil .nil) .nil) (N (p402 P) .nil .nil)) (N (o210 P) (N (o338 P) (N (p594 P) .nil .nil) .nil) (N (p466 P) .nil .nil))) (N (o114 P) (N (o178 P) (N (o306 P) (N (p562 P) .nil .nil) .nil) (N (p434 P) .nil .nil)) (N (o242 P) (N (p370 P) .nil .nil) (N (p498 P) .nil .nil))))) (N (z26 P) (N (o42 P) (N (o74 P) (N (o138 P) (N (o266 P) (N (p522 P) .nil .nil) .nil) (N (p394 P) .nil .nil)) (N (o202 P) (N (o330 P) (N (p586 P) .nil .nil) .nil) (N (p458 P) .nil .nil))) (N (o106 P) (N (o170 P) (N (o298 P) (N (p554 P) .nil .nil) .nil) (N (p426 P) .nil .nil)) (N (o234 P) (N (p362 P) .nil .nil) (N (p490 P) .nil .nil)))) (N (o58 P) (N (o90 P) (N (o154 P) (N (o282 P) (N (p538 P) .nil .nil) .nil) (N (p410 P) .nil .nil)) (N (o218 P) (N (o346 P) .nil .nil) (N (p474 P) .nil .nil))) (N (o122 P) (N (o186 P) (N (o314 P) (N (p570 P) .nil .nil) .nil) (N (p442 P) .nil .nil)) (N (o250 P) (N (p378 P) .nil .nil) (N (p506 P) .nil .nil)))))) (N (z14 P) (N (z22 P) (N (o38 P) (N (o70 P) (N (o134 P) (N (o262 P) (N (p518 P) .nil .nil) .nil) (N (p390 P) .nil .nil)) (N (o198 P) (N (o326 P) (N (p582 P) .nil .nil) .nil) (N (p454 P) .nil .nil))) (N (o102 P) (N (o166 P) (N (o294 P) (N (p550 P) .nil .nil) .nil) (N (p422 P) .nil .nil)) (N (o230 P) (N (p358 P) .nil .nil) (N (p486 P) .nil .nil)))) (N (o54 P) (N (o86 P) (N (o150 P) (N (o278 P) (N (p534 P) .nil .nil) .nil) (N (p406 P) .nil .nil)) (N (o214 P) (N (o342 P) (N (p598 P) .nil .nil) .nil) (N (p470 P) .nil .nil))) (N (o118 P) (N (o182 P) (N (o310 P) (N (p566 P) .nil .nil) .nil) (N (p438 P) .nil .nil)) (N (o246 P) (N (p374 P) .nil .nil) (N (p502 P) .nil .nil))))) (N (z30 P) (N (o46 P) (N (o78 P) (N (o142 P) (N (o270 P) (N (p526 P) .nil .nil) .nil) (N (p398 P) .nil .nil)) (N (o206 P) (N (o334 P) (N (p590 P) .nil .nil) .nil) (N (p462 P) .nil .nil))) (N (o110 P) (N (o174 P) (N (o302 P) (N (p558 P) .nil .nil) .nil) (N (p430 P) .nil .nil)) (N (o238 P) (N (p366 P) .nil .nil) (N (p494 P) .nil .nil)))) (N (o62 P) (N (o94 P) (N (o158 P) (N (o286 P) (N (p542 P) .nil .nil) .nil) (N (p414 P) .nil .nil)) (N (o222 P) (N (o350 P) .nil .nil) (N (p478 P) .nil .nil))) (N (o126 P) (N (o190 P) (N (o318 P) (N (p574 P) .nil .nil) .nil) (N (p446 P) .nil .nil)) (N (o254 P) (N (p382 P) .nil .nil) (N (p510 P) .nil .nil)))))))))
noncomputable def sTV (w : World) (os : OsState) : SharedT := ⟨treeV w.params, 600, {}, #[], {}, 1028, os⟩
theorem h_B1 : ∀ (w : World) (os : OsState), segRunT treeTable pw w 34 (some (.ref 6)) 1 1700 (sT1 w os) (piecesOf (br2.take 1) ev cdB ⟨33, 0, 202, 17⟩ [topFrame z4]) = some (.next, sTV w os, cdB, ⟨203, 0, 407, 17⟩) := by
  rw [PySem.W.Fast.te10110043849684766642, PySem.W.Fast.te14364793385576792824]
  intro w os
  kernel_rfl
theorem h_B2 : ∀ (w : World) (os : OsState), segRunT treeTable pw w 34 (some (.ref 6)) 1 1600 (sTV w os) (piecesOf (br3.take 66) ev cdB ⟨203, 0, 407, 17⟩ [topFrame z4]) = some (.next, sT2 w os, cdB, ⟨793, 0, 793, 9⟩) := by
  rw [PySem.W.Fast.te10110043849684766642, PySem.W.Fast.te14364793385576792824]
  intro w os
  kernel_rfl
noncomputable def k3 (P : Params) : Obj := ⟨(.type "dict"), none, (.dict (Array.mk [E P "__name__" 165 (.str (S "law_ox0135_01") 1475), E P "__doc__" 166 .none, E P "__package__" 167 .none, E P "__loader__" 168 (.builtin "__main__.__loader__#opaque"), E P "__spec__" 169 .none, E P "__annotations__" 170 (.ref 6), E P "__builtins__" 171 (.ref 4), E P "__file__" 173 (.str (S "/claim/cut.py") 172), E P "__cached__" 174 .none, E P "_sre" 275 (.ref 12), E P "deque" 317 (.type "collections.deque"), E P "_wall" 330 (.ref 44), E P "_twin_re_1" 370 (.ref 49), E P "_whence" 380 (.ref 56), E P "_index" 388 (.ref 63), E P "UnsupportedOperation" 410 (.ref 73), E P "IOBase" 442 (.ref 93), E P "BufferedIOBase" 460 (.ref 108), E P "TextIOBase" 478 (.ref 120), E P "BytesIO" 740 (.ref 350), E P "StringIO" 1027 (.ref 597), E P "_kind" 1038 (.ref 606), E P "_fspath" 1047 (.ref 613), E P "_check_arg_types" 1057 (.ref 620), E P "isabs" 1064 (.ref 627), E P "join" 1075 (.ref 751), E P "join_path" 1076 (.ref 634), E P "dirname" 1086 (.ref 641), E P "shlex" 1227 (.ref 732), E P "split" 1237 (.ref 744), E P "join_shlex" 1245 (.ref 751), E P "_find_unsafe" 1247 (.ref 752), E P "quote" 1254 (.ref 759), E P "ENDMARKER" 1258 (.int 0 1257), E P "LPAR" 1260 (.int 7 1259), E P "RPAR" 1262 (.int 8 1261), E P "LSQB" 1264 (.int 9 1263), E P "RSQB" 1266 (.int 10 1265), E P "COLON" 1268 (.int 11 1267), E P "COMMA" 1270 (.int 12 1269), E P "SEMI" 1272 (.int 13 1271), E P "PLUS" 1274 (.int 14 1273), E P "MINUS" 1276 (.int 15 1275), E P "STAR" 1278 (.int 16 1277), E P "SLASH" 1280 (.int 17 1279), E P "VBAR" 1282 (.int 18 1281), E P "AMPER" 1284 (.int 19 1283), E P "LESS" 1286 (.int 20 1285), E P "GREATER" 1288 (.int 21 1287), E P "EQUAL" 1290 (.int 22 1289), E P "DOT" 1292 (.int 23 1291), E P "PERCENT" 1294 (.int 24 1293), E P "LBRACE" 1296 (.int 25 1295), E P "RBRACE" 1298 (.int 26 1297), E P "EQEQUAL" 1300 (.int 27 1299), E P "NOTEQUAL" 1302 (.int 28 1301), E P "LESSEQUAL" 1304 (.int 29 1303), E P "GREATEREQUAL" 1306 (.int 30 1305), E P "TILDE" 1308 (.int 31 1307), E P "CIRCUMFLEX" 1310 (.int 32 1309), E P "LEFTSHIFT" 1312 (.int 33 1311), E P "RIGHTSHIFT" 1314 (.int 34 1313), E P "DOUBLESTAR" 1316 (.int 35 1315), E P "PLUSEQUAL" 1318 (.int 36 1317), E P "MINEQUAL" 1320 (.int 37 1319), E P "STAREQUAL" 1322 (.int 38 1321), E P "SLASHEQUAL" 1324 (.int 39 1323), E P "PERCENTEQUAL" 1326 (.int 40 1325), E P "AMPEREQUAL" 1328 (.int 41 1327), E P "VBAREQUAL" 1330 (.int 42 1329), E P "CIRCUMFLEXEQUAL" 1332 (.int 43 1331), E P "LEFTSHIFTEQUAL" 1334 (.int 44 1333), E P "RIGHTSHIFTEQUAL" 1336 (.int 45 1335), E P "DOUBLESTAREQUAL" 1338 (.int 46 1337), E P "DOUBLESLASH" 1340 (.int 47 1339), E P "DOUBLESLASHEQUAL" 1342 (.int 48 1341), E P "AT" 1344 (.int 49 1343), E P "ATEQUAL" 1346 (.int 50 1345), E P "RARROW" 1348 (.int 51 1347), E P "ELLIPSIS" 1350 (.int 52 1349), E P "COLONEQUAL" 1352 (.int 53 1351), E P "EXCLAMATION" 1354 (.int 54 1353), E P "NT_OFFSET" 1356 (.int 256 1355), E P "EXACT_TOKEN_TYPES" 1453 (.ref 760), E P "ISTERMINAL" 1460 (.ref 769), E P "ISNONTERMINAL" 1467 (.ref 776), E P "ISEOF" 1474 (.ref 783), E P "_law_symbol" 1483 (.ref 790), E P "_law_word" 1489 (.ref 795), E P "_law_number" 1496 (.ref 802), E P "_law_told" 1502 (.ref 807), E P "_law_tokens" 1508 (.ref 812), E P "_law_readers" 1519 (.ref 819), E P "law" 1525 (.ref 824)]) 94), (Array.mk [])⟩
noncomputable def k824 (P : Params) : Obj := ⟨(.type "function"), none, (.func (fnAt (tp 90) (S "law") (S "law") 3 [] .none .none .none (.str (S "law_ox0135_01") 1475) none (.ref 823) .none 0)), (Array.mk [])⟩
noncomputable def k823 (P : Params) : Obj := ⟨(.type "code"), none, (.fields (Array.mk [(.str (S "law") 1520), (.str (S "law") 1521), (.str (S "/claim/cut.py") 1522), (.int 839 0), (.int 1 0), (.int 0 0), (.int 0 0), (.int 3 0), (.ref 820), (.bool true), (.int 318 0), (.ref 821), .none, .none, .none, (.ref 822), (.int 1523 0), (.int 839 0), (.str (S "/claim/cut.py") 1524)])), (Array.mk [])⟩
noncomputable def k819 (P : Params) : Obj := ⟨(.type "function"), none, (.func (fnAt (tp 89) (S "_law_readers") (S "_law_readers") 3 [] .none .none .none (.str (S "law_ox0135_01") 1475) none (.ref 818) .none 0)), (Array.mk [])⟩
noncomputable def k818 (P : Params) : Obj := ⟨(.type "code"), none, (.fields (Array.mk [(.str (S "_law_readers") 1509), (.str (S "_law_readers") 1510), (.str (S "/claim/cut.py") 1511), (.int 835 0), (.int 3 0), (.int 0 0), (.int 0 0), (.int 3 0), (.ref 813), (.bool true), (.int 318 0), (.ref 814), .none, (.ref 815), (.ref 816), (.ref 817), (.int 1517 0), (.int 835 0), (.str (S "/claim/cut.py") 1518)])), (Array.mk [])⟩
noncomputable def k812 (P : Params) : Obj := ⟨(.type "function"), none, (.func (fnAt (tp 88) (S "_law_tokens") (S "_law_tokens") 3 [] .none .none .none (.str (S "law_ox0135_01") 1475) none (.ref 811) .none 0)), (Array.mk [])⟩
noncomputable def k811 (P : Params) : Obj := ⟨(.type "code"), none, (.fields (Array.mk [(.str (S "_law_tokens") 1503), (.str (S "_law_tokens") 1504), (.str (S "/claim/cut.py") 1505), (.int 826 0), (.int 3 0), (.int 0 0), (.int 0 0), (.int 3 0), (.ref 808), (.bool true), (.int 318 0), (.ref 809), .none, .none, .none, (.ref 810), (.int 1506 0), (.int 826 0), (.str (S "/claim/cut.py") 1507)])), (Array.mk [])⟩
noncomputable def k807 (P : Params) : Obj := ⟨(.type "function"), none, (.func (fnAt (tp 87) (S "_law_told") (S "_law_told") 3 [] .none .none .none (.str (S "law_ox0135_01") 1475) none (.ref 806) .none 0)), (Array.mk [])⟩
noncomputable def k806 (P : Params) : Obj := ⟨(.type "code"), none, (.fields (Array.mk [(.str (S "_law_told") 1497), (.str (S "_law_told") 1498), (.str (S "/claim/cut.py") 1499), (.int 818 0), (.int 1 0), (.int 0 0), (.int 0 0), (.int 3 0), (.ref 803), (.bool true), (.int 318 0), (.ref 804), .none, .none, .none, (.ref 805), (.int 1500 0), (.int 818 0), (.str (S "/claim/cut.py") 1501)])), (Array.mk [])⟩
noncomputable def k802 (P : Params) : Obj := ⟨(.type "function"), none, (.func (fnAt (tp 86) (S "_law_number") (S "_law_number") 3 [] .none .none .none (.str (S "law_ox0135_01") 1475) none (.ref 801) .none 0)), (Array.mk [])⟩
noncomputable def k801 (P : Params) : Obj := ⟨(.type "code"), none, (.fields (Array.mk [(.str (S "_law_number") 1490), (.str (S "_law_number") 1491), (.str (S "/claim/cut.py") 1492), (.int 812 0), (.int 1 0), (.int 0 0), (.int 0 0), (.int 3 0), (.ref 796), (.bool true), (.int 318 0), (.ref 797), .none, (.ref 798), (.ref 799), (.ref 800), (.int 1494 0), (.int 812 0), (.str (S "/claim/cut.py") 1495)])), (Array.mk [])⟩
noncomputable def k795 (P : Params) : Obj := ⟨(.type "function"), none, (.func (fnAt (tp 85) (S "_law_word") (S "_law_word") 3 [] .none .none .none (.str (S "law_ox0135_01") 1475) none (.ref 794) .none 0)), (Array.mk [])⟩
noncomputable def k794 (P : Params) : Obj := ⟨(.type "code"), none, (.fields (Array.mk [(.str (S "_law_word") 1484), (.str (S "_law_word") 1485), (.str (S "/claim/cut.py") 1486), (.int 806 0), (.int 1 0), (.int 0 0), (.int 0 0), (.int 3 0), (.ref 791), (.bool true), (.int 318 0), (.ref 792), .none, .none, .none, (.ref 793), (.int 1487 0), (.int 806 0), (.str (S "/claim/cut.py") 1488)])), (Array.mk [])⟩
noncomputable def k790 (P : Params) : Obj := ⟨(.type "function"), none, (.func (fnAt (tp 84) (S "_law_symbol") (S "_law_symbol") 3 [] .none .none .none (.str (S "law_ox0135_01") 1475) none (.ref 789) .none 0)), (Array.mk [])⟩
noncomputable def k789 (P : Params) : Obj := ⟨(.type "code"), none, (.fields (Array.mk [(.str (S "_law_symbol") 1477), (.str (S "_law_symbol") 1478), (.str (S "/claim/cut.py") 1479), (.int 802 0), (.int 1 0), (.int 0 0), (.int 0 0), (.int 3 0), (.ref 784), (.bool true), (.int 318 0), (.ref 785), .none, (.ref 786), (.ref 787), (.ref 788), (.int 1481 0), (.int 802 0), (.str (S "/claim/cut.py") 1482)])), (Array.mk [])⟩
noncomputable def k783 (P : Params) : Obj := ⟨(.type "function"), none, (.func (fnAt (tp 82) (S "ISEOF") (S "ISEOF") 3 [] .none .none .none (.str (S "cpy313.token") 1255) none (.ref 782) .none 0)), (Array.mk [])⟩
noncomputable def k782 (P : Params) : Obj := ⟨(.type "code"), none, (.fields (Array.mk [(.str (S "ISEOF") 1468), (.str (S "ISEOF") 1469), (.str (S "/claim/cut.py") 1470), (.int 799 0), (.int 1 0), (.int 0 0), (.int 0 0), (.int 3 0), (.ref 777), (.bool true), (.int 318 0), (.ref 778), .none, (.ref 779), (.ref 780), (.ref 781), (.int 1472 0), (.int 799 0), (.str (S "/claim/cut.py") 1473)])), (Array.mk [])⟩
noncomputable def k776 (P : Params) : Obj := ⟨(.type "function"), none, (.func (fnAt (tp 81) (S "ISNONTERMINAL") (S "ISNONTERMINAL") 3 [] .none .none .none (.str (S "cpy313.token") 1255) none (.ref 775) .none 0)), (Array.mk [])⟩
noncomputable def k775 (P : Params) : Obj := ⟨(.type "code"), none, (.fields (Array.mk [(.str (S "ISNONTERMINAL") 1461), (.str (S "ISNONTERMINAL") 1462), (.str (S "/claim/cut.py") 1463), (.int 797 0), (.int 1 0), (.int 0 0), (.int 0 0), (.int 3 0), (.ref 770), (.bool true), (.int 318 0), (.ref 771), .none, (.ref 772), (.ref 773), (.ref 774), (.int 1465 0), (.int 797 0), (.str (S "/claim/cut.py") 1466)])), (Array.mk [])⟩
noncomputable def k769 (P : Params) : Obj := ⟨(.type "function"), none, (.func (fnAt (tp 80) (S "ISTERMINAL") (S "ISTERMINAL") 3 [] .none .none .none (.str (S "cpy313.token") 1255) none (.ref 768) .none 0)), (Array.mk [])⟩
noncomputable def k768 (P : Params) : Obj := ⟨(.type "code"), none, (.fields (Array.mk [(.str (S "ISTERMINAL") 1454), (.str (S "ISTERMINAL") 1455), (.str (S "/claim/cut.py") 1456), (.int 795 0), (.int 1 0), (.int 0 0), (.int 0 0), (.int 3 0), (.ref 763), (.bool true), (.int 318 0), (.ref 764), .none, (.ref 765), (.ref 766), (.ref 767), (.int 1458 0), (.int 795 0), (.str (S "/claim/cut.py") 1459)])), (Array.mk [])⟩
noncomputable def k760 (P : Params) : Obj := ⟨(.type "dict"), none, (.dict (Array.mk [E P "!" 1357 (.int 54 1353), E P "!=" 1359 (.int 28 1301), E P "%" 1361 (.int 24 1293), E P "%=" 1363 (.int 40 1325), E P "&" 1365 (.int 19 1283), E P "&=" 1367 (.int 41 1327), E P "(" 1369 (.int 7 1259), E P ")" 1371 (.int 8 1261), E P "*" 1373 (.int 16 1277), E P "**" 1375 (.int 35 1315), E P "**=" 1377 (.int 46 1337), E P "*=" 1379 (.int 38 1321), E P "+" 1381 (.int 14 1273), E P "+=" 1383 (.int 36 1317), E P "," 1385 (.int 12 1269), E P "-" 1387 (.int 15 1275), E P "-=" 1389 (.int 37 1319), E P "->" 1391 (.int 51 1347), E P "." 1393 (.int 23 1291), E P "..." 1395 (.int 52 1349), E P "/" 1397 (.int 17 1279), E P "//" 1399 (.int 47 1339), E P "//=" 1401 (.int 48 1341), E P "/=" 1403 (.int 39 1323), E P ":" 1405 (.int 11 1267), E P ":=" 1407 (.int 53 1351), E P ";" 1409 (.int 13 1271), E P "<" 1411 (.int 20 1285), E P "<<" 1413 (.int 33 1311), E P "<<=" 1415 (.int 44 1333), E P "<=" 1417 (.int 29 1303), E P "=" 1419 (.int 22 1289), E P "==" 1421 (.int 27 1299), E P ">" 1423 (.int 21 1287), E P ">=" 1425 (.int 30 1305), E P ">>" 1426 (.int 34 1313), E P ">>=" 1427 (.int 45 1335), E P "@" 1428 (.int 49 1343), E P "@=" 1429 (.int 50 1345), E P "[" 1430 (.int 9 1263), E P "]" 1431 (.int 10 1265), E P "^" 1432 (.int 32 1309), E P "^=" 1433 (.int 43 1331), E P "{" 1434 (.int 25 1295), E P "|" 1435 (.int 18 1281), E P "|=" 1436 (.int 42 1329), E P "}" 1437 (.int 26 1297), E P "~" 1438 (.int 31 1307)]) 48), (Array.mk [])⟩
noncomputable def K (P : Params) : Frag := (nat_lit 3, k3 P) :: (nat_lit 732, p732 P) :: (nat_lit 731, p731 P) :: (nat_lit 597, p597 P) :: (nat_lit 596, p596 P) :: (nat_lit 120, p120 P) :: (nat_lit 119, o119 P) :: (nat_lit 93, o93 P) :: (nat_lit 92, o92 P) :: (nat_lit 664, p664 P) :: (nat_lit 94, o94 P) :: (nat_lit 350, o350 P) :: (nat_lit 824, k824 P) :: (nat_lit 823, k823 P) :: (nat_lit 819, k819 P) :: (nat_lit 818, k818 P) :: (nat_lit 812, k812 P) :: (nat_lit 811, k811 P) :: (nat_lit 807, k807 P) :: (nat_lit 806, k806 P) :: (nat_lit 802, k802 P) :: (nat_lit 801, k801 P) :: (nat_lit 795, k795 P) :: (nat_lit 794, k794 P) :: (nat_lit 790, k790 P) :: (nat_lit 789, k789 P) :: (nat_lit 783, k783 P) :: (nat_lit 782, k782 P) :: (nat_lit 776, k776 P) :: (nat_lit 775, k775 P) :: (nat_lit 769, k769 P) :: (nat_lit 768, k768 P) :: (nat_lit 759, p759 P) :: (nat_lit 758, p758 P) :: (nat_lit 751, p751 P) :: (nat_lit 750, p750 P) :: (nat_lit 744, p744 P) :: (nat_lit 743, p743 P) :: (nat_lit 737, p737 P) :: (nat_lit 729, p729 P) :: (nat_lit 728, p728 P) :: (nat_lit 722, p722 P) :: (nat_lit 721, p721 P) :: (nat_lit 700, p700 P) :: (nat_lit 699, p699 P) :: (nat_lit 693, p693 P) :: (nat_lit 692, p692 P) :: (nat_lit 663, p663 P) :: (nat_lit 662, p662 P) :: (nat_lit 656, p656 P) :: (nat_lit 655, p655 P) :: (nat_lit 649, p649 P) :: (nat_lit 543, p543 P) :: (nat_lit 542, p542 P) :: (nat_lit 536, p536 P) :: (nat_lit 381, p381 P) :: (nat_lit 380, p380 P) :: (nat_lit 374, p374 P) :: (nat_lit 373, p373 P) :: (nat_lit 367, p367 P) :: (nat_lit 366, p366 P) :: (nat_lit 360, p360 P) :: (nat_lit 90, o90 P) :: (nat_lit 89, o89 P) :: (nat_lit 63, o63 P) :: (nat_lit 62, o62 P) :: (nat_lit 44, o44 P) :: (nat_lit 43, o43 P) :: (nat_lit 733, p733 P) :: (nat_lit 95, o95 P) :: (nat_lit 760, k760 P) :: (nat_lit 752, p752 P) :: (nat_lit 49, o49 P) :: (nat_lit 48, o48 P) :: (nat_lit 2, o2 P) :: []
noncomputable def kAs : List Addr := (nat_lit 3 : Addr) :: (nat_lit 732 : Addr) :: (nat_lit 731 : Addr) :: (nat_lit 597 : Addr) :: (nat_lit 596 : Addr) :: (nat_lit 120 : Addr) :: (nat_lit 119 : Addr) :: (nat_lit 93 : Addr) :: (nat_lit 92 : Addr) :: (nat_lit 664 : Addr) :: (nat_lit 94 : Addr) :: (nat_lit 350 : Addr) :: (nat_lit 824 : Addr) :: (nat_lit 823 : Addr) :: (nat_lit 819 : Addr) :: (nat_lit 818 : Addr) :: (nat_lit 812 : Addr) :: (nat_lit 811 : Addr) :: (nat_lit 807 : Addr) :: (nat_lit 806 : Addr) :: (nat_lit 802 : Addr) :: (nat_lit 801 : Addr) :: (nat_lit 795 : Addr) :: (nat_lit 794 : Addr) :: (nat_lit 790 : Addr) :: (nat_lit 789 : Addr) :: (nat_lit 783 : Addr) :: (nat_lit 782 : Addr) :: (nat_lit 776 : Addr) :: (nat_lit 775 : Addr) :: (nat_lit 769 : Addr) :: (nat_lit 768 : Addr) :: (nat_lit 759 : Addr) :: (nat_lit 758 : Addr) :: (nat_lit 751 : Addr) :: (nat_lit 750 : Addr) :: (nat_lit 744 : Addr) :: (nat_lit 743 : Addr) :: (nat_lit 737 : Addr) :: (nat_lit 729 : Addr) :: (nat_lit 728 : Addr) :: (nat_lit 722 : Addr) :: (nat_lit 721 : Addr) :: (nat_lit 700 : Addr) :: (nat_lit 699 : Addr) :: (nat_lit 693 : Addr) :: (nat_lit 692 : Addr) :: (nat_lit 663 : Addr) :: (nat_lit 662 : Addr) :: (nat_lit 656 : Addr) :: (nat_lit 655 : Addr) :: (nat_lit 649 : Addr) :: (nat_lit 543 : Addr) :: (nat_lit 542 : Addr) :: (nat_lit 536 : Addr) :: (nat_lit 381 : Addr) :: (nat_lit 380 : Addr) :: (nat_lit 374 : Addr) :: (nat_lit 373 : Addr) :: (nat_lit 367 : Addr) :: (nat_lit 366 : Addr) :: (nat_lit 360 : Addr) :: (nat_lit 90 : Addr) :: (nat_lit 89 : Addr) :: (nat_lit 63 : Addr) :: (nat_lit 62 : Addr) :: (nat_lit 44 : Addr) :: (nat_lit 43 : Addr) :: (nat_lit 733 : Addr) :: (nat_lit 95 : Addr) :: (nat_lit 760 : Addr) :: (nat_lit 752 : Addr) :: (nat_lit 49 : Addr) :: (nat_lit 48 : Addr) :: (nat_lit 2 : Addr) :: []
noncomputable def lse : List Str := [S "_wall", S "_twin_re_1", S "_whence", S "_index", S "UnsupportedOperation", S "IOBase", S "BufferedIOBase", S "TextIOBase", S "BytesIO", S "StringIO", S "_kind", S "_fspath", S "_check_arg_types", S "isabs", S "join", S "join_path", S "dirname", S "shlex", S "split", S "join_shlex", S "_find_unsafe", S "quote", S "ENDMARKER", S "LPAR", S "RPAR", S "LSQB", S "RSQB", S "COLON", S "COMMA", S "SEMI", S "PLUS", S "MINUS", S "STAR", S "SLASH", S "VBAR", S "AMPER", S "LESS", S "GREATER", S "EQUAL", S "DOT", S "PERCENT", S "LBRACE", S "RBRACE", S "EQEQUAL", S "NOTEQUAL", S "LESSEQUAL", S "GREATEREQUAL", S "TILDE", S "CIRCUMFLEX", S "LEFTSHIFT", S "RIGHTSHIFT", S "DOUBLESTAR", S "PLUSEQUAL", S "MINEQUAL", S "STAREQUAL", S "SLASHEQUAL", S "PERCENTEQUAL", S "AMPEREQUAL", S "VBAREQUAL", S "CIRCUMFLEXEQUAL", S "LEFTSHIFTEQUAL", S "RIGHTSHIFTEQUAL", S "DOUBLESTAREQUAL", S "DOUBLESLASH", S "DOUBLESLASHEQUAL", S "AT", S "ATEQUAL", S "RARROW", S "ELLIPSIS", S "COLONEQUAL", S "EXCLAMATION", S "NT_OFFSET", S "EXACT_TOKEN_TYPES", S "ISTERMINAL", S "ISNONTERMINAL", S "ISEOF", S "_law_symbol", S "_law_word", S "_law_number", S "_law_told", S "_law_tokens", S "_law_readers"]
set_option maxRecDepth 100000
set_option maxHeartbeats 0
theorem k_as : ∀ P : Params, kAs = (K P).map (·.1) := by
  intro P
  kernel_rfl
abbrev rw1 : OpenLaw := PySem.Challenge.rw_ox0135_01
noncomputable def qv : Program := view pw [0, 1, 90]
set_option maxRecDepth 100000
set_option maxHeartbeats 0
/-- what the hook reads at the top's end: K and the code table of join's code, still empty -/
noncomputable def K0 (P : Params) : Frag := (nat_lit 746, p746 P) :: K P
noncomputable def kAs0 : List Addr := (nat_lit 746 : Addr) :: kAs
theorem k_as0 : ∀ P : Params, kAs0 = (K0 P).map (·.1) := by
  intro P
  kernel_rfl
noncomputable def hkK : Hook := kHook K0 kAs0 k_as0
noncomputable def xT (s : Shared) : Bool := xlAt qv [] s && recOk (RowW.records rw1.row.toRowW) s
noncomputable def heap0 (w : World) : Heap := absHeap (tree0 w.params) 34 {}
noncomputable def dig (w : World) (s : Shared) := ((staticsOk (importedModules pw.main.body) (heap0 w) s.heap && namesBound pw s.heap && gensDone s && laidKept (heap0 w) s.heap), openSeen qv lse (importedModules pw.main.body) xT true s, kAs0.map s.heap.get?)
noncomputable def goodD (w : World) := (true, openGood qv lse, (K0 w.params).map fun p => some p.2)
noncomputable abbrev br4 : List Stmt := br3.drop 66
noncomputable abbrev br5 : List Stmt := br4.drop 1
noncomputable def q3 (P : Params) : Obj := ⟨(.type "dict"), none, (.dict (Array.mk [E P "__name__" 165 (.str (S "cpy313.token") 1255), E P "__doc__" 166 .none, E P "__package__" 167 .none, E P "__loader__" 168 (.builtin "__main__.__loader__#opaque"), E P "__spec__" 169 .none, E P "__annotations__" 170 (.ref 6), E P "__builtins__" 171 (.ref 4), E P "__file__" 173 (.str (S "/claim/cut.py") 172), E P "__cached__" 174 .none, E P "_sre" 275 (.ref 12), E P "deque" 317 (.type "collections.deque"), E P "_wall" 330 (.ref 44), E P "_twin_re_1" 370 (.ref 49), E P "_whence" 380 (.ref 56), E P "_index" 388 (.ref 63), E P "UnsupportedOperation" 410 (.ref 73), E P "IOBase" 442 (.ref 93), E P "BufferedIOBase" 460 (.ref 108), E P "TextIOBase" 478 (.ref 120), E P "BytesIO" 740 (.ref 350), E P "StringIO" 1027 (.ref 597), E P "_kind" 1038 (.ref 606), E P "_fspath" 1047 (.ref 613), E P "_check_arg_types" 1057 (.ref 620), E P "isabs" 1064 (.ref 627), E P "join" 1075 (.ref 751), E P "join_path" 1076 (.ref 634), E P "dirname" 1086 (.ref 641), E P "shlex" 1227 (.ref 732), E P "split" 1237 (.ref 744), E P "join_shlex" 1245 (.ref 751), E P "_find_unsafe" 1247 (.ref 752), E P "quote" 1254 (.ref 759), E P "ENDMARKER" 1258 (.int 0 1257), E P "LPAR" 1260 (.int 7 1259), E P "RPAR" 1262 (.int 8 1261), E P "LSQB" 1264 (.int 9 1263), E P "RSQB" 1266 (.int 10 1265), E P "COLON" 1268 (.int 11 1267), E P "COMMA" 1270 (.int 12 1269), E P "SEMI" 1272 (.int 13 1271), E P "PLUS" 1274 (.int 14 1273), E P "MINUS" 1276 (.int 15 1275), E P "STAR" 1278 (.int 16 1277), E P "SLASH" 1280 (.int 17 1279), E P "VBAR" 1282 (.int 18 1281), E P "AMPER" 1284 (.int 19 1283), E P "LESS" 1286 (.int 20 1285), E P "GREATER" 1288 (.int 21 1287), E P "EQUAL" 1290 (.int 22 1289), E P "DOT" 1292 (.int 23 1291), E P "PERCENT" 1294 (.int 24 1293), E P "LBRACE" 1296 (.int 25 1295), E P "RBRACE" 1298 (.int 26 1297), E P "EQEQUAL" 1300 (.int 27 1299), E P "NOTEQUAL" 1302 (.int 28 1301), E P "LESSEQUAL" 1304 (.int 29 1303), E P "GREATEREQUAL" 1306 (.int 30 1305), E P "TILDE" 1308 (.int 31 1307), E P "CIRCUMFLEX" 1310 (.int 32 1309), E P "LEFTSHIFT" 1312 (.int 33 1311), E P "RIGHTSHIFT" 1314 (.int 34 1313), E P "DOUBLESTAR" 1316 (.int 35 1315), E P "PLUSEQUAL" 1318 (.int 36 1317), E P "MINEQUAL" 1320 (.int 37 1319), E P "STAREQUAL" 1322 (.int 38 1321), E P "SLASHEQUAL" 1324 (.int 39 1323), E P "PERCENTEQUAL" 1326 (.int 40 1325), E P "AMPEREQUAL" 1328 (.int 41 1327), E P "VBAREQUAL" 1330 (.int 42 1329), E P "CIRCUMFLEXEQUAL" 1332 (.int 43 1331), E P "LEFTSHIFTEQUAL" 1334 (.int 44 1333), E P "RIGHTSHIFTEQUAL" 1336 (.int 45 1335), E P "DOUBLESTAREQUAL" 1338 (.int 46 1337), E P "DOUBLESLASH" 1340 (.int 47 1339), E P "DOUBLESLASHEQUAL" 1342 (.int 48 1341), E P "AT" 1344 (.int 49 1343), E P "ATEQUAL" 1346 (.int 50 1345), E P "RARROW" 1348 (.int 51 1347), E P "ELLIPSIS" 1350 (.int 52 1349), E P "COLONEQUAL" 1352 (.int 53 1351), E P "EXCLAMATION" 1354 (.int 54 1353), E P "NT_OFFSET" 1356 (.int 256 1355), E P "EXACT_TOKEN_TYPES" 1453 (.ref 760)]) 84), (Array.mk [])⟩
noncomputable def q760 (P : Params) : Obj := ⟨(.type "dict"), none, (.dict (Array.mk [E P "!" 1357 (.int 54 1353), E P "!=" 1359 (.int 28 1301), E P "%" 1361 (.int 24 1293), E P "%=" 1363 (.int 40 1325), E P "&" 1365 (.int 19 1283), E P "&=" 1367 (.int 41 1327), E P "(" 1369 (.int 7 1259), E P ")" 1371 (.int 8 1261), E P "*" 1373 (.int 16 1277), E P "**" 1375 (.int 35 1315), E P "**=" 1377 (.int 46 1337), E P "*=" 1379 (.int 38 1321), E P "+" 1381 (.int 14 1273), E P "+=" 1383 (.int 36 1317), E P "," 1385 (.int 12 1269), E P "-" 1387 (.int 15 1275), E P "-=" 1389 (.int 37 1319), E P "->" 1391 (.int 51 1347), E P "." 1393 (.int 23 1291), E P "..." 1395 (.int 52 1349), E P "/" 1397 (.int 17 1279), E P "//" 1399 (.int 47 1339), E P "//=" 1401 (.int 48 1341), E P "/=" 1403 (.int 39 1323), E P ":" 1405 (.int 11 1267), E P ":=" 1407 (.int 53 1351), E P ";" 1409 (.int 13 1271), E P "<" 1411 (.int 20 1285), E P "<<" 1413 (.int 33 1311), E P "<<=" 1415 (.int 44 1333), E P "<=" 1417 (.int 29 1303), E P "=" 1419 (.int 22 1289), E P "==" 1421 (.int 27 1299), E P ">" 1423 (.int 21 1287), E P ">=" 1425 (.int 30 1305), E P ">>" 1426 (.int 34 1313), E P ">>=" 1427 (.int 45 1335), E P "@" 1428 (.int 49 1343), E P "@=" 1429 (.int 50 1345), E P "[" 1430 (.int 9 1263), E P "]" 1431 (.int 10 1265), E P "^" 1432 (.int 32 1309), E P "^=" 1433 (.int 43 1331), E P "{" 1434 (.int 25 1295), E P "|" 1435 (.int 18 1281), E P "|=" 1436 (.int 42 1329), E P "}" 1437 (.int 26 1297), E P "~" 1438 (.int 31 1307)]) 48), (Array.mk [])⟩
noncomputable def q761 (P : Params) : Obj := ⟨(.type "dict"), none, (.dict (Array.mk [E P "->" 1391 (.int 51 1347), E P "." 1393 (.int 23 1291), E P "..." 1395 (.int 52 1349), E P "/" 1397 (.int 17 1279), E P "//" 1399 (.int 47 1339), E P "//=" 1401 (.int 48 1341), E P "/=" 1403 (.int 39 1323), E P ":" 1405 (.int 11 1267), E P ":=" 1407 (.int 53 1351), E P ";" 1409 (.int 13 1271), E P "<" 1411 (.int 20 1285), E P "<<" 1413 (.int 33 1311), E P "<<=" 1415 (.int 44 1333), E P "<=" 1417 (.int 29 1303), E P "=" 1419 (.int 22 1289), E P "==" 1421 (.int 27 1299), E P ">" 1423 (.int 21 1287)]) 17), (Array.mk [])⟩
noncomputable def q762 (P : Params) : Obj := ⟨(.type "dict"), none, (.dict (Array.mk [E P ">=" 1425 (.int 30 1305), E P ">>" 1426 (.int 34 1313), E P ">>=" 1427 (.int 45 1335), E P "@" 1428 (.int 49 1343), E P "@=" 1429 (.int 50 1345), E P "[" 1430 (.int 9 1263), E P "]" 1431 (.int 10 1265), E P "^" 1432 (.int 32 1309), E P "^=" 1433 (.int 43 1331), E P "{" 1434 (.int 25 1295), E P "|" 1435 (.int 18 1281), E P "|=" 1436 (.int 42 1329), E P "}" 1437 (.int 26 1297), E P "~" 1438 (.int 31 1307)]) 14), (Array.mk [])⟩
noncomputable def treeQ (P : Params) : BT := (N (PySem.W.boot_o_0 P) (N (z1 P) (N (q3 P) (N (PySem.W.boot_o_7 P) (N (z15 P) (N (z31 P) (N (o63 P) (N (o127 P) (N (o255 P) (N (p511 P) .nil .nil) .nil) (N (p383 P) (N (p639 P) .nil .nil) .nil)) (N (o191 P) (N (o319 P) (N (p575 P) .nil .nil) .nil) (N (p447 P) (N (p703 P) .nil .nil) .nil))) (N (o95 P) (N (o159 P) (N (o287 P) (N (p543 P) .nil .nil) .nil) (N (p415 P) (N (p671 P) .nil .nil) .nil)) (N (o223 P) (N (o351 P) (N (p607 P) .nil .nil) .nil) (N (p479 P) (N (p735 P) .nil .nil) .nil)))) (N (o47 P) (N (o79 P) (N (o143 P) (N (o271 P) (N (p527 P) .nil .nil) .nil) (N (p399 P) (N (p655 P) .nil .nil) .nil)) (N (o207 P) (N (o335 P) (N (p591 P) .nil .nil) .nil) (N (p463 P) (N (p719 P) .nil .nil) .nil))) (N (o111 P) (N (o175 P) (N (o303 P) (N (p559 P) .nil .nil) .nil) (N (p431 P) (N (p687 P) .nil .nil) .nil)) (N (o239 P) (N (p367 P) (N (p623 P) .nil .nil) .nil) (N (p495 P) (N (p751 P) .nil .nil) .nil))))) (N (z23 P) (N (o39 P) (N (o71 P) (N (o135 P) (N (o263 P) (N (p519 P) .nil .nil) .nil) (N (p391 P) (N (p647 P) .nil .nil) .nil)) (N (o199 P) (N (o327 P) (N (p583 P) .nil .nil) .nil) (N (p455 P) (N (p711 P) .nil .nil) .nil))) (N (o103 P) (N (o167 P) (N (o295 P) (N (p551 P) .nil .nil) .nil) (N (p423 P) (N (p679 P) .nil .nil) .nil)) (N (o231 P) (N (p359 P) (N (p615 P) .nil .nil) .nil) (N (p487 P) (N (p743 P) .nil .nil) .nil)))) (N (o55 P) (N (o87 P) (N (o151 P) (N (o279 P) (N (p535 P) .nil .nil) .nil) (N (p407 P) (N (p663 P) .nil .nil) .nil)) (N (o215 P) (N (o343 P) (N (p599 P) .nil .nil) .nil) (N (p471 P) (N (p727 P) .nil .nil) .nil))) (N (o119 P) (N (o183 P) (N (o311 P) (N (p567 P) .nil .nil) .nil) (N (p439 P) (N (p695 P) .nil .nil) .nil)) (N (o247 P) (N (p375 P) (N (p631 P) .nil .nil) .nil) (N (p503 P) (N (p759 P) .nil .nil) .nil)))))) (N (z11 P) (N (z19 P) (N (p35 P) (N (o67 P) (N (o131 P) (N (o259 P) (N (p515 P) .nil .nil) .nil) (N (p387 P) (N (p643 P) .nil .nil) .nil)) (N (o195 P) (N (o323 P) (N (p579 P) .nil .nil) .nil) (N (p451 P) (N (p707 P) .nil .nil) .nil))) (N (o99 P) (N (o163 P) (N (o291 P) (N (p547 P) .nil .nil) .nil) (N (p419 P) (N (p675 P) .nil .nil) .nil)) (N (o227 P) (N (p355 P) (N (p611 P) .nil .nil) .nil) (N (p483 P) (N (p739 P) .nil .nil) .nil)))) (N (o51 P) (N (o83 P) (N (o147 P) (N (o275 P) (N (p531 P) .nil .nil) .nil) (N (p403 P) (N (p659 P) .nil .nil) .nil)) (N (o211 P) (N (o339 P) (N (p595 P) .nil .nil) .nil) (N (p467 P) (N (p723 P) .nil .nil) .nil))) (N (o115 P) (N (o179 P) (N (o307 P) (N (p563 P) .nil .nil) .nil) (N (p435 P) (N (p691 P) .nil .nil) .nil)) (N (o243 P) (N (p371 P) (N (p627 P) .nil .nil) .nil) (N (p499 P) (N (p755 P) .nil .nil) .nil))))) (N (z27 P) (N (o43 P) (N (o75 P) (N (o139 P) (N (o267 P) (N (p523 P) .nil .nil) .nil) (N (p395 P) (N (p651 P) .nil .nil) .nil)) (N (o203 P) (N (o331 P) (N (p587 P) .nil .nil) .nil) (N (p459 P) (N (p715 P) .nil .nil) .nil))) (N (o107 P) (N (o171 P) (N (o299 P) (N (p555 P) .nil .nil) .nil) (N (p427 P) (N (p683 P) .nil .nil) .nil)) (N (o235 P) (N (p363 P) (N (p619 P) .nil .nil) .nil) (N (p491 P) (N (p747 P) .nil .nil) .nil)))) (N (o59 P) (N (o91 P) (N (o155 P) (N (o283 P) (N (p539 P) .nil .nil) .nil) (N (p411 P) (N (p667 P) .nil .nil) .nil)) (N (o219 P) (N (o347 P) (N (p603 P) .nil .nil) .nil) (N (p475 P) (N (p731 P) .nil .nil) .nil))) (N (o123 P) (N (o187 P) (N (o315 P) (N (p571 P) .nil .nil) .nil) (N (p443 P) (N (p699 P) .nil .nil) .nil)) (N (o251 P) (N (p379 P) (N (p635 P) .nil .nil) .nil) (N (p507 P) .nil .nil))))))) (N (PySem.W.boot_o_5 P) (N (PySem.W.boot_o_9 P) (N (z17 P) (N (z33 P) (N (o65 P) (N (o129 P) (N (o257 P) (N (p513 P) .nil .nil) .nil) (N (p385 P) (N (p641 P) .nil .nil) .nil)) (N (o193 P) (N (o321 P) (N (p577 P) .nil .nil) .nil) (N (p449 P) (N (p705 P) .nil .nil) .nil))) (N (o97 P) (N (o161 P) (N (o289 P) (N (p545 P) .nil .nil) .nil) (N (p417 P) (N (p673 P) .nil .nil) .nil)) (N (o225 P) (N (p353 P) (N (p609 P) .nil .nil) .nil) (N (p481 P) (N (p737 P) .nil .nil) .nil)))) (N (o49 P) (N (o81 P) (N (o145 P) (N (o273 P) (N (p529 P) .nil .nil) .nil) (N (p401 P) (N (p657 P) .nil .nil) .nil)) (N (o209 P) (N (o337 P) (N (p593 P) .nil .nil) .nil) (N (p465 P) (N (p721 P) .nil .nil) .nil))) (N (o113 P) (N (o177 P) (N (o305 P) (N (p561 P) .nil .nil) .nil) (N (p433 P) (N (p689 P) .nil .nil) .nil)) (N (o241 P) (N (p369 P) (N (p625 P) .nil .nil) .nil) (N (p497 P) (N (p753 P) .nil .nil) .nil))))) (N (z25 P) (N (o41 P) (N (o73 P) (N (o137 P) (N (o265 P) (N (p521 P) .nil .nil) .nil) (N (p393 P) (N (p649 P) .nil .nil) .nil)) (N (o201 P) (N (o329 P) (N (p585 P) .nil .nil) .nil) (N (p457 P) (N (p713 P) .nil .nil) .nil))) (N (o105 P) (N (o169 P) (N (o297 P) (N (p553 P) .nil .nil) .nil) (N (p425 P) (N (p681 P) .nil .nil) .nil)) (N (o233 P) (N (p361 P) (N (p617 P) .nil .nil) .nil) (N (p489 P) (N (p745 P) .nil .nil) .nil)))) (N (o57 P) (N (o89 P) (N (o153 P) (N (o281 P) (N (p537 P) .nil .nil) .nil) (N (p409 P) (N (p665 P) .nil .nil) .nil)) (N (o217 P) (N (o345 P) (N (p601 P) .nil .nil) .nil) (N (p473 P) (N (p729 P) .nil .nil) .nil))) (N (o121 P) (N (o185 P) (N (o313 P) (N (p569 P) .nil .nil) .nil) (N (p441 P) (N (p697 P) .nil .nil) .nil)) (N (o249 P) (N (p377 P) (N (p633 P) .nil .nil) .nil) (N (p505 P) (N (q761 P) .nil .nil) .nil)))))) (N (z13 P) (N (z21 P) (N (y37 P) (N (o69 P) (N (o133 P) (N (o261 P) (N (p517 P) .nil .nil) .nil) (N (p389 P) (N (p645 P) .nil .nil) .nil)) (N (o197 P) (N (o325 P) (N (p581 P) .nil .nil) .nil) (N (p453 P) (N (p709 P) .nil .nil) .nil))) (N (o101 P) (N (o165 P) (N (o293 P) (N (p549 P) .nil .nil) .nil) (N (p421 P) (N (p677 P) .nil .nil) .nil)) (N (o229 P) (N (p357 P) (N (p613 P) .nil .nil) .nil) (N (p485 P) (N (p741 P) .nil .nil) .nil)))) (N (o53 P) (N (o85 P) (N (o149 P) (N (o277 P) (N (p533 P) .nil .nil) .nil) (N (p405 P) (N (p661 P) .nil .nil) .nil)) (N (o213 P) (N (o341 P) (N (p597 P) .nil .nil) .nil) (N (p469 P) (N (p725 P) .nil .nil) .nil))) (N (o117 P) (N (o181 P) (N (o309 P) (N (p565 P) .nil .nil) .nil) (N (p437 P) (N (p693 P) .nil .nil) .nil)) (N (o245 P) (N (p373 P) (N (p629 P) .nil .nil) .nil) (N (p501 P) (N (p757 P) .nil .nil) .nil))))) (N (z29 P) (N (o45 P) (N (o77 P) (N (o141 P) (N (o269 P) (N (p525 P) .nil .nil) .nil) (N (p397 P) (N (p653 P) .nil .nil) .nil)) (N (o205 P) (N (o333 P) (N (p589 P) .nil .nil) .nil) (N (p461 P) (N (p717 P) .nil .nil) .nil))) (N (o109 P) (N (o173 P) (N (o301 P) (N (p557 P) .nil .nil) .nil) (N (p429 P) (N (p685 P) .nil .nil) .nil)) (N (o237 P) (N (p365 P) (N (p621 P) .nil .nil) .nil) (N (p493 P) (N (p749 P) .nil .nil) .nil)))) (N (o61 P) (N (o93 P) (N (o157 P) (N (o285 P) (N (p541 P) .nil .nil) .nil) (N (p413 P) (N (p669 P) .nil .nil) .nil)) (N (o221 P) (N (o349 P) (N (p605 P) .nil .nil) .nil) (N (p477 P) (N (p733 P) .nil .nil) .nil))) (N (o125 P) (N (o189 P) (N (o317 P) (N (p573 P) .nil .nil) .nil) (N (p445 P) (N (p701 P) .nil .nil) .nil)) (N (o253 P) (N (p381 P) (N (p637 P) .nil .nil) .nil) (N (p509 P) .nil .nil)))))))) (N (o2 P) (N (PySem.W.boot_o_4 P) (N (PySem.W.boot_o_8 P) (N (z16 P) (N (z32 P) (N (o64 P) (N (o128 P) (N (o256 P) (N (p512 P) .nil .nil) .nil) (N (p384 P) (N (p640 P) .nil .nil) .nil)) (N (o192 P) (N (o320 P) (N (p576 P) .nil .nil) .nil) (N (p448 P) (N (p704 P) .nil .nil) .nil))) (N (o96 P) (N (o160 P) (N (o288 P) (N (p544 P) .nil .nil) .nil) (N (p416 P) (N (p672 P) .nil .nil) .nil)) (N (o224 P) (N (o352 P) (N (p608 P) .nil .nil) .nil) (N (p480 P) (N (p736 P) .nil .nil) .nil)))) (N (o48 P) (N (o80 P) (N (o144 P) (N (o272 P) (N (p528 P) .nil .nil) .nil) (N (p400 P) (N (p656 P) .nil .nil) .nil)) (N (o208 P) (N (o336 P) (N (p592 P) .nil .nil) .nil) (N (p464 P) (N (p720 P) .nil .nil) .nil))) (N (o112 P) (N (o176 P) (N (o304 P) (N (p560 P) .nil .nil) .nil) (N (p432 P) (N (p688 P) .nil .nil) .nil)) (N (o240 P) (N (p368 P) (N (p624 P) .nil .nil) .nil) (N (p496 P) (N (p752 P) .nil .nil) .nil))))) (N (z24 P) (N (o40 P) (N (o72 P) (N (o136 P) (N (o264 P) (N (p520 P) .nil .nil) .nil) (N (p392 P) (N (p648 P) .nil .nil) .nil)) (N (o200 P) (N (o328 P) (N (p584 P) .nil .nil) .nil) (N (p456 P) (N (p712 P) .nil .nil) .nil))) (N (o104 P) (N (o168 P) (N (o296 P) (N (p552 P) .nil .nil) .nil) (N (p424 P) (N (p680 P) .nil .nil) .nil)) (N (o232 P) (N (p360 P) (N (p616 P) .nil .nil) .nil) (N (p488 P) (N (p744 P) .nil .nil) .nil)))) (N (o56 P) (N (o88 P) (N (o152 P) (N (o280 P) (N (p536 P) .nil .nil) .nil) (N (p408 P) (N (p664 P) .nil .nil) .nil)) (N (o216 P) (N (o344 P) (N (p600 P) .nil .nil) .nil) (N (p472 P) (N (p728 P) .nil .nil) .nil))) (N (p120 P) (N (o184 P) (N (o312 P) (N (p568 P) .nil .nil) .nil) (N (p440 P) (N (p696 P) .nil .nil) .nil)) (N (o248 P) (N (p376 P) (N (p632 P) .nil .nil) .nil) (N (p504 P) (N (q760 P) .nil .nil) .nil)))))) (N (z12 P) (N (z20 P) (N (y36 P) (N (o68 P) (N (o132 P) (N (o260 P) (N (p516 P) .nil .nil) .nil) (N (p388 P) (N (p644 P) .nil .nil) .nil)) (N (o196 P) (N (o324 P) (N (p580 P) .nil .nil) .nil) (N (p452 P) (N (p708 P) .nil .nil) .nil))) (N (o100 P) (N (o164 P) (N (o292 P) (N (p548 P) .nil .nil) .nil) (N (p420 P) (N (p676 P) .nil .nil) .nil)) (N (o228 P) (N (p356 P) (N (p612 P) .nil .nil) .nil) (N (p484 P) (N (p740 P) .nil .nil) .nil)))) (N (o52 P) (N (o84 P) (N (o148 P) (N (o276 P) (N (p532 P) .nil .nil) .nil) (N (p404 P) (N (p660 P) .nil .nil) .nil)) (N (o212 P) (N (o340 P) (N (p596 P) .nil .nil) .nil) (N (p468 P) (N (p724 P) .nil .nil) .nil))) (N (o116 P) (N (o180 P) (N (o308 P) (N (p564 P) .nil .nil) .nil) (N (p436 P) (N (p692 P) .nil .nil) .nil)) (N (o244 P) (N (p372 P) (N (p628 P) .nil .nil) .nil) (N (p500 P) (N (p756 P) .nil .nil) .nil))))) (N (z28 P) (N (o44 P) (N (o76 P) (N (o140 P) (N (o268 P) (N (p524 P) .nil .nil) .nil) (N (p396 P) (N (p652 P) .nil .nil) .nil)) (N (o204 P) (N (o332 P) (N (p588 P) .nil .nil) .nil) (N (p460 P) (N (p716 P) .nil .nil) .nil))) (N (o108 P) (N (o172 P) (N (o300 P) (N (p556 P) .nil .nil) .nil) (N (p428 P) (N (p684 P) .nil .nil) .nil)) (N (o236 P) (N (p364 P) (N (p620 P) .nil .nil) .nil) (N (p492 P) (N (p748 P) .nil .nil) .nil)))) (N (o60 P) (N (o92 P) (N (o156 P) (N (o284 P) (N (p540 P) .nil .nil) .nil) (N (p412 P) (N (p668 P) .nil .nil) .nil)) (N (o220 P) (N (o348 P) (N (p604 P) .nil .nil) .nil) (N (p476 P) (N (p732 P) .nil .nil) .nil))) (N (o124 P) (N (o188 P) (N (o316 P) (N (p572 P) .nil .nil) .nil) (N (p444 P) (N (p700 P) .nil .nil) .nil)) (N (o252 P) (N (p380 P) (N (p636 P) .nil .nil) .nil) (N (p508 P) .nil .nil))))))) (N (PySem.W.boot_o_6 P) (N (PySem.W.boot_o_10 P) (N (z18 P) (N (y34 P) (N (o66 P) (N (o130 P) (N (o258 P) (N (p514 P) .nil .nil) .nil) (N (p386 P) (N (p642 P) .nil .nil) .nil)) (N (o194 P) (N (o322 P) (N (p578 P) .nil .nil) .nil) (N (p450 P) (N (p706 P) .nil .nil) .nil))) (N (o98 P) (N (o162 P) (N (o290 P) (N (p546 P) .nil .nil) .nil) (N (p418 P) (N (p674 P) .nil .nil) .nil)) (N (o226 P) (N (p354 P) (N (p610 P) .nil .nil) .nil) (N (p482 P) (N (p738 P) .nil .nil) .nil)))) (N (o50 P) (N (o82 P) (N (o146 P) (N (o274 P) (N (p530 P) .nil .nil) .nil) (N (p402 P) (N (p658 P) .nil .nil) .nil)) (N (o210 P) (N (o338 P) (N (p594 P) .nil .nil) .nil) (N (p466 P) (N (p722 P) .nil .nil) .nil))) (N (o114 P) (N (o178 P) (N (o306 P) (N (p562 P) .nil .nil) .nil) (N (p434 P) (N (p690 P) .nil .nil) .nil)) (N (o242 P) (N (p370 P) (N (p626 P) .nil .nil) .nil) (N (p498 P) (N (p754 P) .nil .nil) .nil))))) (N (z26 P) (N (o42 P) (N (o74 P) (N (o138 P) (N (o266 P) (N (p522 P) .nil .nil) .nil) (N (p394 P) (N (p650 P) .nil .nil) .nil)) (N (o202 P) (N (o330 P) (N (p586 P) .nil .nil) .nil) (N (p458 P) (N (p714 P) .nil .nil) .nil))) (N (o106 P) (N (o170 P) (N (o298 P) (N (p554 P) .nil .nil) .nil) (N (p426 P) (N (p682 P) .nil .nil) .nil)) (N (o234 P) (N (p362 P) (N (p618 P) .nil .nil) .nil) (N (p490 P) (N (p746 P) .nil .nil) .nil)))) (N (o58 P) (N (o90 P) (N (o154 P) (N (o282 P) (N (p538 P) .nil .nil) .nil) (N (p410 P) (N (p666 P) .nil .nil) .nil)) (N (o218 P) (N (o346 P) (N (p602 P) .nil .nil) .nil) (N (p474 P) (N (p730 P) .nil .nil) .nil))) (N (o122 P) (N (o186 P) (N (o314 P) (N (p570 P) .nil .nil) .nil) (N (p442 P) (N (p698 P) .nil .nil) .nil)) (N (o250 P) (N (p378 P) (N (p634 P) .nil .nil) .nil) (N (p506 P) (N (q762 P) .nil .nil) .nil)))))) (N (z14 P) (N (z22 P) (N (o38 P) (N (o70 P) (N (o134 P) (N (o262 P) (N (p518 P) .nil .nil) .nil) (N (p390 P) (N (p646 P) .nil .nil) .nil)) (N (o198 P) (N (o326 P) (N (p582 P) .nil .nil) .nil) (N (p454 P) (N (p710 P) .nil .nil) .nil))) (N (o102 P) (N (o166 P) (N (o294 P) (N (p550 P) .nil .nil) .nil) (N (p422 P) (N (p678 P) .nil .nil) .nil)) (N (o230 P) (N (p358 P) (N (p614 P) .nil .nil) .nil) (N (p486 P) (N (p742 P) .nil .nil) .nil)))) (N (o54 P) (N (o86 P) (N (o150 P) (N (o278 P) (N (p534 P) .nil .nil) .nil) (N (p406 P) (N (p662 P) .nil .nil) .nil)) (N (o214 P) (N (o342 P) (N (p598 P) .nil .nil) .nil) (N (p470 P) (N (p726 P) .nil .nil) .nil))) (N (o118 P) (N (o182 P) (N (o310 P) (N (p566 P) .nil .nil) .nil) (N (p438 P) (N (p694 P) .nil .nil) .nil)) (N (o246 P) (N (p374 P) (N (p630 P) .nil .nil) .nil) (N (p502 P) (N (p758 P) .nil .nil) .nil))))) (N (z30 P) (N (o46 P) (N (o78 P) (N (o142 P) (N (o270 P) (N (p526 P) .nil .nil) .nil) (N (p398 P) (N (p654 P) .nil .nil) .nil)) (N (o206 P) (N (o334 P) (N (p590 P) .nil .nil) .nil) (N (p462 P) (N (p718 P) .nil .nil) .nil))) (N (o110 P) (N (o174 P) (N (o302 P) (N (p558 P) .nil .nil) .nil) (N (p430 P) (N (p686 P) .nil .nil) .nil)) (N (o238 P) (N (p366 P) (N (p622 P) .nil .nil) .nil) (N (p494 P) (N (p750 P) .nil .nil) .nil)))) (N (o62 P) (N (o94 P) (N (o158 P) (N (o286 P) (N (p542 P) .nil .nil) .nil) (N (p414 P) (N (p670 P) .nil .nil) .nil)) (N (o222 P) (N (o350 P) (N (p606 P) .nil .nil) .nil) (N (p478 P) (N (p734 P) .nil .nil) .nil))) (N (o126 P) (N (o190 P) (N (o318 P) (N (p574 P) .nil .nil) .nil) (N (p446 P) (N (p702 P) .nil .nil) .nil)) (N (o254 P) (N (p382 P) (N (p638 P) .nil .nil) .nil) (N (p510 P) .nil .nil)))))))))
noncomputable def sTQ (w : World) (os : OsState) : SharedT := ⟨treeQ w.params, 763, {}, #[], {}, 1454, os⟩
noncomputable def runC1 (w : World) (os : OsState) := segRunT treeTable pw w 34 (some (.ref 6)) 1 1100 (sT2 w os) (piecesOf (br4.take 1) ev cdB ⟨793, 0, 793, 9⟩ [topFrame z4])
theorem h_C1f : ∀ (w : World) (os : OsState), runC1 (w.withFollow "special-get-raises" false) os = some (.next, sTQ (w.withFollow "special-get-raises" false) os, cdB, ⟨794, 0, 794, 17⟩) := by
  intro w os
  unfold runC1
  rw [PySem.W.Fast.te10110043849684766642, PySem.W.Fast.te14364793385576792824]
  kernel_rfl
theorem h_C1t : ∀ (w : World) (os : OsState), runC1 (w.withFollow "special-get-raises" true) os = some (.next, sTQ (w.withFollow "special-get-raises" true) os, cdB, ⟨794, 0, 794, 17⟩) := by
  intro w os
  unfold runC1
  rw [PySem.W.Fast.te10110043849684766642, PySem.W.Fast.te14364793385576792824]
  kernel_rfl
theorem h_C1 (w : World) : ∀ os, runC1 w os = some (.next, sTQ w os, cdB, ⟨794, 0, 794, 17⟩) := byRow2 "special-get-raises" (P := fun w => ∀ os, runC1 w os = some (.next, sTQ w os, cdB, ⟨794, 0, 794, 17⟩)) h_C1f h_C1t w
noncomputable def runC (w : World) (os : OsState) := (segRunT treeTable pw w 34 (some (.ref 6)) 1 500 (sTQ w os) (piecesOf br5 ev cdB ⟨794, 0, 794, 17⟩ [topFrame z4])).map fun r => (r.1, r.2.2.1, dig w r.2.1.abs)
theorem h_C : ∀ w : World, runC w = fun _ => some (.next, cdB, goodD w) := by
  intro w
  unfold runC dig
  rw [PySem.W.Fast.te10110043849684766642, PySem.W.Fast.te14364793385576792824, PySem.W.Fast.te4187177175401517315]
  kernel_rfl
set_option maxRecDepth 100000
set_option maxHeartbeats 0
theorem h_fin (w : World) (s : Shared) (p' : Pos) : topRun treeTable pw w 34 (some (.ref 6)) 2 s (restOf [] ev cdB p' [topFrame z4]) = some s := by
  obtain ⟨a, b, c, d, e⟩ := s
  kernel_rfl
theorem run_all (w : World) (os : OsState) : ∃ s₁ : Shared, topRun treeTable pw w 34 (some (.ref 6)) (12 + (1 + (1200 + (1400 + (1700 + (1600 + (1100 + (500 + 2)))))))) (sT0 w os).abs (topStub pw) = some s₁ ∧ dig w s₁ = goodD w := by
  have hC := congrFun (h_C w) os
  unfold runC at hC
  obtain ⟨⟨f, S, c, p'⟩, hr, he⟩ := Option.map_eq_some_iff.mp hC
  have h1 : f = Flow.next := (Prod.mk.inj he).1
  have h2 : c = cdB := (Prod.mk.inj (Prod.mk.inj he).2).1
  have h3 : dig w S.abs = goodD w := (Prod.mk.inj (Prod.mk.inj he).2).2
  subst h1 h2
  refine ⟨S.abs, go_top (h_pre w os) (piece_block (h_block w os) ?_), h3⟩
  have k6 := piece_app (rest := []) (segRun_of hr) (h_fin w S.abs p')
  have k5 := piece_app (segRun_of (h_C1 w os)) k6
  have k4 := piece_app (segRun_of (h_B2 w os)) k5
  have k3 := piece_app (segRun_of (h_B1 w os)) k4
  have k2 := piece_app (segRun_of (h_A2 w os)) k3
  have key := piece_app (segRun_of (h_A1 w os)) k2
  have e : restOf (List.take 9 bd ++ (List.take 1 br1 ++ (List.take 1 br2 ++ (List.take 66 br3 ++ (List.take 1 br4 ++ (br5 ++ [])))))) ev cdB z4 [topFrame z4] = restOf bd ev cdB z4 [topFrame z4] :=
    congrArg (fun l => restOf l ev cdB z4 [topFrame z4]) (by rw [List.append_nil, List.take_append_drop, List.take_append_drop, List.take_append_drop, List.take_append_drop, List.take_append_drop])
  rw [e] at key
  exact key
theorem left_of {p q : Program} {loose : List Str} {Xt : Shared → Bool} {α : Type} {Yf : Shared → α} {Ya : World → α} {N : Nat} {g0 : Bool} {H₀ : World → Heap} {gs₀ : Array GenState} {d₀ : Drawn} {k₀ : Nat} {m₀ : Nat} {ann : Option Value} {M : Nat}
    (open_ : ∀ w : World, (fencedOpening treeTable p w N).map (fun s => (s.heap, s.gens, s.drawn, s.toks)) = some (H₀ w, gs₀, d₀, k₀))
    (size : ∀ w : World, ((H₀ w).isNs mainGlobals && gs₀.size == 0, (H₀ w).objs.size, (H₀ w).nsMap mainGlobals "__annotations__") = (true, m₀, ann))
    (run : ∀ (w : World) (os : OsState), ∃ s₁ : Shared, topRun treeTable p w m₀ ann M ⟨H₀ w, gs₀, d₀, k₀, os⟩ (topStub p) = some s₁ ∧
      ((staticsOk (importedModules p.main.body) (H₀ w) s₁.heap && namesBound p s₁.heap && gensDone s₁ && laidKept (H₀ w) s₁.heap), openSeen q loose (importedModules p.main.body) Xt g0 s₁, Yf s₁) = (true, openGood q loose, Ya w))
    (le : M ≤ N) : LeftO p q loose Xt Yf Ya N g0 := fun w => by
  obtain ⟨⟨h, gs, d, k, os⟩, e, e'⟩ := Option.map_eq_some_iff.mp (open_ w)
  obtain ⟨rfl, rfl, rfl, rfl⟩ : h = H₀ w ∧ gs = gs₀ ∧ d = d₀ ∧ k = k₀ := by simpa using e'
  obtain ⟨z1, z2, z3⟩ : _ ∧ _ ∧ _ := by simpa only [Prod.mk.injEq] using size w
  obtain ⟨s₁, hr, hd⟩ := run w os
  obtain ⟨l1, l2, l3⟩ : _ ∧ _ ∧ _ := by simpa only [Prod.mk.injEq] using hd
  have r := topRun_mono (N - M) _ _ _ _ hr
  rw [show M + (N - M) = N by omega] at r
  have t : topFrom treeTable p w N ⟨H₀ w, gs, d, k, os⟩ = some s₁ := by
    unfold topFrom
    dsimp only
    rw [z1, z2, z3, r]
    show (match staticsOk (importedModules p.main.body) (H₀ w) s₁.heap && namesBound p s₁.heap && gensDone s₁ && laidKept (H₀ w) s₁.heap with | true => _ | false => _) = _
    rw [l1]
  unfold openEnds
  rw [e]
  show (topFrom treeTable p w N _).map _ = _
  rw [t]
  exact congrArg some (Prod.ext l2 l3)
theorem left : LeftO pw qv lse xT (Hook.obs hkK) (Hook.val hkK) 8000 :=
  left_of (H₀ := heap0) (M := 12 + (1 + (1200 + (1400 + (1700 + (1600 + (1100 + (500 + 2)))))))) h_open h_size (fun w os => run_all w os) (by decide)
set_option maxRecDepth 100000
set_option maxHeartbeats 0
theorem hd_def : defOf qv rw1.name = some ((defOf qv rw1.name).get (by kernel_rfl)) := by
  kernel_rfl
noncomputable def dRec : DefRec := ((defOf qv rw1.name).get (by kernel_rfl)).1
theorem hd_def2 : defOf qv rw1.name = some (dRec, []) := by kernel_rfl
theorem hd_the : rw1.row.prog.theDef rw1.row.name = some (dRec.params, dRec.body, dRec.scope) := by kernel_rfl
theorem hd_kw : kwWritten? dRec.params.kwonlyargs dRec.params.kw_defaults = some [] := by kernel_rfl
theorem hd_ok : (chainsOk qv && opensWell rw1.row.prog && (frees rw1.row.toRowW && rw1.row.within.isEmpty)) = true := by kernel_rfl
theorem hd_wr : (!rw1.row.writes || rw1.row.records.isEmpty) = true := by kernel_rfl
theorem hd_bare : rw1.row.prog.bare := ⟨rfl, rfl, rfl, rfl, rfl, by decide +kernel⟩
set_option maxRecDepth 100000
set_option maxHeartbeats 0
theorem hd_said : rw1.wellSaid = true := by
  rw [PySem.W.Fast.te9446332074065402090]
  delta PySem.W.Fast.tw9446332074065402090
  repeat' (with_reducible refine look_both ?_ ?_)
  all_goals (try delta PySem.W.Fast.tw17960256430627541270)
  all_goals (repeat' (with_reducible refine look_both ?_ ?_))
  all_goals (try delta PySem.W.Fast.tw2436336058641802641)
  all_goals (repeat' (with_reducible refine look_both ?_ ?_))
  all_goals (try delta PySem.W.Fast.tw12908688711261696721)
  all_goals (repeat' (with_reducible refine look_both ?_ ?_))
  all_goals decide +kernel
set_option maxRecDepth 100000
set_option maxHeartbeats 0
theorem hd_prom : rw1.row.toRowW.promised := by w_witness2
theorem headed (said : rw1.row.wellSaid = true) (call : WalkO qv lse (XL qv []) (Hook.says hkK) rw1.row.toRowW dRec [] fun f vs => PySem.call f vs) : rw1.row.Holds :=
  holds_open (r := rw1.row) (q := qv) (loose := lse) (Xt := xT) (XP := XL qv []) (Yf := Hook.obs hkK) (Ya := Hook.val hkK) (YP := Hook.says hkK) (N := 8000) left (Hook.of hkK) (Hook.keeps hkK) (fun s e => xl_of s (Bool.and_eq_true_iff.mp e).1) XL.keeps hd_def2 hd_the hd_kw (fun s e => recFacts_of (Bool.and_eq_true_iff.mp e).2) hd_wr said hd_ok hd_bare hd_prom call
set_option maxRecDepth 100000
set_option maxHeartbeats 4000000
noncomputable abbrev aT (dp un : Nat) (gd : Option (List Code)) (cn : Str) (cs : Scope) (L a : Addr) (ccd : Value) (outer : List Env) : Around := { handled := none, depth := dp, frames := some (envOf cn cs L a ccd :: outer), guards := gd, units := un }
structure Cx (w : World) (A₀ : Around) (base h₀ : Heap) (outer : List Env) (mean : ExcName → Option Value) (mg mb : Str → Option Value) (cs : Scope) (dp un k : Nat) : Prop where
  B : Below A₀ base outer h₀
  X : (K w.params).In h₀
  T : Top qv (looseW qv lse) mean mg mb h₀
  hk : cs.kind = .function
  room : dp + k < recursionLimit
  un : un + 20 * k < cLine
noncomputable def fnParts : Stmt → Arguments × List Stmt × Scope
  | .FunctionDef _ ps b _ _ _ sc .. => (ps, b, sc)
  | _ => default
structure FnLit (st : Stmt) where
  ps : Arguments
  b : List Stmt
  sc : Scope
  ok : fnParts st = (ps, b, sc)
noncomputable def FillIt (_ : OpenLaw) (_ : Params → Frag) : Prop := True
theorem fill_it : FillIt rw1 K := trivial
@[reducible] noncomputable def F44 : FnLit (tp 2) := ⟨_, _, _, rfl⟩
theorem l44 (P : Params) : (K P).lookup 44 = some ⟨.type "function", none, .func (fnOf (S "_wall") (S "_wall") F44.ps F44.b F44.sc .none .none .none (.str (S "__main__") 164) none (.ref 43) .none), Array.mk []⟩ := by kernel_rfl
theorem c44 (P : Params) : codeIn (K P) (.ref 43) (S "_wall") = true := by kernel_rfl
@[reducible] noncomputable def F63 : FnLit (tp 6) := ⟨_, _, _, rfl⟩
theorem l63 (P : Params) : (K P).lookup 63 = some ⟨.type "function", none, .func (fnOf (S "_index") (S "_index") F63.ps F63.b F63.sc .none .none .none (.str (S "io") 371) none (.ref 62) .none), Array.mk []⟩ := by kernel_rfl
theorem c63 (P : Params) : codeIn (K P) (.ref 62) (S "_index") = true := by kernel_rfl
@[reducible] noncomputable def F90 : FnLit (cm 8 1) := ⟨_, _, _, rfl⟩
theorem l90 (P : Params) : (K P).lookup 90 = some ⟨.type "function", none, .func (fnOf (S "__new__") (S "IOBase.__new__") F90.ps F90.b F90.sc .none .none .none (.str (S "io") 371) none (.ref 89) .none), Array.mk []⟩ := by kernel_rfl
theorem c90 (P : Params) : codeIn (K P) (.ref 89) (S "IOBase.__new__") = true := by kernel_rfl
@[reducible] noncomputable def F367 : FnLit (cm 12 1) := ⟨_, _, _, rfl⟩
theorem l367 (P : Params) : (K P).lookup 367 = some ⟨.type "function", none, .func (fnOf (S "__init__") (S "StringIO.__init__") F367.ps F367.b F367.sc (.ref 360) .none .none (.str (S "io") 371) none (.ref 366) .none), Array.mk []⟩ := by kernel_rfl
theorem c367 (P : Params) : codeIn (K P) (.ref 366) (S "StringIO.__init__") = true := by kernel_rfl
@[reducible] noncomputable def F374 : FnLit (cm 12 2) := ⟨_, _, _, rfl⟩
theorem l374 (P : Params) : (K P).lookup 374 = some ⟨.type "function", none, .func (fnOf (S "__translated") (S "StringIO.__translated") F374.ps F374.b F374.sc .none .none .none (.str (S "io") 371) none (.ref 373) .none), Array.mk []⟩ := by kernel_rfl
theorem c374 (P : Params) : codeIn (K P) (.ref 373) (S "StringIO.__translated") = true := by kernel_rfl
@[reducible] noncomputable def F381 : FnLit (cm 12 3) := ⟨_, _, _, rfl⟩
theorem l381 (P : Params) : (K P).lookup 381 = some ⟨.type "function", none, .func (fnOf (S "__check") (S "StringIO.__check") F381.ps F381.b F381.sc .none .none .none (.str (S "io") 371) none (.ref 380) .none), Array.mk []⟩ := by kernel_rfl
theorem c381 (P : Params) : codeIn (K P) (.ref 380) (S "StringIO.__check") = true := by kernel_rfl
@[reducible] noncomputable def F543 : FnLit (cm 12 25) := ⟨_, _, _, rfl⟩
theorem l543 (P : Params) : (K P).lookup 543 = some ⟨.type "function", none, .func (fnOf (S "read") (S "StringIO.read") F543.ps F543.b F543.sc (.ref 536) .none .none (.str (S "io") 371) none (.ref 542) .none), Array.mk []⟩ := by kernel_rfl
theorem c543 (P : Params) : codeIn (K P) (.ref 542) (S "StringIO.read") = true := by kernel_rfl
@[reducible] noncomputable def F656 : FnLit (cm 22 0) := ⟨_, _, _, rfl⟩
theorem l656 (P : Params) : (K P).lookup 656 = some ⟨.type "function", none, .func (fnOf (S "__init__") (S "shlex.__init__") F656.ps F656.b F656.sc (.ref 649) .none .none (.str (S "cpy313.shlex") 1087) none (.ref 655) .none), Array.mk []⟩ := by kernel_rfl
theorem c656 (P : Params) : codeIn (K P) (.ref 655) (S "shlex.__init__") = true := by kernel_rfl
@[reducible] noncomputable def F663 : FnLit (cm 22 1) := ⟨_, _, _, rfl⟩
theorem l663 (P : Params) : (K P).lookup 663 = some ⟨.type "function", none, .func (fnOf (S "punctuation_chars") (S "shlex.punctuation_chars") F663.ps F663.b F663.sc .none .none .none (.str (S "cpy313.shlex") 1087) none (.ref 662) .none), Array.mk []⟩ := by kernel_rfl
theorem c663 (P : Params) : codeIn (K P) (.ref 662) (S "shlex.punctuation_chars") = true := by kernel_rfl
@[reducible] noncomputable def F693 : FnLit (cm 22 5) := ⟨_, _, _, rfl⟩
theorem l693 (P : Params) : (K P).lookup 693 = some ⟨.type "function", none, .func (fnOf (S "get_token") (S "shlex.get_token") F693.ps F693.b F693.sc .none .none .none (.str (S "cpy313.shlex") 1087) none (.ref 692) .none), Array.mk []⟩ := by kernel_rfl
theorem c693 (P : Params) : codeIn (K P) (.ref 692) (S "shlex.get_token") = true := by kernel_rfl
@[reducible] noncomputable def F700 : FnLit (cm 22 6) := ⟨_, _, _, rfl⟩
theorem l700 (P : Params) : (K P).lookup 700 = some ⟨.type "function", none, .func (fnOf (S "read_token") (S "shlex.read_token") F700.ps F700.b F700.sc .none .none .none (.str (S "cpy313.shlex") 1087) none (.ref 699) .none), Array.mk []⟩ := by kernel_rfl
theorem c700 (P : Params) : codeIn (K P) (.ref 699) (S "shlex.read_token") = true := by kernel_rfl
@[reducible] noncomputable def F722 : FnLit (cm 22 9) := ⟨_, _, _, rfl⟩
theorem l722 (P : Params) : (K P).lookup 722 = some ⟨.type "function", none, .func (fnOf (S "__iter__") (S "shlex.__iter__") F722.ps F722.b F722.sc .none .none .none (.str (S "cpy313.shlex") 1087) none (.ref 721) .none), Array.mk []⟩ := by kernel_rfl
theorem c722 (P : Params) : codeIn (K P) (.ref 721) (S "shlex.__iter__") = true := by kernel_rfl
@[reducible] noncomputable def F729 : FnLit (cm 22 10) := ⟨_, _, _, rfl⟩
theorem l729 (P : Params) : (K P).lookup 729 = some ⟨.type "function", none, .func (fnOf (S "__next__") (S "shlex.__next__") F729.ps F729.b F729.sc .none .none .none (.str (S "cpy313.shlex") 1087) none (.ref 728) .none), Array.mk []⟩ := by kernel_rfl
theorem c729 (P : Params) : codeIn (K P) (.ref 728) (S "shlex.__next__") = true := by kernel_rfl
@[reducible] noncomputable def F744 : FnLit (tp 23) := ⟨_, _, _, rfl⟩
theorem l744 (P : Params) : (K P).lookup 744 = some ⟨.type "function", none, .func (fnOf (S "split") (S "split") F744.ps F744.b F744.sc (.ref 737) .none .none (.str (S "cpy313.shlex") 1087) none (.ref 743) .none), Array.mk []⟩ := by kernel_rfl
theorem c744 (P : Params) : codeIn (K P) (.ref 743) (S "split") = true := by kernel_rfl
@[reducible] noncomputable def F751 : FnLit (tp 24) := ⟨_, _, _, rfl⟩
theorem l751 (P : Params) : (K P).lookup 751 = some ⟨.type "function", none, .func (fnOf (S "join") (S "join") F751.ps F751.b F751.sc .none .none .none (.str (S "cpy313.shlex") 1087) none (.ref 750) .none), Array.mk []⟩ := by kernel_rfl
theorem c751 (P : Params) : codeIn (K P) (.ref 750) (S "join") = true := by kernel_rfl
@[reducible] noncomputable def F759 : FnLit (tp 27) := ⟨_, _, _, rfl⟩
theorem l759 (P : Params) : (K P).lookup 759 = some ⟨.type "function", none, .func (fnOf (S "quote") (S "quote") F759.ps F759.b F759.sc .none .none .none (.str (S "cpy313.shlex") 1087) none (.ref 758) .none), Array.mk []⟩ := by kernel_rfl
theorem c759 (P : Params) : codeIn (K P) (.ref 758) (S "quote") = true := by kernel_rfl
@[reducible] noncomputable def F769 : FnLit (tp 80) := ⟨_, _, _, rfl⟩
theorem l769 (P : Params) : (K P).lookup 769 = some ⟨.type "function", none, .func (fnOf (S "ISTERMINAL") (S "ISTERMINAL") F769.ps F769.b F769.sc .none .none .none (.str (S "cpy313.token") 1255) none (.ref 768) .none), Array.mk []⟩ := by kernel_rfl
theorem c769 (P : Params) : codeIn (K P) (.ref 768) (S "ISTERMINAL") = true := by kernel_rfl
@[reducible] noncomputable def F776 : FnLit (tp 81) := ⟨_, _, _, rfl⟩
theorem l776 (P : Params) : (K P).lookup 776 = some ⟨.type "function", none, .func (fnOf (S "ISNONTERMINAL") (S "ISNONTERMINAL") F776.ps F776.b F776.sc .none .none .none (.str (S "cpy313.token") 1255) none (.ref 775) .none), Array.mk []⟩ := by kernel_rfl
theorem c776 (P : Params) : codeIn (K P) (.ref 775) (S "ISNONTERMINAL") = true := by kernel_rfl
@[reducible] noncomputable def F783 : FnLit (tp 82) := ⟨_, _, _, rfl⟩
theorem l783 (P : Params) : (K P).lookup 783 = some ⟨.type "function", none, .func (fnOf (S "ISEOF") (S "ISEOF") F783.ps F783.b F783.sc .none .none .none (.str (S "cpy313.token") 1255) none (.ref 782) .none), Array.mk []⟩ := by kernel_rfl
theorem c783 (P : Params) : codeIn (K P) (.ref 782) (S "ISEOF") = true := by kernel_rfl
@[reducible] noncomputable def F790 : FnLit (tp 84) := ⟨_, _, _, rfl⟩
theorem l790 (P : Params) : (K P).lookup 790 = some ⟨.type "function", none, .func (fnOf (S "_law_symbol") (S "_law_symbol") F790.ps F790.b F790.sc .none .none .none (.str (S "law_ox0135_01") 1475) none (.ref 789) .none), Array.mk []⟩ := by kernel_rfl
theorem c790 (P : Params) : codeIn (K P) (.ref 789) (S "_law_symbol") = true := by kernel_rfl
@[reducible] noncomputable def F795 : FnLit (tp 85) := ⟨_, _, _, rfl⟩
theorem l795 (P : Params) : (K P).lookup 795 = some ⟨.type "function", none, .func (fnOf (S "_law_word") (S "_law_word") F795.ps F795.b F795.sc .none .none .none (.str (S "law_ox0135_01") 1475) none (.ref 794) .none), Array.mk []⟩ := by kernel_rfl
theorem c795 (P : Params) : codeIn (K P) (.ref 794) (S "_law_word") = true := by kernel_rfl
@[reducible] noncomputable def F802 : FnLit (tp 86) := ⟨_, _, _, rfl⟩
theorem l802 (P : Params) : (K P).lookup 802 = some ⟨.type "function", none, .func (fnOf (S "_law_number") (S "_law_number") F802.ps F802.b F802.sc .none .none .none (.str (S "law_ox0135_01") 1475) none (.ref 801) .none), Array.mk []⟩ := by kernel_rfl
theorem c802 (P : Params) : codeIn (K P) (.ref 801) (S "_law_number") = true := by kernel_rfl
@[reducible] noncomputable def F807 : FnLit (tp 87) := ⟨_, _, _, rfl⟩
theorem l807 (P : Params) : (K P).lookup 807 = some ⟨.type "function", none, .func (fnOf (S "_law_told") (S "_law_told") F807.ps F807.b F807.sc .none .none .none (.str (S "law_ox0135_01") 1475) none (.ref 806) .none), Array.mk []⟩ := by kernel_rfl
theorem c807 (P : Params) : codeIn (K P) (.ref 806) (S "_law_told") = true := by kernel_rfl
@[reducible] noncomputable def F812 : FnLit (tp 88) := ⟨_, _, _, rfl⟩
theorem l812 (P : Params) : (K P).lookup 812 = some ⟨.type "function", none, .func (fnOf (S "_law_tokens") (S "_law_tokens") F812.ps F812.b F812.sc .none .none .none (.str (S "law_ox0135_01") 1475) none (.ref 811) .none), Array.mk []⟩ := by kernel_rfl
theorem c812 (P : Params) : codeIn (K P) (.ref 811) (S "_law_tokens") = true := by kernel_rfl
@[reducible] noncomputable def F819 : FnLit (tp 89) := ⟨_, _, _, rfl⟩
theorem l819 (P : Params) : (K P).lookup 819 = some ⟨.type "function", none, .func (fnOf (S "_law_readers") (S "_law_readers") F819.ps F819.b F819.sc .none .none .none (.str (S "law_ox0135_01") 1475) none (.ref 818) .none), Array.mk []⟩ := by kernel_rfl
theorem c819 (P : Params) : codeIn (K P) (.ref 818) (S "_law_readers") = true := by kernel_rfl
@[reducible] noncomputable def F824 : FnLit (tp 90) := ⟨_, _, _, rfl⟩
theorem l824 (P : Params) : (K P).lookup 824 = some ⟨.type "function", none, .func (fnOf (S "law") (S "law") F824.ps F824.b F824.sc .none .none .none (.str (S "law_ox0135_01") 1475) none (.ref 823) .none), Array.mk []⟩ := by kernel_rfl
theorem c824 (P : Params) : codeIn (K P) (.ref 823) (S "law") = true := by kernel_rfl
set_option maxRecDepth 100000
set_option maxHeartbeats 4000000
local macro_rules | `(tactic| k_room) => `(tactic| ((try simp only [depth_under_make, depth_under_kw, depth_in1, depth_deeper, depth_caller]); (try dsimp only [aT]); omega))
local macro_rules | `(tactic| k_all) => `(tactic| assumption)
noncomputable abbrev sioEs (P : Params) (t1 t2 t3 tb t4 tp' : Tok) (buf : Str) (p : Int) : List DictEntry := [E P "_StringIO__newline" t1 (.str (S "\n") t2), E P "_StringIO__buf" t3 (.str buf tb), E P "_StringIO__pos" t4 (.int p tp')]
theorem slice1 (buf : Str) (p : Nat) (hp : p < buf.length) : Txt.slice buf (some (p : Int)) (some ((p : Int) + 1)) = ⟨#[buf.cps.getD p 0]⟩ := by
  have e := PySem.StrLaws.sliceText_nat buf (a := p) (b := p + 1) (by omega) hp
  have hp' : p < buf.cps.toList.length := by simpa [Str.length] using hp
  refine Eq.trans (show _ = PySem.StrLaws.sliceText buf (some (p : Int)) (some ((p + 1 : Nat) : Int)) from rfl) (e.trans ?_)
  rw [Nat.add_sub_cancel_left, List.drop_eq_getElem_cons hp', List.take_succ_cons, List.take_zero]
  congr 2
  have : p < buf.cps.size := hp
  simp [Array.getD, this]
theorem t_read {w : World} {A₀ : Around} {base h₀ : Heap} {outer : List Env} {mean : ExcName → Option Value} {mg mb : Str → Option Value} {cn : Str} {cs : Scope} {L a : Addr} {ccd : Value} {dp un : Nat} {gd : Option (List Code)} {m : Str → Option Value} {rest : List (Addr × Obj)} {s : Shared} {Q E' : Value → Shared → Prop} {tk : Tok}
   {io dio : Addr} {t1 t2 t3 tb t4 tp' : Tok} {buf : Str} {p : Nat}
   (G : Cx w A₀ base h₀ outer mean mg mb cs dp un 4) (F : Fr h₀ L s.heap m) (N : News h₀ L s.heap ((io, instObj 597 dio) :: (dio, dictOf (sioEs w.params t1 t2 t3 tb t4 tp' buf (p : Int)) 3) :: rest))
   (o1 : @LT.lt Nat _ dio io) (hr : ∀ q ∈ rest, q.1 ≠ dio) (hp : p < buf.length) (hb : buf.length ≤ 10000)
   (h : ∀ h' tk' tv tp2, Fr h₀ L h' m → News h₀ L h' ((io, instObj 597 dio) :: (dio, dictOf (sioEs w.params t1 t2 t3 tb t4 tp2 buf ((p : Int) + 1)) 3) :: rest) → Q (.str ⟨#[buf.cps.getD p 0]⟩ tv) { s with heap := h', toks := tk' }) :
   wpAny (model pw w) (aT dp un gd cn cs L a ccd outer) (call (.ref 543) [.ref io, .int 1 tk]) Q E' s := by
  obtain ⟨B, X, T, hk, room, hun⟩ := G
  have hfi := fill_it
  revert hfi
  k_fill
  intro hfi
  clear hfi
  refine wpAny_call ?_
  refine code_def (binds := [(S "self", .ref io), (S "size", .int 1 tk)]) B F X N T rfl rfl hk (l543 _) (c543 _) (by dsimp only; omega) (binds_K (X.keeps F.keep) rfl (by k_is) rfl rfl rfl) (locs rfl) ?_ rfl rfl rfl (by decide)
  intro g' L' h' FG' F' N' B' X' T'
  dsimp only [F543]
  k_steps
  · rw [slice1 buf p hp]
    exact h _ _ _ _ (by assumption) (by assumption)
  · have e9 : (buf.length : Int) = (p : Int) + 1 := by omega
    rw [e9, slice1 buf p hp]
    rename News _ _ _ _ => N9
    rw [e9] at N9
    exact h _ _ _ _ (by assumption) N9
theorem t_read0 {w : World} {A₀ : Around} {base h₀ : Heap} {outer : List Env} {mean : ExcName → Option Value} {mg mb : Str → Option Value} {cn : Str} {cs : Scope} {L a : Addr} {ccd : Value} {dp un : Nat} {gd : Option (List Code)} {m : Str → Option Value} {rest : List (Addr × Obj)} {s : Shared} {Q E' : Value → Shared → Prop} {tk : Tok}
   {io dio : Addr} {t1 t2 t3 tb t4 tp' : Tok} {buf : Str} {p : Nat}
   (G : Cx w A₀ base h₀ outer mean mg mb cs dp un 4) (F : Fr h₀ L s.heap m) (N : News h₀ L s.heap ((io, instObj 597 dio) :: (dio, dictOf (sioEs w.params t1 t2 t3 tb t4 tp' buf (p : Int)) 3) :: rest))
   (hp : ¬ p < buf.length) (hb : buf.length ≤ 10000)
   (h : ∀ h' tk' tv, Fr h₀ L h' m → News h₀ L h' ((io, instObj 597 dio) :: (dio, dictOf (sioEs w.params t1 t2 t3 tb t4 tp' buf (p : Int)) 3) :: rest) → Q (.str (S "") tv) { s with heap := h', toks := tk' }) :
   wpAny (model pw w) (aT dp un gd cn cs L a ccd outer) (call (.ref 543) [.ref io, .int 1 tk]) Q E' s := by
  obtain ⟨B, X, T, hk, room, hun⟩ := G
  have hfi := fill_it
  revert hfi
  k_fill
  intro hfi
  clear hfi
  refine wpAny_call ?_
  refine code_def (binds := [(S "self", .ref io), (S "size", .int 1 tk)]) B F X N T rfl rfl hk (l543 _) (c543 _) (by dsimp only; omega) (binds_K (X.keeps F.keep) rfl (by k_is) rfl rfl rfl) (locs rfl) ?_ rfl rfl rfl (by decide)
  intro g' L' h' FG' F' N' B' X' T'
  dsimp only [F543]
  k_steps
  exact h _ _ _ (by assumption) (by assumption)
noncomputable abbrev dqO : Obj := { cls := .type "collections.deque", data := .fields #[.none, .int 0 0] }
theorem dq_noBool : typeLookup (.type "collections.deque") "__bool__" = pure none := by rw [typeLookup_type, builtinLookup_eq_fast]; kernel_rfl
theorem dq_slot_len : Slot "collections.deque" "__len__" "collections.deque.__len__" :=
  .of (owner := "collections.deque") (n := "__len__") (by rw [typeLookup_type, builtinLookup_eq_fast]; kernel_rfl) (by decide +kernel) (by decide +kernel) (by decide +kernel)
    (by first | exact .inl (by decide +kernel) | exact .inr (by decide +kernel)) (by rw [isSubtype_type]; kernel_rfl)
theorem dq_entry : entryFor table "collections.deque.__len__" = some Builtin.«collections.deque.__len__» := entryFor_of_fast (by kernel_rfl)
theorem dq_args (a : Value) : argsOk "collections.deque.__len__" ⟨[a], []⟩ := by unfold argsOk; kernel_rfl
section
variable {prog : Program} {w : World} {A : Around} {E : Value → Shared → Prop} {s : Shared}
theorem dq_len_body {l : Addr} {Q : Value → Shared → Prop} (hl : s.heap.get? l = some dqO)
    (h : Q (.int 0 (s.toks + 1)) { s with toks := s.toks + 1 + 1 }) : wpAny (model prog w) A (Builtin.«len» ⟨[.ref l], []⟩) (fun fin s' => ∃ r, fin = .done (.ret r) ∧ Q r s') E s := by
  have hT : s.TypeIs (.ref l) "collections.deque" := ⟨_, hl, rfl⟩
  unfold Builtin.«len»
  refine wpAny_bind (m := oneArg "len" _) (wpAny_pure ?_)
  refine wpAny_bind (m := callSpecial? (.ref l) (Str.ofString "__len__")) (wpAny_callSpecial?_slot (name := Str.ofString "__len__") hT dq_slot_len
    (wpAny_call_entry dq_slot_len hT dq_entry ?_ (dq_args _)))
  show wpAny _ _ (do retInt (← Builtin.Deque.size (.ref l))) _ _ s
  unfold Builtin.Deque.size
  refine wpAny_bind (wpAny_bind (wpAny_fieldsOf hl rfl (wpAny_pure ?_)))
  refine wpAny_bind (wpAny_mkInt (wpAny_pure ⟨_, rfl, ?_⟩))
  refine wpAny_bind (wpAny_holding (wpAny_pure ?_))
  refine wpAny_bind (wpAny_letGo ?_)
  exact wpAny_bind (wpAny_mkInt (wpAny_pure ⟨_, rfl, h⟩))
theorem truthy_dq {l : Addr} {Q : Bool → Shared → Prop} (hl : s.heap.get? l = some dqO)
    (h : Q false { s with toks := s.toks + 1 + 1 }) : wpAny (model prog w) A (truthy (.ref l)) Q E s := by
  have hT : s.TypeIs (.ref l) "collections.deque" := ⟨_, hl, rfl⟩
  have key : wpAny (model prog w) A (runValue (.builtin "len" ⟨[.ref l], []⟩)) (fun r s' => r = .int 0 (s.toks + 1) ∧ Q false s') E s := by
    refine wpAny_runValue (codeAny_builtin entry_len ?_)
    rw [Around.under_plainId plain_len _]
    exact wpAny_mono (dq_len_body (Q := fun r s' => r = .int 0 (s.toks + 1) ∧ Q false s') hl ⟨rfl, h⟩)
      (fun fin s' h' => by obtain ⟨r, rfl, hq⟩ := h'; exact hq) fun _ _ e => e
  unfold truthy
  first
    | refine wpAny_bind (wpAny_callSpecial?_none (name := Str.ofString "__bool__") hT dq_noBool ?_)
    | refine wpAny_bind (wpAny_pure (wpAny_bind (wpAny_callSpecial?_none (name := Str.ofString "__bool__") hT dq_noBool ?_)))
  first
    | refine wpAny_bind (wpAny_specialOf (name := Str.ofString "__len__") hT dq_slot_len.lookup ?_)
    | refine wpAny_bind (wpAny_pure (wpAny_bind (wpAny_specialOf (name := Str.ofString "__len__") hT dq_slot_len.lookup ?_)))
  first
    | exact wpAny_bind (wpAny_mono key (fun r s' h' => by obtain ⟨rfl, hq⟩ := h'; exact wpAny_pure hq) fun _ _ e => e)
    | exact wpAny_bind (wpAny_pure (wpAny_bind (wpAny_mono key (fun r s' h' => by obtain ⟨rfl, hq⟩ := h'; exact wpAny_pure hq) fun _ _ e => e)))
end
set_option maxRecDepth 100000
set_option maxHeartbeats 4000000
/-- one text occurs in another, as a word that the walk does not open -/
noncomputable def inC (x y : Str) : Bool := !(Builtin.Str.occurrences x y 0 x.length 1).isEmpty
noncomputable def eqC (x y : Str) : Bool := x == y
noncomputable def nonE (x : Str) : Bool := (x.length : Int) != 0
section
variable {prog : Program} {w : World} {A : Around} {E : Value → Shared → Prop} {s : Shared} {x y : Str} {t u : Tok}
theorem in_strB {b : Bool} {Q : Value → Shared → Prop} (hb : inC x y = b) (h : Q (.bool b) s) : wpAny (model prog w) A (compareOp .In (.str y u) (.str x t)) Q E s := by subst hb; exact in_str h
theorem notin_strB {b : Bool} {Q : Value → Shared → Prop} (hb : inC x y = b) (h : Q (.bool (!b)) s) : wpAny (model prog w) A (compareOp .NotIn (.str y u) (.str x t)) Q E s := by subst hb; exact notIn_str h
theorem eq_strB {b : Bool} {Q : Value → Shared → Prop} (hb : eqC x y = b) (h : Q (.bool b) s) : wpAny (model prog w) A (compareOp .Eq (.str x t) (.str y u)) Q E s := by subst hb; exact PyProof.Rows.eq_str h
theorem truthy_strB {b : Bool} {Q : Bool → Shared → Prop} (hb : nonE x = b) (h63 : (x.length : Int) < 9223372036854775808) (h : ∀ tk, Q b { s with toks := tk }) : wpAny (model prog w) A (truthy (.str x t)) Q E s := by subst hb; exact PySem.P.truthy_str (by omega) (h _)
end
/-! a small logic of tests and statements that keep an invariant of the heap -/
noncomputable def Ev (w : World) (A : Around) (env : Env) (I : Heap → Prop) (e : PySem.Expr) (P : Value → Prop) : Prop :=
  ∀ (Q : Value → Shared → Prop) (E : Value → Shared → Prop) (s : Shared), I s.heap → (∀ v h' tk, P v → I h' → Q v { s with heap := h', toks := tk }) → wpAny (model pw w) A (eval e env) Q E s
noncomputable def Ts (w : World) (A : Around) (env : Env) (I : Heap → Prop) (e : PySem.Expr) (b : Bool) : Prop :=
  ∀ (Q : Bool → Shared → Prop) (E : Value → Shared → Prop) (s : Shared), I s.heap → (∀ h' tk, I h' → Q b { s with heap := h', toks := tk }) → wpAny (model pw w) A (isTrue e env (eval e env)) Q E s
noncomputable def Tl (w : World) (A : Around) (env : Env) (I : Heap → Prop) (o : BoolOp) (es : List PySem.Expr) (b : Bool) : Prop :=
  ∀ (pos : Pos) (whole : Sem Value) (Q : Bool → Shared → Prop) (E : Value → Shared → Prop) (s : Shared), I s.heap → (∀ h' tk, I h' → Q b { s with heap := h', toks := tk }) → wpAny (model pw w) A (isTrue (.BoolOp o es pos) env whole) Q E s
noncomputable def Ex (w : World) (A : Around) (env : Env) (I : Heap → Prop) (st : Stmt) (fl : Flow) (J : Heap → Prop) : Prop :=
  ∀ (Q : Flow → Shared → Prop) (E : Value → Shared → Prop) (s : Shared), I s.heap → (∀ h' tk, J h' → Q fl { s with heap := h', toks := tk }) → wpAny (model pw w) A (exec st env) Q E s
noncomputable def Exs (w : World) (A : Around) (env : Env) (I : Heap → Prop) (st : List Stmt) (fl : Flow) (J : Heap → Prop) : Prop :=
  ∀ (Q : Flow → Shared → Prop) (E : Value → Shared → Prop) (s : Shared), I s.heap → (∀ h' tk, J h' → Q fl { s with heap := h', toks := tk }) → wpAny (model pw w) A (execs st env) Q E s
noncomputable abbrev isS (x : Str) (v : Value) : Prop := ∃ t, v = .str x t
section
variable {w : World} {A : Around} {env : Env} {I J J' : Heap → Prop}
theorem ev_str {x : Str} {k pos} : Ev w A env I (.Constant (.str x) k pos) (isS x) := fun Q E s hi h => Calls.Constant_str (h _ s.heap _ ⟨_, rfl⟩ hi)
theorem ev_none {k pos} : Ev w A env I (.Constant .none k pos) (· = .none) := fun Q E s hi h => Constant_none (h _ s.heap s.toks rfl hi)
theorem ev_bool {c k pos} : Ev w A env I (.Constant (.bool c) k pos) (· = .bool c) := fun Q E s hi h => Constant_bool (h _ s.heap s.toks rfl hi)
theorem ts_in {l r pos} {x y : Str} {b : Bool} (hl : Ev w A env I l (isS y)) (hr : Ev w A env I r (isS x)) (hb : inC x y = b) (hm : behindInMarks .In r = false := by with_unfolding_all rfl) : Ts w A env I (.Compare l [.In] [r] pos) b :=
  fun Q E s hi h => wpAny_isTrue_Compare1 (hl _ _ _ hi fun v h1 t1 hv i1 => hr _ _ _ i1 fun u h2 t2 hu i2 => by
    obtain ⟨_, rfl⟩ := hv; obtain ⟨_, rfl⟩ := hu
    exact in_strB hb (wpAny_truthy_bool (h _ _ i2))) hm
theorem ts_notin {l r pos} {x y : Str} {b : Bool} (hl : Ev w A env I l (isS y)) (hr : Ev w A env I r (isS x)) (hb : inC x y = b) (hm : behindInMarks .NotIn r = false := by with_unfolding_all rfl) : Ts w A env I (.Compare l [.NotIn] [r] pos) (!b) :=
  fun Q E s hi h => wpAny_isTrue_Compare1 (hl _ _ _ hi fun v h1 t1 hv i1 => hr _ _ _ i1 fun u h2 t2 hu i2 => by
    obtain ⟨_, rfl⟩ := hv; obtain ⟨_, rfl⟩ := hu
    exact notin_strB hb (wpAny_truthy_bool (h _ _ i2))) hm
theorem ts_eq {l r pos} {x y : Str} {b : Bool} (hl : Ev w A env I l (isS x)) (hr : Ev w A env I r (isS y)) (hb : eqC x y = b) (hm : behindInMarks .Eq r = false := by with_unfolding_all rfl) : Ts w A env I (.Compare l [.Eq] [r] pos) b :=
  fun Q E s hi h => wpAny_isTrue_Compare1 (hl _ _ _ hi fun v h1 t1 hv i1 => hr _ _ _ i1 fun u h2 t2 hu i2 => by
    obtain ⟨_, rfl⟩ := hv; obtain ⟨_, rfl⟩ := hu
    exact eq_strB hb (wpAny_truthy_bool (h _ _ i2))) hm
theorem ts_isnone {l k p' pos} {v₀ : Value} {b : Bool} {P : Value → Prop} (hl : Ev w A env I l P) (hb : ∀ v, P v → (v = .none) = (b = true)) : Ts w A env I (.Compare l [.Is] [.Constant .none k p'] pos) b :=
  fun Q E s hi h => wpAny_isTrue_Compare1 (hl _ _ _ hi fun v h1 t1 hv i1 => Constant_none (by
    have e := hb v hv
    cases b with
    | true => rw [e.mpr rfl]; exact is_none_none (wpAny_truthy_bool (h _ _ i1))
    | false => exact is_none_ne (fun x => by rw [e] at x; cases x) (wpAny_truthy_bool (h _ _ i1))))
theorem ts_ge {l r pos} {a b : Int} (hl : Ev w A env I l (fun v => ∃ t, v = .int a t)) (hr : Ev w A env I r (fun v => ∃ t, v = .int b t)) (hm : behindInMarks .GtE r = false := by with_unfolding_all rfl) : Ts w A env I (.Compare l [.GtE] [r] pos) (decide (b ≤ a)) :=
  fun Q E s hi h => wpAny_isTrue_Compare1 (hl _ _ _ hi fun v h1 t1 hv i1 => hr _ _ _ i1 fun u h2 t2 hu i2 => by
    obtain ⟨_, rfl⟩ := hv; obtain ⟨_, rfl⟩ := hu
    exact PyProof.Rows.ge_int (wpAny_truthy_bool (h _ _ i2))) hm
theorem ts_not {x pos b} (h : Ts w A env I x b) : Ts w A env I (.UnaryOp .Not x pos) (!b) := fun Q E s hi h' => isTrue_not (h _ _ _ hi fun h1 t1 i1 => h' _ _ i1)
theorem tl_and_nil : Tl w A env I .And [] true := fun pos whole Q E s hi h => isTrue_and_nil (h s.heap s.toks hi)
theorem tl_or_nil : Tl w A env I .Or [] false := fun pos whole Q E s hi h => isTrue_or_nil (h s.heap s.toks hi)
theorem tl_and_t {x r b} (h1 : Ts w A env I x true) (h2 : Tl w A env I .And r b) : Tl w A env I .And (x :: r) b := fun pos whole Q E s hi h => isTrue_and (h1 _ _ _ hi fun h' tk i => by rw [if_pos rfl]; exact h2 _ _ _ _ _ i h)
theorem tl_and_f {x r} (h1 : Ts w A env I x false) : Tl w A env I .And (x :: r) false := fun pos whole Q E s hi h => isTrue_and (h1 _ _ _ hi fun h' tk i => by rw [if_neg (by simp)]; exact h _ _ i)
theorem tl_or_t {x r} (h1 : Ts w A env I x true) : Tl w A env I .Or (x :: r) true := fun pos whole Q E s hi h => isTrue_or (h1 _ _ _ hi fun h' tk i => by rw [if_pos rfl]; exact h _ _ i)
theorem tl_or_f {x r b} (h1 : Ts w A env I x false) (h2 : Tl w A env I .Or r b) : Tl w A env I .Or (x :: r) b := fun pos whole Q E s hi h => isTrue_or (h1 _ _ _ hi fun h' tk i => by rw [if_neg (by simp)]; exact h2 _ _ _ _ _ i h)
theorem ts_bool {o es pos b} (h : Tl w A env I o es b) : Ts w A env I (.BoolOp o es pos) b := fun Q E s hi h' => h _ _ _ _ _ hi h'
theorem ts_str {e x b} (h : Ev w A env I e (isS x)) (hb : nonE x = b) (h63 : (x.length : Int) < 9223372036854775808) (he : ∀ whole, isTrue e env whole = (do let v ← whole; standAt e.pos; holding [v] (truthy v)) := by intro _; rfl) : Ts w A env I e b :=
  fun Q E s hi h' => isTrue_plain (h _ _ _ hi fun v h1 t1 hv i1 => by obtain ⟨_, rfl⟩ := hv; exact truthy_strB hb h63 fun tk => h' _ _ i1) (he _)
theorem ts_flag {e b} (h : Ev w A env I e (· = .bool b)) (he : ∀ whole, isTrue e env whole = (do let v ← whole; standAt e.pos; holding [v] (truthy v)) := by intro _; rfl) : Ts w A env I e b :=
  fun Q E s hi h' => isTrue_plain (h _ _ _ hi fun v h1 t1 hv i1 => by subst hv; exact wpAny_truthy_bool (h' _ _ i1)) (he _)
theorem ex_ifT {t b o p fl} (h1 : Ts w A env I t true) (h2 : Exs w A env I b fl J) : Ex w A env I (.If t b o p) fl J := fun Q E s hi h => wpAny_If (h1 _ _ _ hi fun h' tk i => by rw [if_pos rfl]; exact h2 _ _ _ i h)
theorem ex_ifF {t b o p fl} (h1 : Ts w A env I t false) (h2 : Exs w A env I o fl J) : Ex w A env I (.If t b o p) fl J := fun Q E s hi h => wpAny_If (h1 _ _ _ hi fun h' tk i => by rw [if_neg (by simp)]; exact h2 _ _ _ i h)
theorem exs_nil : Exs w A env I [] .next I := fun Q E s hi h => wpAny_execs_nil (h s.heap s.toks hi)
theorem exs_cons {a r fl} (h1 : Ex w A env I a .next J) (h2 : Exs w A env J r fl J') : Exs w A env I (a :: r) fl J' := fun Q E s hi h => wpAny_execs_cons (h1 _ _ _ hi fun h' tk i => h2 _ _ _ i h)
theorem exs_brk {a r} (h1 : Ex w A env I a .brk J) : Exs w A env I (a :: r) .brk J := fun Q E s hi h => wpAny_execs_cons (h1 _ _ _ hi fun h' tk i => h _ _ i)
theorem exs_cont {a r} (h1 : Ex w A env I a .cont J) : Exs w A env I (a :: r) .cont J := fun Q E s hi h => wpAny_execs_cons (h1 _ _ _ hi fun h' tk i => h _ _ i)
theorem exs_one {a fl} (h1 : Ex w A env I a fl J) : Exs w A env I [a] fl J := fun Q E s hi h => wpAny_execs_cons (h1 _ _ _ hi fun h' tk i => by cases fl <;> first | exact wpAny_execs_nil (h _ _ i) | exact h _ _ i)
theorem ex_break {p} : Ex w A env I (.Break p) .brk I := fun Q E s hi h => wpAny_Break (h s.heap s.toks hi)
theorem ex_continue {p} : Ex w A env I (.Continue p) .cont I := fun Q E s hi h => wpAny_Continue (h s.heap s.toks hi)
end
set_option maxRecDepth 100000
set_option maxHeartbeats 4000000
structure WhLit (l : List Stmt) where
  s1 : Stmt
  s2 : Stmt
  t : PySem.Expr
  b : List Stmt
  o : List Stmt
  p : Pos
  r : List Stmt
  ok : l = s1 :: s2 :: .While t b o p :: r
@[reducible] noncomputable def W7 : WhLit F700.b := ⟨_, _, _, _, _, _, _, rfl⟩
structure FourLit (l : List Stmt) where
  a : Stmt
  b : Stmt
  c : Stmt
  d : Stmt
  ok : l = [a, b, c, d]
@[reducible] noncomputable def B7 : FourLit W7.b := ⟨_, _, _, _, rfl⟩
/-- a lexer: the parts of the object that a reading does not change -/
structure Lx where
  io : Addr
  x : Addr
  dx : Addr
  pb : Addr
  fs : Addr
  kt : Nat → Tok
  vt : Nat → Tok
  eofv : Value
  com : Str
  wc : Str
  pc : Str
  px : Bool
  wsp : Bool
  tl : List DictEntry
  n : Nat
noncomputable abbrev lexEs (P : Params) (l : Lx) (stv : Value) (tok : Str) (ttok : Tok) : List DictEntry :=
  E P "instream" (l.kt 0) (.ref l.io) :: E P "infile" (l.kt 1) .none :: E P "posix" (l.kt 2) (.bool l.px) :: E P "eof" (l.kt 3) l.eofv :: E P "commenters" (l.kt 4) (.str l.com (l.vt 4)) :: E P "wordchars" (l.kt 5) (.str l.wc (l.vt 5)) ::
   E P "whitespace" (l.kt 6) (.str (S " \t\r\n") (l.vt 6)) :: E P "whitespace_split" (l.kt 7) (.bool l.wsp) :: E P "quotes" (l.kt 8) (.str (S "'\"") (l.vt 8)) :: E P "escape" (l.kt 9) (.str (S "\\") (l.vt 9)) :: E P "escapedquotes" (l.kt 10) (.str (S "\"") (l.vt 10)) ::
   E P "state" (l.kt 11) stv :: E P "pushback" (l.kt 12) (.ref l.pb) :: E P "lineno" (l.kt 13) (.int 1 (l.vt 13)) :: E P "debug" (l.kt 14) (.int 0 (l.vt 14)) :: E P "token" (l.kt 15) (.str tok ttok) :: E P "filestack" (l.kt 16) (.ref l.fs) :: E P "source" (l.kt 17) .none :: E P "_punctuation_chars" (l.kt 18) (.str l.pc (l.vt 18)) :: l.tl
noncomputable abbrev cm0 (x : Addr) (q : Bool) (te : Tok) (nc : Option Value) : Str → Option Value := fun y => if y = S "nextchar" then nc else if y = S "escapedstate" then some (.str (S " ") te) else if y = S "quoted" then some (.bool q) else if y = S "self" then some (.ref x) else none
noncomputable def stV : Option Str → Tok → Value
  | none, _ => .none
  | some x, t => .str x t
noncomputable abbrev env7 (L : Addr) : Env := envOf (S "shlex.read_token") F700.sc L 700 (.ref 699)
noncomputable abbrev A7 (dp un : Nat) (gd : Option (List Code)) (L : Addr) (outer : List Env) : Around := aT dp un gd (S "shlex.read_token") F700.sc L 700 (.ref 699) outer
structure Lok (l : Lx) (rest : List (Addr × Obj)) : Prop where
  o : @LT.lt Nat _ l.dx l.x
  r : ∀ q ∈ rest, q.1 ≠ l.dx
  t : l.tl.length ≤ 10
theorem Lok.ne {l : Lx} {rest : List (Addr × Obj)} (K' : Lok l rest) : l.x ≠ l.dx := fun e => by
  have h := K'.o
  rw [e] at h
  exact Nat.lt_irrefl _ h
noncomputable def At (P : Params) (h₀ : Heap) (L : Addr) (rest : List (Addr × Obj)) (l : Lx) (st : Option Str) (tok : Str) (q : Bool) (nc : Option Str) (h : Heap) : Prop :=
  ∃ te tst ttok tc, Fr h₀ L h (cm0 l.x q te (nc.map (Value.str · tc))) ∧ News h₀ L h ((l.x, instObj 732 l.dx) :: (l.dx, dictOf (lexEs P l (stV st tst) tok ttok) l.n) :: rest)
theorem hasD (P : Params) : hasDictIn (K P) 732 = true := by kernel_rfl
theorem seta (P : Params) : findIn (K P) (.ref 732) "__setattr__" = some (some (.builtin "object.__setattr__")) := by kernel_rfl
theorem plov (P : Params) : plainOver (K P) 732 = true := by kernel_rfl
theorem cm_self {x q te nc} : cm0 x q te nc (S "self") = some (.ref x) := by
  show (if S "self" = S "nextchar" then _ else if S "self" = S "escapedstate" then _ else if S "self" = S "quoted" then _ else if S "self" = S "self" then _ else _) = _
  rw [if_neg (by decide +kernel), if_neg (by decide +kernel), if_neg (by decide +kernel), if_pos rfl]
theorem cm_q {x q te nc} : cm0 x q te nc (S "quoted") = some (.bool q) := by
  show (if S "quoted" = S "nextchar" then _ else if S "quoted" = S "escapedstate" then _ else if S "quoted" = S "quoted" then _ else _) = _
  rw [if_neg (by decide +kernel), if_neg (by decide +kernel), if_pos rfl]
theorem cm_nc {x q te nc} : cm0 x q te nc (S "nextchar") = nc := if_pos rfl
section
variable {w : World} {A₀ : Around} {base h₀ : Heap} {outer : List Env} {mean : ExcName → Option Value} {mg mb : Str → Option Value} {L : Addr} {dp un : Nat} {gd : Option (List Code)} {rest : List (Addr × Obj)} {l : Lx} {st : Option Str} {tok : Str} {q : Bool} {nc : Option Str}
theorem ev_attr {n : Str} {p1 p2 : Pos} {f : Value → Tok → Value} {P : Value → Prop} (X : (K w.params).In h₀) (g : plainGet (K w.params) 732 n = true) (a : findIn (K w.params) (.ref 732) n = some none)
    (hl : ∀ stv ttok, getL n (lexEs w.params l stv tok ttok) = some (some (f stv ttok))) (hv : ∀ tst ttok, handedIn (f (stV st tst) ttok) = true) (hP : ∀ tst ttok, P (f (stV st tst) ttok)) :
    Ev w (A7 dp un gd L outer) (env7 L) (At w.params h₀ L rest l st tok q nc) (.Attribute (.Name (S "self") p1) n p2) P := fun Q E s hi h => by
  obtain ⟨te, tst, ttok, tc, F, N⟩ := hi
  exact Attribute_Name_ (ld F cm_self (get_own F X (InstAt.of_news N (.head _) (.tail _ (.head _))) g (hasD _) a rfl (hl _ _) (hv _ _) (h _ _ _ (hP _ _) ⟨te, tst, ttok, tc, F, N⟩)))
theorem ev_nc {p1 : Pos} {c : Str} : Ev w (A7 dp un gd L outer) (env7 L) (At w.params h₀ L rest l st tok q (some c)) (.Name (S "nextchar") p1) (isS c) := fun Q E s hi h => by
  obtain ⟨te, tst, ttok, tc, F, N⟩ := hi
  exact ld F cm_nc (h _ _ s.toks ⟨_, rfl⟩ ⟨te, tst, ttok, tc, F, N⟩)
theorem ev_q {p1 : Pos} : Ev w (A7 dp un gd L outer) (env7 L) (At w.params h₀ L rest l st tok q nc) (.Name (S "quoted") p1) (· = .bool q) := fun Q E s hi h => by
  obtain ⟨te, tst, ttok, tc, F, N⟩ := hi
  exact ld F cm_q (h _ _ s.toks rfl ⟨te, tst, ttok, tc, F, N⟩)
theorem ev_state {p1 p2 : Pos} (X : (K w.params).In h₀) : Ev w (A7 dp un gd L outer) (env7 L) (At w.params h₀ L rest l st tok q nc) (.Attribute (.Name (S "self") p1) (S "state") p2) (fun v => ∃ t, v = stV st t) :=
  ev_attr (f := fun stv _ => stv) X (by kernel_rfl) (by kernel_rfl) (fun _ _ => by kernel_rfl) (fun _ _ => by cases st <;> rfl) (fun _ _ => ⟨_, rfl⟩)
theorem ev_stateS {p1 p2 : Pos} {x : Str} (X : (K w.params).In h₀) : Ev w (A7 dp un gd L outer) (env7 L) (At w.params h₀ L rest l (some x) tok q nc) (.Attribute (.Name (S "self") p1) (S "state") p2) (isS x) := ev_state X
theorem ev_token {p1 p2 : Pos} (X : (K w.params).In h₀) : Ev w (A7 dp un gd L outer) (env7 L) (At w.params h₀ L rest l st tok q nc) (.Attribute (.Name (S "self") p1) (S "token") p2) (isS tok) :=
  ev_attr (f := fun _ t => .str tok t) X (by kernel_rfl) (by kernel_rfl) (fun _ _ => by kernel_rfl) (fun _ _ => rfl) (fun _ _ => ⟨_, rfl⟩)
theorem ev_white {p1 p2 : Pos} (X : (K w.params).In h₀) : Ev w (A7 dp un gd L outer) (env7 L) (At w.params h₀ L rest l st tok q nc) (.Attribute (.Name (S "self") p1) (S "whitespace") p2) (isS (S " \t\r\n")) :=
  ev_attr (f := fun _ _ => .str (S " \t\r\n") (l.vt 6)) X (by kernel_rfl) (by kernel_rfl) (fun _ _ => by kernel_rfl) (fun _ _ => rfl) (fun _ _ => ⟨_, rfl⟩)
theorem ev_com {p1 p2 : Pos} (X : (K w.params).In h₀) : Ev w (A7 dp un gd L outer) (env7 L) (At w.params h₀ L rest l st tok q nc) (.Attribute (.Name (S "self") p1) (S "commenters") p2) (isS l.com) :=
  ev_attr (f := fun _ _ => .str l.com (l.vt 4)) X (by kernel_rfl) (by kernel_rfl) (fun _ _ => by kernel_rfl) (fun _ _ => rfl) (fun _ _ => ⟨_, rfl⟩)
theorem ev_wc {p1 p2 : Pos} (X : (K w.params).In h₀) : Ev w (A7 dp un gd L outer) (env7 L) (At w.params h₀ L rest l st tok q nc) (.Attribute (.Name (S "self") p1) (S "wordchars") p2) (isS l.wc) :=
  ev_attr (f := fun _ _ => .str l.wc (l.vt 5)) X (by kernel_rfl) (by kernel_rfl) (fun _ _ => by kernel_rfl) (fun _ _ => rfl) (fun _ _ => ⟨_, rfl⟩)
theorem ev_quotes {p1 p2 : Pos} (X : (K w.params).In h₀) : Ev w (A7 dp un gd L outer) (env7 L) (At w.params h₀ L rest l st tok q nc) (.Attribute (.Name (S "self") p1) (S "quotes") p2) (isS (S "'\"")) :=
  ev_attr (f := fun _ _ => .str (S "'\"") (l.vt 8)) X (by kernel_rfl) (by kernel_rfl) (fun _ _ => by kernel_rfl) (fun _ _ => rfl) (fun _ _ => ⟨_, rfl⟩)
theorem ev_escape {p1 p2 : Pos} (X : (K w.params).In h₀) : Ev w (A7 dp un gd L outer) (env7 L) (At w.params h₀ L rest l st tok q nc) (.Attribute (.Name (S "self") p1) (S "escape") p2) (isS (S "\\")) :=
  ev_attr (f := fun _ _ => .str (S "\\") (l.vt 9)) X (by kernel_rfl) (by kernel_rfl) (fun _ _ => by kernel_rfl) (fun _ _ => rfl) (fun _ _ => ⟨_, rfl⟩)
theorem ev_posix {p1 p2 : Pos} (X : (K w.params).In h₀) : Ev w (A7 dp un gd L outer) (env7 L) (At w.params h₀ L rest l st tok q nc) (.Attribute (.Name (S "self") p1) (S "posix") p2) (· = .bool l.px) :=
  ev_attr (f := fun _ _ => .bool l.px) X (by kernel_rfl) (by kernel_rfl) (fun _ _ => by kernel_rfl) (fun _ _ => rfl) (fun _ _ => rfl)
theorem ev_wsp {p1 p2 : Pos} (X : (K w.params).In h₀) : Ev w (A7 dp un gd L outer) (env7 L) (At w.params h₀ L rest l st tok q nc) (.Attribute (.Name (S "self") p1) (S "whitespace_split") p2) (· = .bool l.wsp) :=
  ev_attr (f := fun _ _ => .bool l.wsp) X (by kernel_rfl) (by kernel_rfl) (fun _ _ => by kernel_rfl) (fun _ _ => rfl) (fun _ _ => rfl)
theorem ev_debug {p1 p2 : Pos} (X : (K w.params).In h₀) : Ev w (A7 dp un gd L outer) (env7 L) (At w.params h₀ L rest l st tok q nc) (.Attribute (.Name (S "self") p1) (S "debug") p2) (fun v => ∃ t, v = .int 0 t) :=
  ev_attr (f := fun _ _ => .int 0 (l.vt 14)) X (by kernel_rfl) (by kernel_rfl) (fun _ _ => by kernel_rfl) (fun _ _ => rfl) (fun _ _ => ⟨_, rfl⟩)
theorem ev_punct {p1 p2 : Pos} (G : Cx w A₀ base h₀ outer mean mg mb F700.sc dp un 10) : Ev w (A7 dp un gd L outer) (env7 L) (At w.params h₀ L rest l st tok q nc) (.Attribute (.Name (S "self") p1) (S "punctuation_chars") p2) (isS l.pc) := fun Q E s hi h => by
  obtain ⟨te, tst, ttok, tc, F, N⟩ := hi
  obtain ⟨B, X, T, hk, room, hun⟩ := G
  have hfi := fill_it
  revert hfi
  k_fill
  intro hfi
  clear hfi
  refine Attribute_Name_ (ld F cm_self ?_)
  k_steps
  refine get_own (attr := none) (v := .str l.pc (l.vt 18)) (by assumption) (by assumption) (by k_inst) (by kernel_rfl) (hasD _) (by kernel_rfl) rfl (by kernel_rfl) rfl ?_
  k_steps
  exact h _ _ _ ⟨_, rfl⟩ ⟨te, tst, ttok, tc, by assumption, by assumption⟩
/-- the two attributes that a turn writes -/
theorem ex_state {p1 p2 p3 : Pos} {e : PySem.Expr} {st' : Option Str} (X : (K w.params).In h₀) (K' : Lok l rest) (h1 : Ev w (A7 dp un gd L outer) (env7 L) (At w.params h₀ L rest l st tok q nc) e (fun v => ∃ t, v = stV st' t))
    (hs : swapsWith e (some (.Attribute (.Name (S "self") p1) (S "state") p2)) p3.line (env7 L) = pure false := by rfl) :
    Ex w (A7 dp un gd L outer) (env7 L) (At w.params h₀ L rest l st tok q nc) (.Assign [.Attribute (.Name (S "self") p1) (S "state") p2] e p3) .next (At w.params h₀ L rest l st' tok q nc) := fun Q E s hi h => by
  refine plainObj_wpAny_Assign_Attribute (h1 _ _ _ hi fun v h2 t2 hv i2 => ?_) hs
  obtain ⟨te, tst, ttok, tc, F, N⟩ := i2
  obtain ⟨t, rfl⟩ := hv
  refine ld F cm_self (set_dict (dx := l.dx) (es' := lexEs w.params l (stV st' t) tok ttok) (n' := l.n) F X N (InstAt.of_news N (.head _) (.tail _ (.head _))) rfl (seta _) (plov _) (by kernel_rfl) (hasD _) (by kernel_rfl) (by kernel_rfl)
    (.tail K'.ne (.head K'.r)) (by have := K'.t; simp only [List.length_cons]; omega) fun h' F' N' => h _ _ ⟨te, _, ttok, tc, F', N'⟩)
theorem ex_token {p1 p2 p3 : Pos} {e : PySem.Expr} {tok' : Str} (X : (K w.params).In h₀) (K' : Lok l rest) (h1 : Ev w (A7 dp un gd L outer) (env7 L) (At w.params h₀ L rest l st tok q nc) e (isS tok'))
    (hs : swapsWith e (some (.Attribute (.Name (S "self") p1) (S "token") p2)) p3.line (env7 L) = pure false := by rfl) :
    Ex w (A7 dp un gd L outer) (env7 L) (At w.params h₀ L rest l st tok q nc) (.Assign [.Attribute (.Name (S "self") p1) (S "token") p2] e p3) .next (At w.params h₀ L rest l st tok' q nc) := fun Q E s hi h => by
  refine plainObj_wpAny_Assign_Attribute (h1 _ _ _ hi fun v h2 t2 hv i2 => ?_) hs
  obtain ⟨te, tst, ttok, tc, F, N⟩ := i2
  obtain ⟨t, rfl⟩ := hv
  refine ld F cm_self (set_dict (dx := l.dx) (es' := lexEs w.params l (stV st tst) tok' t) (n' := l.n) F X N (InstAt.of_news N (.head _) (.tail _ (.head _))) rfl (seta _) (plov _) (by kernel_rfl) (hasD _) (by kernel_rfl) (by kernel_rfl)
    (.tail K'.ne (.head K'.r)) (by have := K'.t; simp only [List.length_cons]; omega) fun h' F' N' => h _ _ ⟨te, tst, _, tc, F', N'⟩)
theorem ex_tokadd {p1 p2 p3 p4 : Pos} {c : Str} (X : (K w.params).In h₀) (K' : Lok l rest) (hz : tok.length + c.length ≤ 100000) :
    Ex w (A7 dp un gd L outer) (env7 L) (At w.params h₀ L rest l st tok q (some c)) (.AugAssign (.Attribute (.Name (S "self") p1) (S "token") p2) .Add (.Name (S "nextchar") p4) p3) .next (At w.params h₀ L rest l st (tok ++ c) q (some c)) := fun Q E s hi h => by
  obtain ⟨te, tst, ttok, tc, F, N⟩ := hi
  refine wpAny_AugAssign_AttributeAny (ld F cm_self (get_own (name := S "token") (attr := none) F X (InstAt.of_news N (.head _) (.tail _ (.head _))) (by kernel_rfl) (hasD _) (by kernel_rfl) rfl (v := .str tok ttok) (by kernel_rfl) rfl (ld F cm_nc (iadd_str (fun t' tk => ?_) ?_))))
  · refine set_dict (dx := l.dx) (es' := lexEs w.params l (stV st tst) (tok ++ c) t') (n' := l.n) F X N (InstAt.of_news N (.head _) (.tail _ (.head _))) rfl (seta _) (plov _) (by kernel_rfl) (hasD _) (by kernel_rfl) (by kernel_rfl)
      (.tail K'.ne (.head K'.r)) (by have := K'.t; simp only [List.length_cons]; omega) fun h' F' N' => h _ _ ⟨te, tst, _, tc, F', N'⟩
  · exact Nat.le_trans hz (by decide)
theorem ex_quoted {p1 p3 p4 : Pos} {k : Nat} : Ex w (A7 dp un gd L outer) (env7 L) (At w.params h₀ L rest l st tok q nc) (.Assign [.Name (S "quoted") p1] (.Constant (.bool true) k p3) p4) .next (At w.params h₀ L rest l st tok true nc) := fun Q E s hi h => by
  obtain ⟨te, tst, ttok, tc, F, N⟩ := hi
  refine wpAny_Assign_Name (Constant_bool (stN F N fun h' F' N' => h _ _ ⟨te, tst, ttok, tc, ?_, N'⟩))
  · have e : (fun y => if y = S "quoted" then some (Value.bool true) else cm0 l.x q te (nc.map (Value.str · tc)) y) = cm0 l.x true te (nc.map (Value.str · tc)) := by
      funext y
      by_cases h1 : y = S "quoted"
      · subst h1
        rw [if_pos rfl, cm_q]
      · rw [if_neg h1]
        show (if y = S "nextchar" then _ else if y = S "escapedstate" then _ else if y = S "quoted" then _ else _) = if y = S "nextchar" then _ else if y = S "escapedstate" then _ else if y = S "quoted" then _ else _
        rw [if_neg h1, if_neg h1]
    rw [e] at F'
    exact F'
end
set_option maxRecDepth 100000
set_option maxHeartbeats 4000000
inductive St where
  | nn | sp | qt | aa | cc
noncomputable def St.s : St → Option Str
  | .nn => none
  | .sp => some (S " ")
  | .qt => some (S "'")
  | .aa => some (S "a")
  | .cc => some (S "c")
noncomputable def chS (c : Nat) : Str := ⟨#[c]⟩
/-- what one turn does with one character: whether it breaks, and the new state; nothing where the walk does not go -/
noncomputable def stepc (l : Lx) (s : St) (tok : Str) (q : Bool) (c : Nat) : Option (Bool × St × Str × Bool) :=
  match s with
  | .nn => some (true, .nn, S "", q)
  | .sp =>
    if inC (S " \t\r\n") (chS c) then some (nonE tok || (l.px && q), .sp, tok, q)
    else if inC l.com (chS c) then none
    else if inC (S "\\") (chS c) then none
    else if inC l.wc (chS c) then some (false, .aa, chS c, q)
    else if inC l.pc (chS c) then some (false, .cc, chS c, q)
    else if inC (S "'\"") (chS c) then (if eqC (chS c) (S "'") then some (false, .qt, if l.px then tok else chS c, q) else none)
    else if l.wsp then some (false, .aa, chS c, q) else some (true, .sp, chS c, q)
  | .qt =>
    if inC (S "\\") (chS c) then none
    else if eqC (chS c) (S "'") then (if l.px then some (false, .aa, tok, true) else some (true, .sp, tok ++ chS c, true))
    else some (false, .qt, tok ++ chS c, true)
  | .aa =>
    if inC (S " \t\r\n") (chS c) then some (nonE tok || (l.px && q), .sp, tok, q)
    else if inC l.com (chS c) then none
    else if inC (S "\\") (chS c) then none
    else if inC (S "'\"") (chS c) then none
    else if inC l.wc (chS c) || (l.wsp && !inC l.pc (chS c)) then some (false, .aa, tok ++ chS c, q) else none
  | .cc =>
    if inC (S " \t\r\n") (chS c) then some (nonE tok || (l.px && q), .sp, tok, q)
    else if inC l.com (chS c) then none
    else if inC l.pc (chS c) then some (false, .cc, tok ++ chS c, q) else none
noncomputable def goes (b : Bool) (fl : Flow) : Prop := if b then fl = .brk else fl = .next ∨ fl = .cont
theorem chS_nonE (c : Nat) : nonE (chS c) = true := rfl
theorem chS_len (c : Nat) : ((chS c).length : Int) < 9223372036854775808 := by show ((1 : Nat) : Int) < _; decide
section
variable {w : World} {A₀ : Around} {base h₀ : Heap} {outer : List Env} {mean : ExcName → Option Value} {mg mb : Str → Option Value} {L : Addr} {dp un : Nat} {gd : Option (List Code)} {rest : List (Addr × Obj)} {l : Lx} {st : Option Str} {tok : Str} {q : Bool} {nc : Option Str}
theorem ts_none {p1 p2 p3 p4 k} (X : (K w.params).In h₀) : Ts w (A7 dp un gd L outer) (env7 L) (At w.params h₀ L rest l none tok q nc) (.Compare (.Attribute (.Name (S "self") p1) (S "state") p2) [.Is] [.Constant .none k p3] p4) true :=
  ts_isnone (v₀ := .none) (ev_state X) fun v hv => by obtain ⟨t, rfl⟩ := hv; simp [stV]
theorem ts_some {p1 p2 p3 p4 k} {x : Str} (X : (K w.params).In h₀) : Ts w (A7 dp un gd L outer) (env7 L) (At w.params h₀ L rest l (some x) tok q nc) (.Compare (.Attribute (.Name (S "self") p1) (S "state") p2) [.Is] [.Constant .none k p3] p4) false :=
  ts_isnone (v₀ := .none) (ev_stateS X) fun v hv => by obtain ⟨t, rfl⟩ := hv; simp
theorem ts_intup {e : PySem.Expr} {x y1 y2 : Str} {k1 k2 k3 p1 p2 p3 p4} (he : Ev w (A7 dp un gd L outer) (env7 L) (At w.params h₀ L rest l st tok q nc) e (isS x)) :
    Ts w (A7 dp un gd L outer) (env7 L) (At w.params h₀ L rest l st tok q nc) (.Compare e [.In] [.Tuple [.Constant (.str y1) k1 p1, .Constant (.str y2) k2 p2] k3 p3] p4) ([y1, y2].any (· == x)) := fun Q E s hi h =>
  wpAny_isTrue_Compare1 (he _ _ _ hi fun v h1 t1 hv i1 => Tuple_ (spliced_more (Calls.Constant_str (spliced_more (Calls.Constant_str (spliced_none (by
    obtain ⟨_, rfl⟩ := hv
    obtain ⟨te, tst, ttok, tc, F, N⟩ := i1
    refine newTuple_N F N (fun h' F' N' => in_tuple_strs (N'.isTup (.head _)) (.cons _ _ (.cons _ _ .nil)) (wpAny_truthy_bool (h _ _ ⟨te, tst, ttok, tc, F', fun p hp => N' p (.tail _ hp)⟩)))))))))) 
theorem ts_tokq {p1 p2 p3 p4 p5 p6 p7 : Pos} (X : (K w.params).In h₀) (hk : (tok.length : Int) < 9223372036854775808) :
    Ts w (A7 dp un gd L outer) (env7 L) (At w.params h₀ L rest l st tok q nc) (.BoolOp .Or [.Attribute (.Name (S "self") p1) (S "token") p2, .BoolOp .And [.Attribute (.Name (S "self") p3) (S "posix") p4, .Name (S "quoted") p5] p6] p7) (nonE tok || (l.px && q)) := by
  refine ts_bool ?_
  cases ht : nonE tok with
  | true => exact tl_or_t (ts_str (ev_token X) ht hk)
  | false =>
    refine tl_or_f (ts_str (ev_token X) ht hk) ?_
    rw [Bool.false_or]
    have hq : Ts w (A7 dp un gd L outer) (env7 L) (At w.params h₀ L rest l st tok q nc) (.BoolOp .And [.Attribute (.Name (S "self") p3) (S "posix") p4, .Name (S "quoted") p5] p6) (l.px && q) := by
      refine ts_bool ?_
      cases hp : l.px with
      | false => exact tl_and_f (ts_flag (b := false) (by rw [← hp]; exact ev_posix X))
      | true =>
        refine tl_and_t (ts_flag (b := true) (by rw [← hp]; exact ev_posix X)) ?_
        cases hq : q with
        | false => exact tl_and_f (ts_flag ev_q)
        | true => exact tl_and_t (ts_flag ev_q) tl_and_nil
    cases hb : (l.px && q) with
    | true => rw [hb] at hq; exact tl_or_t hq
    | false => rw [hb] at hq; exact tl_or_f hq tl_or_nil
theorem ts_dbg2 {p1 p2 p3 p4 k} (X : (K w.params).In h₀) : Ts w (A7 dp un gd L outer) (env7 L) (At w.params h₀ L rest l st tok q nc) (.Compare (.Attribute (.Name (S "self") p1) (S "debug") p2) [.GtE] [.Constant (.int 2) k p3] p4) false := by
  refine ts_ge (a := 0) (b := 2) (ev_debug X) ?_
  exact fun Q E s hi h => wpAny_Constant_int (h _ s.heap _ ⟨_, rfl⟩ hi)
theorem ts_nnc {p1 p2 : Pos} {c : Nat} : Ts w (A7 dp un gd L outer) (env7 L) (At w.params h₀ L rest l st tok q (some (chS c))) (.UnaryOp .Not (.Name (S "nextchar") p1) p2) false := ts_not (b := true) (ts_str ev_nc (chS_nonE c) (chS_len c))
theorem ts_nnc0 {p1 p2 : Pos} : Ts w (A7 dp un gd L outer) (env7 L) (At w.params h₀ L rest l st tok q (some (S ""))) (.UnaryOp .Not (.Name (S "nextchar") p1) p2) true := ts_not (b := false) (ts_str ev_nc (by kernel_rfl) (by decide +kernel))
theorem ex_if {A : Around} {env : Env} {I J : Heap → Prop} {t b o p fl bb} (h1 : Ts w A env I t bb) (h2 : Exs w A env I (bif bb then b else o) fl J) : Ex w A env I (.If t b o p) fl J := by
  cases bb with
  | true => exact ex_ifT h1 h2
  | false => exact ex_ifF h1 h2
theorem tl_and {A : Around} {env : Env} {I : Heap → Prop} {x r bx b} (h1 : Ts w A env I x bx) (h2 : bx = true → Tl w A env I .And r b) (h3 : bx = false → b = false) : Tl w A env I .And (x :: r) b := by
  cases bx with
  | true => exact tl_and_t h1 (h2 rfl)
  | false => rw [h3 rfl]; exact tl_and_f h1
end
local macro_rules | `(tactic| walk_at "ev7") => `(tactic| with_reducible first | exact ev_nc | exact ev_q | exact ev_stateS (by assumption) | exact ev_token (by assumption) | exact ev_white (by assumption) | exact ev_com (by assumption) | exact ev_wc (by assumption) | exact ev_quotes (by assumption) | exact ev_escape (by assumption) | exact ev_posix (by assumption) | exact ev_wsp (by assumption) | exact ev_punct (by assumption) | exact ev_str)
local macro_rules | `(tactic| walk_at "ts7") => `(tactic| first
  | with_reducible exact ts_none (by assumption)
  | with_reducible exact ts_some (by assumption)
  | with_reducible exact ts_dbg2 (by assumption)
  | with_reducible exact ts_tokq (by assumption) (by assumption)
  | (with_reducible refine' ts_in ?h1 ?h2 ?h3 ?h4; (case h4 => with_unfolding_all rfl); (case h1 => walk_at "ev7"); (case h2 => walk_at "ev7"); (case h3 => with_reducible assumption))
  | (with_reducible refine' ts_eq ?h1 ?h2 ?h3 ?h4; (case h4 => with_unfolding_all rfl); (case h1 => walk_at "ev7"); (case h2 => walk_at "ev7"); (case h3 => with_reducible assumption)))
local macro_rules | `(tactic| walk_at "f7") => `(tactic| (with_reducible refine ex_ifF ?_ ?_; (first | with_reducible exact ts_nnc | walk_at "ts7")))
local macro_rules | `(tactic| walk_at "t7") => `(tactic| (with_reducible refine ex_ifT ?_ ?_; walk_at "ts7"))
local macro_rules | `(tactic| walk_at "o7") => `(tactic| with_reducible refine exs_one ?_)
section
variable {w : World} {A₀ : Around} {base h₀ : Heap} {outer : List Env} {mean : ExcName → Option Value} {mg mb : Str → Option Value} {L : Addr} {dp un : Nat} {gd : Option (List Code)} {rest : List (Addr × Obj)} {l : Lx} {tok : Str} {q : Bool}
theorem ts_pxF {p1 p2 p3 : Pos} {st nc} {r : List PySem.Expr} (X : (K w.params).In h₀) (hp : l.px = false) : Ts w (A7 dp un gd L outer) (env7 L) (At w.params h₀ L rest l st tok q nc) (.BoolOp .And (.Attribute (.Name (S "self") p1) (S "posix") p2 :: r) p3) false :=
  ts_bool (tl_and_f (ts_flag (by rw [← hp]; exact ev_posix X)))
theorem ts_pxT {p1 p2 p3 : Pos} {st nc} {e : PySem.Expr} {b : Bool} (X : (K w.params).In h₀) (hp : l.px = true) (h : Ts w (A7 dp un gd L outer) (env7 L) (At w.params h₀ L rest l st tok q nc) e b) : Ts w (A7 dp un gd L outer) (env7 L) (At w.params h₀ L rest l st tok q nc) (.BoolOp .And [.Attribute (.Name (S "self") p1) (S "posix") p2, e] p3) b := by
  refine ts_bool (tl_and_t (ts_flag (by rw [← hp]; exact ev_posix X)) ?_)
  cases b with
  | true => exact tl_and_t h tl_and_nil
  | false => exact tl_and_f h
/-- a test behind `self.posix and` that fails either way -/
theorem ts_pxN {p1 p2 p3 : Pos} {st nc} {e : PySem.Expr} (X : (K w.params).In h₀) (h : Ts w (A7 dp un gd L outer) (env7 L) (At w.params h₀ L rest l st tok q nc) e false) : Ts w (A7 dp un gd L outer) (env7 L) (At w.params h₀ L rest l st tok q nc) (.BoolOp .And [.Attribute (.Name (S "self") p1) (S "posix") p2, e] p3) false := by
  cases hp : l.px with
  | true => exact ts_pxT X hp h
  | false => exact ts_pxF X hp
theorem ts_npx {p1 p2 p3 : Pos} {st nc} {b : Bool} (X : (K w.params).In h₀) (hp : l.px = b) : Ts w (A7 dp un gd L outer) (env7 L) (At w.params h₀ L rest l st tok q nc) (.UnaryOp .Not (.Attribute (.Name (S "self") p1) (S "posix") p2) p3) (!b) := ts_not (ts_flag (by rw [← hp]; exact ev_posix X))
structure SpLit (s : Stmt) where
  d : Stmt
  ok : ∃ t1 b1 p1 t2 t3 b3 p3 t4 b4 p4 t5 b5 p5 t6 b6 p6 o2 p2, s = .If t1 b1 [.If t2 [.If t3 b3 [.If t4 b4 [.If t5 b5 [.If t6 b6 [d] p6] p5] p4] p3] o2 p2] p1
@[reducible] noncomputable def SPl : SpLit B7.d := ⟨_, _, _, _, _, _, _, _, _, _, _, _, _, _, _, _, _, _, _, rfl⟩
@[reducible] noncomputable def SP7 : Stmt := SPl.d
theorem turn_nn {c : Str} (G : Cx w A₀ base h₀ outer mean mg mb F700.sc dp un 10) (K' : Lok l rest) : Ex w (A7 dp un gd L outer) (env7 L) (At w.params h₀ L rest l none tok q (some c)) B7.d .brk (At w.params h₀ L rest l none (S "") q (some c)) := by
  have X := G.X
  dsimp only [B7, W7, F700]
  walk_at "t7"
  exact exs_cons (ex_token X K' ev_str) (exs_one ex_break)
theorem turn_sp {c : Nat} {b s' tok' q'} (G : Cx w A₀ base h₀ outer mean mg mb F700.sc dp un 10) (K' : Lok l rest) (hk : (tok.length : Int) < 9223372036854775808) (hr : stepc l .sp tok q c = some (b, s', tok', q')) :
    ∃ fl, goes b fl ∧ Ex w (A7 dp un gd L outer) (env7 L) (At w.params h₀ L rest l (some (S " ")) tok q (some (chS c))) B7.d fl (At w.params h₀ L rest l s'.s tok' q' (some (chS c))) := by
  have X := G.X
  have z1 : eqC (S " ") (S " ") = true := by kernel_rfl
  dsimp only [B7, W7, F700]
  unfold stepc at hr
  dsimp only at hr
  cases h1 : inC (S " \t\r\n") (chS c) with
  | true =>
    rw [h1, if_pos rfl] at hr
    cases hr
    have h2 : ∃ fl, goes (nonE tok || (l.px && q)) fl ∧ ∀ {p1 p2}, Exs w (A7 dp un gd L outer) (env7 L) (At w.params h₀ L rest l (some (S " ")) tok q (some (chS c))) (bif (nonE tok || (l.px && q)) then [.Break p1] else [.Continue p2]) fl (At w.params h₀ L rest l (some (S " ")) tok q (some (chS c))) := by
      cases (nonE tok || (l.px && q)) with
      | true => exact ⟨.brk, rfl, exs_one ex_break⟩
      | false => exact ⟨.cont, .inr rfl, exs_one ex_continue⟩
    obtain ⟨fl, hg, he⟩ := h2
    refine ⟨fl, hg, ?_⟩
    walk_at "f7"; walk_at "o7"; walk_at "t7"; walk_at "o7"; walk_at "f7"; walk_at "o7"; walk_at "t7"
    refine exs_cons (J := At w.params h₀ L rest l (some (S " ")) tok q (some (chS c))) ?_ ?_
    · walk_at "f7"
      exact exs_nil
    · walk_at "o7"
      exact ex_if (ts_tokq X hk) he
  | false =>
    rw [h1, if_neg (by simp)] at hr
    cases h2 : inC l.com (chS c) with
    | true => rw [h2, if_pos rfl] at hr; cases hr
    | false =>
      rw [h2, if_neg (by simp)] at hr
      cases h3 : inC (S "\\") (chS c) with
      | true => rw [h3, if_pos rfl] at hr; cases hr
      | false =>
        rw [h3, if_neg (by simp)] at hr
        suffices hs : ∃ fl, goes b fl ∧ Ex w (A7 dp un gd L outer) (env7 L) (At w.params h₀ L rest l (some (S " ")) tok q (some (chS c))) SP7 fl (At w.params h₀ L rest l s'.s tok' q' (some (chS c))) by
          obtain ⟨fl, hg, he⟩ := hs
          refine ⟨fl, hg, ?_⟩
          walk_at "f7"; walk_at "o7"; walk_at "t7"; walk_at "o7"; walk_at "f7"; walk_at "o7"; walk_at "f7"; walk_at "o7"; walk_at "f7"; walk_at "o7"
          refine ex_ifF (ts_pxN X (ts_in ev_nc (ev_escape X) h3)) ?_
          walk_at "o7"
          exact he
        dsimp only [SP7, SPl]
        cases h4 : inC l.wc (chS c) with
        | true =>
          rw [h4, if_pos rfl] at hr
          cases hr
          refine ⟨.next, .inl rfl, ?_⟩
          walk_at "t7"
          exact exs_cons (ex_token X K' ev_nc) (exs_one (ex_state X K' ev_str))
        | false =>
          rw [h4, if_neg (by simp)] at hr
          cases h5 : inC l.pc (chS c) with
          | true =>
            rw [h5, if_pos rfl] at hr
            cases hr
            refine ⟨.next, .inl rfl, ?_⟩
            walk_at "f7"; walk_at "o7"; walk_at "t7"
            exact exs_cons (ex_token X K' ev_nc) (exs_one (ex_state X K' ev_str))
          | false =>
            rw [h5, if_neg (by simp)] at hr
            cases h6 : inC (S "'\"") (chS c) with
            | true =>
              rw [h6, if_pos rfl] at hr
              cases h7 : eqC (chS c) (S "'") with
              | false => rw [h7, if_neg (by simp)] at hr; cases hr
              | true =>
                rw [h7, if_pos rfl] at hr
                cases hr
                refine ⟨.next, .inl rfl, ?_⟩
                have e7 : chS c = S "'" := eq_of_beq h7
                walk_at "f7"; walk_at "o7"; walk_at "f7"; walk_at "o7"; walk_at "t7"
                cases hp : l.px with
                | true =>
                  refine exs_cons (J := At w.params h₀ L rest l (some (S " ")) tok q (some (chS c))) (ex_ifF (ts_npx (b := true) X hp) exs_nil) (exs_one ?_)
                  rw [if_pos rfl]
                  exact ex_state (st' := St.qt.s) X K' (by rw [e7]; exact ev_nc)
                | false =>
                  refine exs_cons (J := At w.params h₀ L rest l (some (S " ")) (chS c) q (some (chS c))) (ex_ifT (ts_npx (b := false) X hp) (exs_one (ex_token X K' ev_nc))) (exs_one ?_)
                  rw [if_neg (by simp)]
                  exact ex_state (st' := St.qt.s) X K' (by rw [e7]; exact ev_nc)
            | false =>
              rw [h6, if_neg (by simp)] at hr
              cases h8 : l.wsp with
              | true =>
                rw [h8, if_pos rfl] at hr
                cases hr
                refine ⟨.next, .inl rfl, ?_⟩
                walk_at "f7"; walk_at "o7"; walk_at "f7"; walk_at "o7"; walk_at "f7"; walk_at "o7"
                refine ex_ifT (ts_flag (by rw [← h8]; exact ev_wsp X)) ?_
                exact exs_cons (ex_token X K' ev_nc) (exs_one (ex_state X K' ev_str))
              | false =>
                rw [h8, if_neg (by simp)] at hr
                cases hr
                refine ⟨.brk, rfl, ?_⟩
                walk_at "f7"; walk_at "o7"; walk_at "f7"; walk_at "o7"; walk_at "f7"; walk_at "o7"
                refine ex_ifF (ts_flag (by rw [← h8]; exact ev_wsp X)) ?_
                refine exs_cons (ex_token X K' ev_nc) (exs_one (ex_ifT ?_ (exs_one ex_break)))
                exact ts_tokq (tok := chS c) X (chS_len c)
theorem turn_qt {c : Nat} {b s' tok' q'} (G : Cx w A₀ base h₀ outer mean mg mb F700.sc dp un 10) (K' : Lok l rest) (hz : tok.length + (chS c).length ≤ 100000) (hr : stepc l .qt tok q c = some (b, s', tok', q')) :
    ∃ fl, goes b fl ∧ Ex w (A7 dp un gd L outer) (env7 L) (At w.params h₀ L rest l (some (S "'")) tok q (some (chS c))) B7.d fl (At w.params h₀ L rest l s'.s tok' q' (some (chS c))) := by
  have X := G.X
  have z1 : eqC (S "'") (S " ") = false := by kernel_rfl
  have z2 : inC (S "'\"") (S "'") = true := by kernel_rfl
  dsimp only [B7, W7, F700]
  unfold stepc at hr
  dsimp only at hr
  cases h3 : inC (S "\\") (chS c) with
  | true => rw [h3, if_pos rfl] at hr; cases hr
  | false =>
    rw [h3, if_neg (by simp)] at hr
    cases h7 : eqC (chS c) (S "'") with
    | true =>
      rw [h7, if_pos rfl] at hr
      cases hp : l.px with
      | true =>
        rw [hp, if_pos rfl] at hr
        cases hr
        refine ⟨.next, .inl rfl, ?_⟩
        walk_at "f7"; walk_at "o7"; walk_at "f7"; walk_at "o7"; walk_at "t7"
        refine exs_cons ex_quoted (exs_cons (J := At w.params h₀ L rest l (some (S "'")) tok true (some (chS c))) (by walk_at "f7"; exact exs_nil) (exs_one ?_))
        walk_at "t7"; walk_at "o7"
        refine ex_ifF (ts_npx (b := true) X hp) (exs_one ?_)
        exact ex_state (st' := St.aa.s) X K' ev_str
      | false =>
        rw [hp, if_neg (by simp)] at hr
        cases hr
        refine ⟨.brk, rfl, ?_⟩
        walk_at "f7"; walk_at "o7"; walk_at "f7"; walk_at "o7"; walk_at "t7"
        refine exs_cons ex_quoted (exs_cons (J := At w.params h₀ L rest l (some (S "'")) tok true (some (chS c))) (by walk_at "f7"; exact exs_nil) (exs_one ?_))
        walk_at "t7"; walk_at "o7"
        refine ex_ifT (ts_npx (b := false) X hp) (exs_cons (ex_tokadd X K' hz) (exs_cons (ex_state (st' := St.sp.s) X K' ev_str) (exs_one ex_break)))
    | false =>
      rw [h7, if_neg (by simp)] at hr
      cases hr
      refine ⟨.next, .inl rfl, ?_⟩
      walk_at "f7"; walk_at "o7"; walk_at "f7"; walk_at "o7"; walk_at "t7"
      refine exs_cons ex_quoted (exs_cons (J := At w.params h₀ L rest l (some (S "'")) tok true (some (chS c))) (by walk_at "f7"; exact exs_nil) (exs_one ?_))
      walk_at "f7"; walk_at "o7"
      refine ex_ifF ?_ (exs_one (ex_tokadd X K' hz))
      refine ts_bool ?_
      cases hp : l.px with
      | false => exact tl_and_f (ts_flag (by rw [← hp]; exact ev_posix X))
      | true => exact tl_and_t (ts_flag (by rw [← hp]; exact ev_posix X)) (tl_and_f (ts_in ev_nc (ev_escape X) h3))
theorem turn_end {s : St} (G : Cx w A₀ base h₀ outer mean mg mb F700.sc dp un 10) (K' : Lok l rest) (hs : s = .sp ∨ s = .aa ∨ s = .cc) :
    Ex w (A7 dp un gd L outer) (env7 L) (At w.params h₀ L rest l s.s tok q (some (S ""))) B7.d .brk (At w.params h₀ L rest l none tok q (some (S ""))) := by
  have X := G.X
  dsimp only [B7, W7, F700]
  rcases hs with rfl | rfl | rfl <;> dsimp only [St.s]
  · have z1 : eqC (S " ") (S " ") = true := by kernel_rfl
    walk_at "f7"; walk_at "o7"; walk_at "t7"; walk_at "o7"
    exact ex_ifT ts_nnc0 (exs_cons (ex_state (st' := none) X K' (fun Q E s hi h => ev_none Q E s hi fun v h' tk hv i => h v h' tk ⟨0, hv⟩ i)) (exs_one ex_break))
  · have z1 : eqC (S "a") (S " ") = false := by kernel_rfl
    have z2 : inC (S "'\"") (S "a") = false := by kernel_rfl
    have z3 : inC (S "\\") (S "a") = false := by kernel_rfl
    walk_at "f7"; walk_at "o7"; walk_at "f7"; walk_at "o7"; walk_at "f7"; walk_at "o7"; walk_at "f7"; walk_at "o7"
    refine ex_ifT (ts_intup (ev_stateS X)) (exs_one ?_)
    exact ex_ifT ts_nnc0 (exs_cons (ex_state (st' := none) X K' (fun Q E s hi h => ev_none Q E s hi fun v h' tk hv i => h v h' tk ⟨0, hv⟩ i)) (exs_one ex_break))
  · have z1 : eqC (S "c") (S " ") = false := by kernel_rfl
    have z2 : inC (S "'\"") (S "c") = false := by kernel_rfl
    have z3 : inC (S "\\") (S "c") = false := by kernel_rfl
    walk_at "f7"; walk_at "o7"; walk_at "f7"; walk_at "o7"; walk_at "f7"; walk_at "o7"; walk_at "f7"; walk_at "o7"
    refine ex_ifT (ts_intup (ev_stateS X)) (exs_one ?_)
    exact ex_ifT ts_nnc0 (exs_cons (ex_state (st' := none) X K' (fun Q E s hi h => ev_none Q E s hi fun v h' tk hv i => h v h' tk ⟨0, hv⟩ i)) (exs_one ex_break))
theorem turn_aa {c : Nat} {b s' tok' q'} (G : Cx w A₀ base h₀ outer mean mg mb F700.sc dp un 10) (K' : Lok l rest) (hk : (tok.length : Int) < 9223372036854775808) (hz : tok.length + (chS c).length ≤ 100000) (hr : stepc l .aa tok q c = some (b, s', tok', q')) :
    ∃ fl, goes b fl ∧ Ex w (A7 dp un gd L outer) (env7 L) (At w.params h₀ L rest l (some (S "a")) tok q (some (chS c))) B7.d fl (At w.params h₀ L rest l s'.s tok' q' (some (chS c))) := by
  have X := G.X
  have z1 : eqC (S "a") (S " ") = false := by kernel_rfl
  have z2 : inC (S "'\"") (S "a") = false := by kernel_rfl
  have z3 : inC (S "\\") (S "a") = false := by kernel_rfl
  have z4 : eqC (S "a") (S "c") = false := by kernel_rfl
  dsimp only [B7, W7, F700]
  unfold stepc at hr
  dsimp only at hr
  cases h1 : inC (S " \t\r\n") (chS c) with
  | true =>
    rw [h1, if_pos rfl] at hr
    cases hr
    have h2 : ∃ fl, goes (nonE tok || (l.px && q)) fl ∧ ∀ {p1 p2}, Exs w (A7 dp un gd L outer) (env7 L) (At w.params h₀ L rest l (some (S " ")) tok q (some (chS c))) (bif (nonE tok || (l.px && q)) then [.Break p1] else [.Continue p2]) fl (At w.params h₀ L rest l (some (S " ")) tok q (some (chS c))) := by
      cases (nonE tok || (l.px && q)) with
      | true => exact ⟨.brk, rfl, exs_one ex_break⟩
      | false => exact ⟨.cont, .inr rfl, exs_one ex_continue⟩
    obtain ⟨fl, hg, he⟩ := h2
    refine ⟨fl, hg, ?_⟩
    walk_at "f7"; walk_at "o7"; walk_at "f7"; walk_at "o7"; walk_at "f7"; walk_at "o7"; walk_at "f7"; walk_at "o7"
    refine ex_ifT (ts_intup (ev_stateS X)) (exs_one ?_)
    walk_at "f7"; walk_at "o7"; walk_at "t7"
    refine exs_cons (J := At w.params h₀ L rest l (some (S "a")) tok q (some (chS c))) ?_ (exs_cons (ex_state (st' := St.sp.s) X K' ev_str) (exs_one (ex_if (ts_tokq X hk) he)))
    walk_at "f7"
    exact exs_nil
  | false =>
    rw [h1, if_neg (by simp)] at hr
    cases h2 : inC l.com (chS c) with
    | true => rw [h2, if_pos rfl] at hr; cases hr
    | false =>
      rw [h2, if_neg (by simp)] at hr
      cases h3 : inC (S "\\") (chS c) with
      | true => rw [h3, if_pos rfl] at hr; cases hr
      | false =>
        rw [h3, if_neg (by simp)] at hr
        cases h4 : inC (S "'\"") (chS c) with
        | true => rw [h4, if_pos rfl] at hr; cases hr
        | false =>
          rw [h4, if_neg (by simp)] at hr
          cases h5 : (inC l.wc (chS c) || (l.wsp && !inC l.pc (chS c))) with
          | false => rw [h5, if_neg (by simp)] at hr; cases hr
          | true =>
            rw [h5, if_pos rfl] at hr
            cases hr
            refine ⟨.next, .inl rfl, ?_⟩
            walk_at "f7"; walk_at "o7"; walk_at "f7"; walk_at "o7"; walk_at "f7"; walk_at "o7"; walk_at "f7"; walk_at "o7"
            refine ex_ifT (ts_intup (ev_stateS X)) (exs_one ?_)
            walk_at "f7"; walk_at "o7"; walk_at "f7"; walk_at "o7"; walk_at "f7"; walk_at "o7"; walk_at "f7"; walk_at "o7"
            refine ex_ifF (ts_pxN X (ts_in ev_nc (ev_quotes X) h4)) (exs_one ?_)
            refine ex_ifF (ts_pxN X (ts_in ev_nc (ev_escape X) h3)) (exs_one ?_)
            refine ex_ifT (ts_bool ?_) (exs_one (ex_tokadd X K' hz))
            cases h6 : inC l.wc (chS c) with
            | true => exact tl_or_t (ts_in ev_nc (ev_wc X) h6)
            | false =>
              rw [h6, Bool.false_or, Bool.and_eq_true] at h5
              obtain ⟨h8, h9⟩ := h5
              have h9' : inC l.pc (chS c) = false := by cases h : inC l.pc (chS c) <;> simp_all
              exact tl_or_f (ts_in ev_nc (ev_wc X) h6) (tl_or_f (ts_in ev_nc (ev_quotes X) h4) (tl_or_t (ts_bool (tl_and_t (ts_flag (by rw [← h8]; exact ev_wsp X)) (tl_and_t (ts_notin (b := false) ev_nc (ev_punct G) h9') tl_and_nil)))))
theorem turn_cc {c : Nat} {b s' tok' q'} (G : Cx w A₀ base h₀ outer mean mg mb F700.sc dp un 10) (K' : Lok l rest) (hk : (tok.length : Int) < 9223372036854775808) (hz : tok.length + (chS c).length ≤ 100000) (hr : stepc l .cc tok q c = some (b, s', tok', q')) :
    ∃ fl, goes b fl ∧ Ex w (A7 dp un gd L outer) (env7 L) (At w.params h₀ L rest l (some (S "c")) tok q (some (chS c))) B7.d fl (At w.params h₀ L rest l s'.s tok' q' (some (chS c))) := by
  have X := G.X
  have z1 : eqC (S "c") (S " ") = false := by kernel_rfl
  have z2 : inC (S "'\"") (S "c") = false := by kernel_rfl
  have z3 : inC (S "\\") (S "c") = false := by kernel_rfl
  have z4 : eqC (S "c") (S "c") = true := by kernel_rfl
  dsimp only [B7, W7, F700]
  unfold stepc at hr
  dsimp only at hr
  cases h1 : inC (S " \t\r\n") (chS c) with
  | true =>
    rw [h1, if_pos rfl] at hr
    cases hr
    have h2 : ∃ fl, goes (nonE tok || (l.px && q)) fl ∧ ∀ {p1 p2}, Exs w (A7 dp un gd L outer) (env7 L) (At w.params h₀ L rest l (some (S " ")) tok q (some (chS c))) (bif (nonE tok || (l.px && q)) then [.Break p1] else [.Continue p2]) fl (At w.params h₀ L rest l (some (S " ")) tok q (some (chS c))) := by
      cases (nonE tok || (l.px && q)) with
      | true => exact ⟨.brk, rfl, exs_one ex_break⟩
      | false => exact ⟨.cont, .inr rfl, exs_one ex_continue⟩
    obtain ⟨fl, hg, he⟩ := h2
    refine ⟨fl, hg, ?_⟩
    walk_at "f7"; walk_at "o7"; walk_at "f7"; walk_at "o7"; walk_at "f7"; walk_at "o7"; walk_at "f7"; walk_at "o7"
    refine ex_ifT (ts_intup (ev_stateS X)) (exs_one ?_)
    walk_at "f7"; walk_at "o7"; walk_at "t7"
    refine exs_cons (J := At w.params h₀ L rest l (some (S "c")) tok q (some (chS c))) ?_ (exs_cons (ex_state (st' := St.sp.s) X K' ev_str) (exs_one (ex_if (ts_tokq X hk) he)))
    walk_at "f7"
    exact exs_nil
  | false =>
    rw [h1, if_neg (by simp)] at hr
    cases h2 : inC l.com (chS c) with
    | true => rw [h2, if_pos rfl] at hr; cases hr
    | false =>
      rw [h2, if_neg (by simp)] at hr
      cases h3 : inC l.pc (chS c) with
      | false => rw [h3, if_neg (by simp)] at hr; cases hr
      | true =>
        rw [h3, if_pos rfl] at hr
        cases hr
        refine ⟨.next, .inl rfl, ?_⟩
        walk_at "f7"; walk_at "o7"; walk_at "f7"; walk_at "o7"; walk_at "f7"; walk_at "o7"; walk_at "f7"; walk_at "o7"
        refine ex_ifT (ts_intup (ev_stateS X)) (exs_one ?_)
        walk_at "f7"; walk_at "o7"; walk_at "f7"; walk_at "o7"; walk_at "f7"; walk_at "o7"; walk_at "t7"; walk_at "o7"; walk_at "t7"
        exact exs_one (ex_tokadd X K' hz)
theorem turn {s : St} {c : Nat} {b s' tok' q'} (G : Cx w A₀ base h₀ outer mean mg mb F700.sc dp un 10) (K' : Lok l rest) (hz : tok.length ≤ 10000) (hr : stepc l s tok q c = some (b, s', tok', q')) :
    ∃ fl, goes b fl ∧ Ex w (A7 dp un gd L outer) (env7 L) (At w.params h₀ L rest l s.s tok q (some (chS c))) B7.d fl (At w.params h₀ L rest l s'.s tok' q' (some (chS c))) := by
  have hz' : tok.length + (chS c).length ≤ 100000 := by show tok.length + 1 ≤ _; omega
  have hk : (tok.length : Int) < 9223372036854775808 := by omega
  cases s with
  | nn => cases hr; exact ⟨.brk, rfl, turn_nn G K'⟩
  | sp => exact turn_sp G K' hk hr
  | qt => exact turn_qt G K' hz' hr
  | aa => exact turn_aa G K' hk hz' hr
  | cc => exact turn_cc G K' hk hz' hr
end
set_option maxRecDepth 100000
set_option maxHeartbeats 4000000
structure Sx where
  dio : Addr
  t1 : Tok
  t2 : Tok
  t3 : Tok
  tb : Tok
  t4 : Tok
  buf : Str
noncomputable abbrev sioO (P : Params) (x : Sx) (tp : Tok) (p : Nat) : Obj := dictOf (sioEs P x.t1 x.t2 x.t3 x.tb x.t4 tp x.buf (p : Int)) 3
noncomputable def AtS (P : Params) (h₀ : Heap) (L : Addr) (more : List (Addr × Obj)) (l : Lx) (x : Sx) (p : Nat) (st : Option Str) (tok : Str) (q : Bool) (nc : Option Str) (h : Heap) : Prop :=
  ∃ tp, At P h₀ L ((l.io, instObj 597 x.dio) :: (x.dio, sioO P x tp p) :: more) l st tok q nc h
structure Sok (P : Params) (l : Lx) (x : Sx) (more : List (Addr × Obj)) : Prop where
  o1 : @LT.lt Nat _ x.dio l.io
  n1 : l.io ≠ l.dx
  n2 : x.dio ≠ l.dx
  n3 : l.x ≠ x.dio
  o3 : @LT.lt Nat _ l.dx l.x
  m1 : ∀ q ∈ more, q.1 ≠ l.dx
  m2 : ∀ q ∈ more, q.1 ≠ x.dio
  t : l.tl.length ≤ 10
  b : x.buf.length ≤ 10000
  pl : (l.pc.length : Int) < 9223372036854775808
  pb : nonE l.pc = true → ∃ t a, l.tl = [E P "_pushback_chars" t (.ref a)] ∧ (a, dqO) ∈ more
theorem Sok.lok {P l x more tp p} (s : Sok P l x more) : Lok l ((l.io, instObj 597 x.dio) :: (x.dio, sioO P x tp p) :: more) :=
  ⟨s.o3, fun q hq => by
    cases hq with
    | head => exact s.n1
    | tail _ hq => cases hq with
      | head => exact s.n2
      | tail _ hq => exact s.m1 q hq, s.t⟩
section
variable {w : World} {A₀ : Around} {base h₀ : Heap} {outer : List Env} {mean : ExcName → Option Value} {mg mb : Str → Option Value} {L : Addr} {dp un : Nat} {gd : Option (List Code)} {more : List (Addr × Obj)} {l : Lx} {x : Sx} {p : Nat} {st : Option Str} {tok : Str} {q : Bool} {nc : Option Str}
theorem ts_pb {p1 p2 p3 p4 p5 : Pos} {tp} (G : Cx w A₀ base h₀ outer mean mg mb F700.sc dp un 10) (O : Sok w.params l x more) :
    Ts w (A7 dp un gd L outer) (env7 L) (At w.params h₀ L ((l.io, instObj 597 x.dio) :: (x.dio, sioO w.params x tp p) :: more) l st tok q nc) (.BoolOp .And [.Attribute (.Name (S "self") p1) (S "punctuation_chars") p2, .Attribute (.Name (S "self") p3) (S "_pushback_chars") p4] p5) false := by
  refine ts_bool ?_
  cases hn : nonE l.pc with
  | false => exact tl_and_f (ts_str (ev_punct G) hn O.pl)
  | true =>
    obtain ⟨t, a, e, hm⟩ := O.pb hn
    refine tl_and_t (ts_str (ev_punct G) hn O.pl) (tl_and_f ?_)
    intro Q E' s hi h
    refine isTrue_plain ?_
    refine ev_attr (f := fun _ _ => .ref a) (P := (· = .ref a)) G.X (by kernel_rfl) (by kernel_rfl) (fun _ _ => by rw [lexEs, e]; kernel_rfl) (fun _ _ => rfl) (fun _ _ => rfl) _ _ _ hi fun v h' tk hv i => ?_
    subst hv
    obtain ⟨te, tst, ttok, tc, F, N⟩ := id i
    exact truthy_dq (N.get (.tail _ (.tail _ (.tail _ (.tail _ hm))))) (h _ _ i)
theorem cm_set {x : Addr} {q : Bool} {te : Tok} {o : Option Value} {v : Value} : (fun y => if y = S "nextchar" then some v else cm0 x q te o y) = cm0 x q te (some v) := by
  funext y
  by_cases h1 : y = S "nextchar"
  · subst h1
    rw [if_pos rfl, cm_nc]
  · rw [if_neg h1]
    show (if y = S "nextchar" then _ else _) = if y = S "nextchar" then _ else _
    rw [if_neg h1, if_neg h1]
theorem swapN {h₀ h : Heap} {L : Addr} {a b c d : Addr × Obj} {m : List (Addr × Obj)} (N : News h₀ L h (a :: b :: c :: d :: m)) : News h₀ L h (c :: d :: a :: b :: m) := fun p hp => by
  cases hp with
  | head => exact N _ (.tail _ (.tail _ (.head _)))
  | tail _ hp => cases hp with
    | head => exact N _ (.tail _ (.tail _ (.tail _ (.head _))))
    | tail _ hp => cases hp with
      | head => exact N _ (.head _)
      | tail _ hp => cases hp with
        | head => exact N _ (.tail _ (.head _))
        | tail _ hp => exact N _ (.tail _ (.tail _ (.tail _ (.tail _ hp))))
theorem Sok.apart {P l x more} {o1 o2 : Obj} (s : Sok P l x more) : ∀ q ∈ (l.x, o1) :: (l.dx, o2) :: more, q.1 ≠ x.dio := fun q hq => by
  cases hq with
  | head => exact s.n3
  | tail _ hq => cases hq with
    | head => exact Ne.symm s.n2
    | tail _ hq => exact s.m2 q hq
theorem ex_a (G : Cx w A₀ base h₀ outer mean mg mb F700.sc dp un 10) (O : Sok w.params l x more) (hp : p < x.buf.length) :
    Ex w (A7 dp un gd L outer) (env7 L) (AtS w.params h₀ L more l x p st tok q nc) B7.a .next (AtS w.params h₀ L more l x (p + 1) st tok q (some (chS (x.buf.cps.getD p 0)))) := fun Q E s hi h => by
  obtain ⟨tp, hi⟩ := hi
  dsimp only [B7, W7, F700]
  refine ex_ifF (J := AtS w.params h₀ L more l x (p + 1) st tok q (some (chS (x.buf.cps.getD p 0)))) (ts_pb G O) (exs_one ?_) _ _ _ hi h
  clear h hi
  intro Q E s hi h
  obtain ⟨te, tst, ttok, tc, F, N⟩ := hi
  have G4 : Cx w A₀ base h₀ outer mean mg mb F700.sc dp un 4 := ⟨G.B, G.X, G.T, G.hk, by have := G.room; omega, by have := G.un; omega⟩
  obtain ⟨B, X, T, hk, room, hun⟩ := G
  have hfi := fill_it
  revert hfi
  k_fill
  intro hfi
  clear hfi
  k_steps
  refine get_own (attr := none) (v := .ref l.io) F X (InstAt.of_news N (.head _) (.tail _ (.head _))) (by kernel_rfl) (hasD _) (by kernel_rfl) rfl (by kernel_rfl) rfl ?_
  walk1
  walk1
  walk1
  walk1
  refine spliced_none ⟨X.keeps F.keep, ?_⟩
  refine t_read G4 F (swapN N) O.o1 O.apart hp O.b fun h' tk' tv tp2 F' N' => ?_
  refine stN F' N' fun h2 F2 N2 => h _ _ ⟨tp2, te, tst, ttok, tv, ?_, swapN N2⟩
  rw [cm_set] at F2
  exact F2
theorem ex_a0 (G : Cx w A₀ base h₀ outer mean mg mb F700.sc dp un 10) (O : Sok w.params l x more) (hp : ¬ p < x.buf.length) :
    Ex w (A7 dp un gd L outer) (env7 L) (AtS w.params h₀ L more l x p st tok q nc) B7.a .next (AtS w.params h₀ L more l x p st tok q (some (S ""))) := fun Q E s hi h => by
  obtain ⟨tp, hi⟩ := hi
  dsimp only [B7, W7, F700]
  refine ex_ifF (J := AtS w.params h₀ L more l x p st tok q (some (S ""))) (ts_pb G O) (exs_one ?_) _ _ _ hi h
  clear h hi
  intro Q E s hi h
  obtain ⟨te, tst, ttok, tc, F, N⟩ := hi
  have G4 : Cx w A₀ base h₀ outer mean mg mb F700.sc dp un 4 := ⟨G.B, G.X, G.T, G.hk, by have := G.room; omega, by have := G.un; omega⟩
  obtain ⟨B, X, T, hk, room, hun⟩ := G
  have hfi := fill_it
  revert hfi
  k_fill
  intro hfi
  clear hfi
  k_steps
  refine get_own (attr := none) (v := .ref l.io) F X (InstAt.of_news N (.head _) (.tail _ (.head _))) (by kernel_rfl) (hasD _) (by kernel_rfl) rfl (by kernel_rfl) rfl ?_
  walk1
  walk1
  walk1
  walk1
  refine spliced_none ⟨X.keeps F.keep, ?_⟩
  refine t_read0 G4 F (swapN N) hp O.b fun h' tk' tv F' N' => ?_
  refine stN F' N' fun h2 F2 N2 => h _ _ ⟨tp, te, tst, ttok, tv, ?_, swapN N2⟩
  rw [cm_set] at F2
  exact F2
theorem ex_b {c : Str} (hc : eqC c (S "\n") = false) : Ex w (A7 dp un gd L outer) (env7 L) (AtS w.params h₀ L more l x p st tok q (some c)) B7.b .next (AtS w.params h₀ L more l x p st tok q (some c)) := fun Q E s hi h => by
  obtain ⟨tp, hi⟩ := hi
  dsimp only [B7, W7, F700]
  exact ex_ifF (ts_eq ev_nc ev_str hc) exs_nil _ _ _ hi fun h' tk i => h _ _ ⟨tp, i⟩
theorem ex_c (X : (K w.params).In h₀) : Ex w (A7 dp un gd L outer) (env7 L) (AtS w.params h₀ L more l x p st tok q nc) B7.c .next (AtS w.params h₀ L more l x p st tok q nc) := fun Q E s hi h => by
  obtain ⟨tp, hi⟩ := hi
  dsimp only [B7, W7, F700]
  exact ex_ifF (ts_ge (a := 0) (b := 3) (ev_debug X) (fun Q E s hi h => wpAny_Constant_int (h _ s.heap _ ⟨_, rfl⟩ hi))) exs_nil _ _ _ hi fun h' tk i => h _ _ ⟨tp, i⟩
theorem turnS {s : St} {b s' tok' q'} (G : Cx w A₀ base h₀ outer mean mg mb F700.sc dp un 10) (O : Sok w.params l x more) (hp : p < x.buf.length) (hn : eqC (chS (x.buf.cps.getD p 0)) (S "\n") = false) (hz : tok.length ≤ 10000) (hr : stepc l s tok q (x.buf.cps.getD p 0) = some (b, s', tok', q'))
    (Q : Flow → Shared → Prop) (E : Value → Shared → Prop) (s₀ : Shared) (hi : AtS w.params h₀ L more l x p s.s tok q nc s₀.heap)
    (h : ∀ fl h' tk, goes b fl → AtS w.params h₀ L more l x (p + 1) s'.s tok' q' (some (chS (x.buf.cps.getD p 0))) h' → Q fl { s₀ with heap := h', toks := tk }) :
    wpAny (model pw w) (A7 dp un gd L outer) (execs W7.b (env7 L)) Q E s₀ := by
  show wpAny (model pw w) (A7 dp un gd L outer) (execs [B7.a, B7.b, B7.c, B7.d] (env7 L)) Q E s₀
  refine wpAny_execs_cons (ex_a G O hp _ _ _ hi fun h1 t1 i1 => ?_)
  refine wpAny_execs_cons (ex_b hn _ _ _ i1 fun h2 t2 i2 => ?_)
  refine wpAny_execs_cons (ex_c G.X _ _ _ i2 fun h3 t3 i3 => ?_)
  obtain ⟨tp, i3⟩ := i3
  obtain ⟨fl, hg, he⟩ := turn (gd := gd) (L := L) G O.lok hz hr
  exact exs_one he _ _ _ i3 fun h4 t4 i4 => h _ _ _ hg ⟨tp, i4⟩
theorem turn0 {s : St} (G : Cx w A₀ base h₀ outer mean mg mb F700.sc dp un 10) (O : Sok w.params l x more) (hp : ¬ p < x.buf.length) (hs : s = .sp ∨ s = .aa ∨ s = .cc) :
    Exs w (A7 dp un gd L outer) (env7 L) (AtS w.params h₀ L more l x p s.s tok q nc) W7.b .brk (AtS w.params h₀ L more l x p none tok q (some (S ""))) := by
  show Exs w _ _ _ [B7.a, B7.b, B7.c, B7.d] _ _
  refine exs_cons (ex_a0 G O hp) (exs_cons (ex_b (by kernel_rfl)) (exs_cons (ex_c G.X) (exs_one ?_)))
  intro Q E s hi h
  obtain ⟨tp, hi⟩ := hi
  exact turn_end G O.lok hs _ _ _ hi fun h' tk i => h _ _ ⟨tp, i⟩
theorem turn0n (G : Cx w A₀ base h₀ outer mean mg mb F700.sc dp un 10) (O : Sok w.params l x more) (hp : ¬ p < x.buf.length) :
    Exs w (A7 dp un gd L outer) (env7 L) (AtS w.params h₀ L more l x p none tok q nc) W7.b .brk (AtS w.params h₀ L more l x p none (S "") q (some (S ""))) := by
  show Exs w _ _ _ [B7.a, B7.b, B7.c, B7.d] _ _
  refine exs_cons (ex_a0 G O hp) (exs_cons (ex_b (by kernel_rfl)) (exs_cons (ex_c G.X) (exs_one ?_)))
  intro Q E s hi h
  obtain ⟨tp, hi⟩ := hi
  exact turn_nn G O.lok _ _ _ hi fun h' tk i => h _ _ ⟨tp, i⟩
end
theorem step_len {l s tok q c b s' tok' q'} (hr : stepc l s tok q c = some (b, s', tok', q')) : tok'.length ≤ tok.length + 1 := by
  have e : (tok ++ chS c).length = tok.length + 1 := by
    show (tok.cps ++ #[c]).size = tok.cps.size + 1
    simp
  have e1 : (chS c).length = 1 := rfl
  have e0 : (S "").length = 0 := by kernel_rfl
  unfold stepc at hr
  cases s <;> dsimp only at hr
  · cases hr; omega
  · repeat' split at hr
    all_goals first | (cases hr; done) | (cases hr; first | omega | (split <;> omega))
  · repeat' split at hr
    all_goals first | (cases hr; done) | (cases hr; omega)
  · repeat' split at hr
    all_goals first | (cases hr; done) | (cases hr; omega)
  · repeat' split at hr
    all_goals first | (cases hr; done) | (cases hr; omega)
/-- one reading of a token from the rest of the text: the state behind it, the token, whether it was quoted, and the rest -/
noncomputable def lexGo (l : Lx) : St → Str → Bool → List Nat → Option (St × Str × Bool × List Nat)
  | .nn, _, q, [] => some (.nn, S "", q, [])
  | .qt, _, _, [] => none
  | .sp, tok, q, [] => some (.nn, tok, q, [])
  | .aa, tok, q, [] => some (.nn, tok, q, [])
  | .cc, tok, q, [] => some (.nn, tok, q, [])
  | s, tok, q, c :: cs => if eqC (chS c) (S "\n") then none else
    match stepc l s tok q c with
    | none => none
    | some (true, s', tok', q') => some (s', tok', q', cs)
    | some (false, s', tok', q') => lexGo l s' tok' q' cs
section
variable {w : World} {A₀ : Around} {base h₀ : Heap} {outer : List Env} {mean : ExcName → Option Value} {mg mb : Str → Option Value} {L : Addr} {dp un : Nat} {gd : Option (List Code)} {more : List (Addr × Obj)} {l : Lx} {x : Sx} {p : Nat} {tok : Str} {q : Bool} {nc : Option Str}
theorem drop_cons {x : Sx} {p : Nat} (hp : p < x.buf.length) : x.buf.cps.toList.drop p = x.buf.cps.getD p 0 :: x.buf.cps.toList.drop (p + 1) := by
  have hp' : p < x.buf.cps.toList.length := by simpa [Str.length] using hp
  have : p < x.buf.cps.size := hp
  rw [List.drop_eq_getElem_cons hp']
  simp [Array.getD, this]
theorem drop_nil {x : Sx} {p : Nat} (hp : ¬ p < x.buf.length) : x.buf.cps.toList.drop p = [] := by
  refine List.drop_eq_nil_of_le ?_
  have : ¬ p < x.buf.cps.size := hp
  simp; omega
theorem loop7 {s : St} {s' tok' q' cs'} (G : Cx w A₀ base h₀ outer mean mg mb F700.sc dp un 10) (O : Sok w.params l x more) (hp : p ≤ x.buf.length) (hz : tok.length ≤ p) (hr : lexGo l s tok q (x.buf.cps.toList.drop p) = some (s', tok', q', cs')) {pos : Pos} {t : PySem.Expr} (ht : t = .Constant (.bool true) 0 pos) {p2 : Pos} :
    Ex w (A7 dp un gd L outer) (env7 L) (AtS w.params h₀ L more l x p s.s tok q nc) (.While t W7.b [] p2) .next (fun h => ∃ p' nc', x.buf.cps.toList.drop p' = cs' ∧ p' ≤ x.buf.length ∧ p ≤ p' ∧ tok'.length ≤ p' ∧ AtS w.params h₀ L more l x p' s'.s tok' q' nc' h) := fun Q E s₀ hi h => by
  subst ht
  refine wpAny_While (codeAny_whileLoop (fun n s₁ => ∃ p₁ s tok q nc, n = x.buf.length - p₁ ∧ p₁ ≤ x.buf.length ∧ p ≤ p₁ ∧ tok.length ≤ p₁ ∧ lexGo l s tok q (x.buf.cps.toList.drop p₁) = some (s', tok', q', cs') ∧ AtS w.params h₀ L more l x p₁ s.s tok q nc s₁.heap ∧ ∃ h' tk, s₁ = { s₀ with heap := h', toks := tk }) ?_ (x.buf.length - p) ⟨p, s, tok, q, nc, rfl, hp, Nat.le_refl _, hz, hr, hi, s₀.heap, s₀.toks, rfl⟩)
  rintro n s₁ ⟨p₁, s, tok, q, nc, rfl, hp, hpp, hz, hr, hi, h', tk, rfl⟩
  refine isTrue_plain (Constant_bool (wpAny_truthy_bool ?_))
  rw [if_pos rfl]
  by_cases hlt : p₁ < x.buf.length
  · rw [drop_cons hlt] at hr
    have hr' : (if eqC (chS (x.buf.cps.getD p₁ 0)) (S "\n") then none else
      match stepc l s tok q (x.buf.cps.getD p₁ 0) with
      | none => none
      | some (true, s', tok', q') => some (s', tok', q', x.buf.cps.toList.drop (p₁ + 1))
      | some (false, s', tok', q') => lexGo l s' tok' q' (x.buf.cps.toList.drop (p₁ + 1))) = some (s', tok', q', cs') := by
      rw [← hr]; cases s <;> rfl
    cases hn : eqC (chS (x.buf.cps.getD p₁ 0)) (S "\n") with
    | true => rw [hn, if_pos rfl] at hr'; cases hr'
    | false =>
      rw [hn, if_neg (by simp)] at hr'
      cases hst : stepc l s tok q (x.buf.cps.getD p₁ 0) with
      | none => rw [hst] at hr'; cases hr'
      | some r =>
        obtain ⟨b, s2, tok2, q2⟩ := r
        have hl := step_len hst
        have hbb := O.b
        rw [hst] at hr'
        refine turnS G O hlt hn (by omega) hst _ _ _ hi fun fl h2 t2 hg i2 => ?_
        cases b with
        | true =>
          cases hg
          cases hr'
          exact h _ _ ⟨p₁ + 1, _, rfl, by omega, by omega, by omega, i2⟩
        | false =>
          have hh : ∃ m, m < x.buf.length - p₁ ∧ ∃ p₂ s tok q nc, m = x.buf.length - p₂ ∧ p₂ ≤ x.buf.length ∧ p ≤ p₂ ∧ tok.length ≤ p₂ ∧ lexGo l s tok q (x.buf.cps.toList.drop p₂) = some (s', tok', q', cs') ∧ AtS w.params h₀ L more l x p₂ s.s tok q nc h2 ∧ ∃ h' tk, ({ s₀ with heap := h2, toks := t2 } : Shared) = { s₀ with heap := h', toks := tk } :=
            ⟨x.buf.length - (p₁ + 1), by omega, p₁ + 1, s2, tok2, q2, _, rfl, by omega, by omega, by omega, hr', i2, h2, t2, rfl⟩
          rcases hg with rfl | rfl
          · exact hh
          · exact hh
  · rw [drop_nil hlt] at hr
    cases s with
    | nn => cases hr; exact turn0n G O hlt _ _ _ hi fun h2 t2 i2 => h _ _ ⟨p₁, _, drop_nil hlt, hp, hpp, Nat.le_trans (Nat.le_of_eq (show (S "").length = 0 by kernel_rfl)) (Nat.zero_le _), i2⟩
    | qt => cases hr
    | sp => cases hr; exact turn0 (s := .sp) G O hlt (.inl rfl) _ _ _ hi fun h2 t2 i2 => h _ _ ⟨p₁, _, drop_nil hlt, hp, hpp, hz, i2⟩
    | aa => cases hr; exact turn0 (s := .aa) G O hlt (.inr (.inl rfl)) _ _ _ hi fun h2 t2 i2 => h _ _ ⟨p₁, _, drop_nil hlt, hp, hpp, hz, i2⟩
    | cc => cases hr; exact turn0 (s := .cc) G O hlt (.inr (.inr rfl)) _ _ _ hi fun h2 t2 i2 => h _ _ ⟨p₁, _, drop_nil hlt, hp, hpp, hz, i2⟩
end
set_option maxRecDepth 100000
set_option maxHeartbeats 4000000
/-- the objects of a lexer at rest between two readings -/
noncomputable abbrev lexL (P : Params) (l : Lx) (x : Sx) (s : St) (tst ttok tp : Tok) (p : Nat) (more : List (Addr × Obj)) : List (Addr × Obj) :=
  (l.x, instObj 732 l.dx) :: (l.dx, dictOf (lexEs P l (stV s.s tst) (S "") ttok) l.n) :: (l.io, instObj 597 x.dio) :: (x.dio, sioO P x tp p) :: more
/-- what a reading gives back -/
noncomputable def resV (l : Lx) (q : Bool) (tok : Str) (t : Tok) : Value := if (l.px && (!q && eqC tok (S ""))) = true then .none else .str tok t
section
variable {w : World} {A₀ : Around} {base h₀ : Heap} {outer : List Env} {mean : ExcName → Option Value} {mg mb : Str → Option Value} {cn : Str} {cs : Scope} {L a : Addr} {ccd : Value} {dp un : Nat} {gd : Option (List Code)} {m : Str → Option Value} {more : List (Addr × Obj)} {s₀ : Shared} {Q E' : Value → Shared → Prop}
  {l : Lx} {x : Sx} {p : Nat}
/-- the same with any locals -/
noncomputable def AtM (P : Params) (h₀ : Heap) (L : Addr) (rest : List (Addr × Obj)) (l : Lx) (m : Str → Option Value) (stv : Value) (tok : Str) (ttok : Tok) (h : Heap) : Prop :=
  Fr h₀ L h m ∧ News h₀ L h ((l.x, instObj 732 l.dx) :: (l.dx, dictOf (lexEs P l stv tok ttok) l.n) :: rest)
theorem evM_attr {A : Around} {name : Str} {sc : Scope} {fa : Addr} {cd : Value} {rest : List (Addr × Obj)} {stv : Value} {tok : Str} {ttok : Tok} {n : Str} {p1 p2 : Pos} {v : Value} (X : (K w.params).In h₀) (hm : m (S "self") = some (.ref l.x)) (g : plainGet (K w.params) 732 n = true) (a : findIn (K w.params) (.ref 732) n = some none)
    (hl : getL n (lexEs w.params l stv tok ttok) = some (some v)) (hv : handedIn v = true) (hk : sc.kind = .function := by rfl) (hloc : (envOf name sc L fa cd).kindOf (S "self") = some .local := by rfl) :
    Ev w A (envOf name sc L fa cd) (AtM w.params h₀ L rest l m stv tok ttok) (.Attribute (.Name (S "self") p1) n p2) (· = v) := fun Q E s hi h => by
  obtain ⟨F, N⟩ := id hi
  exact Attribute_Name_ (ld F hm (get_own F X (InstAt.of_news N (.head _) (.tail _ (.head _))) g (hasD _) a rfl hl hv (h _ _ _ rfl hi)) hk hloc)
theorem evM_name {A : Around} {name : Str} {sc : Scope} {fa : Addr} {cd : Value} {rest : List (Addr × Obj)} {stv : Value} {tok : Str} {ttok : Tok} {n : Str} {p1 : Pos} {v : Value} (hm : m n = some v) (hk : sc.kind = .function := by rfl) (hloc : (envOf name sc L fa cd).kindOf n = some .local := by rfl) (hd : (n == ("__debug__" : Str)) = false := by decide) :
    Ev w A (envOf name sc L fa cd) (AtM w.params h₀ L rest l m stv tok ttok) (.Name n p1) (· = v) := fun Q E s hi h => by
  obtain ⟨F, N⟩ := id hi
  exact ld F hm (h _ _ s.toks rfl hi) hk hloc hd
theorem ev_is {A : Around} {env : Env} {I : Heap → Prop} {e : PySem.Expr} {x : Str} {t : Tok} (h : Ev w A env I e (· = .str x t)) : Ev w A env I e (isS x) := fun Q E s hi h' => h Q E s hi fun v h1 tk hv i => h' v h1 tk ⟨t, hv⟩ i
theorem exM_token {A : Around} {name : Str} {sc : Scope} {fa : Addr} {cd : Value} {rest : List (Addr × Obj)} {stv : Value} {tok tok' : Str} {ttok : Tok} {p1 p2 p3 : Pos} {e : PySem.Expr} (X : (K w.params).In h₀) (K' : Lok l rest) (hm : m (S "self") = some (.ref l.x))
    (h1 : Ev w A (envOf name sc L fa cd) (AtM w.params h₀ L rest l m stv tok ttok) e (isS tok')) (hs : swapsWith e (some (.Attribute (.Name (S "self") p1) (S "token") p2)) p3.line (envOf name sc L fa cd) = pure false := by rfl)
    (hk : sc.kind = .function := by rfl) (hloc : (envOf name sc L fa cd).kindOf (S "self") = some .local := by rfl) :
    Ex w A (envOf name sc L fa cd) (AtM w.params h₀ L rest l m stv tok ttok) (.Assign [.Attribute (.Name (S "self") p1) (S "token") p2] e p3) .next (fun h => ∃ t, AtM w.params h₀ L rest l m stv tok' t h) := fun Q E s hi h => by
  refine plainObj_wpAny_Assign_Attribute (h1 _ _ _ hi fun v h2 t2 hv i2 => ?_) hs
  obtain ⟨F, N⟩ := i2
  obtain ⟨t, rfl⟩ := hv
  refine ld F hm (set_dict (dx := l.dx) (es' := lexEs w.params l stv tok' t) (n' := l.n) F X N (InstAt.of_news N (.head _) (.tail _ (.head _))) rfl (seta _) (plov _) (by kernel_rfl) (hasD _) (by kernel_rfl) (by kernel_rfl)
    (.tail K'.ne (.head K'.r)) (by have := K'.t; simp only [List.length_cons]; omega) fun h' F' N' => h _ _ ⟨t, F', N'⟩) hk hloc
theorem exM_name {A : Around} {name : Str} {sc : Scope} {fa : Addr} {cd : Value} {rest : List (Addr × Obj)} {stv : Value} {tok : Str} {ttok : Tok} {n : Str} {v : Value} {p1 p3 : Pos} {e : PySem.Expr}
    (h1 : Ev w A (envOf name sc L fa cd) (AtM w.params h₀ L rest l m stv tok ttok) e (· = v)) (hs : swapsWith e (some (.Name n p1)) p3.line (envOf name sc L fa cd) = pure false := by rfl)
    (hk : sc.kind = .function := by rfl) (hloc : (envOf name sc L fa cd).kindOf n = some .local := by rfl) :
    Ex w A (envOf name sc L fa cd) (AtM w.params h₀ L rest l m stv tok ttok) (.Assign [.Name n p1] e p3) .next (AtM w.params h₀ L rest l (fun y => if y = n then some v else m y) stv tok ttok) := fun Q E s hi h => by
  refine wpAny_Assign_Name (h1 _ _ _ hi fun v h2 t2 hv i2 => ?_) hs
  subst hv
  exact stN i2.1 i2.2 (fun h' F' N' => h _ _ ⟨F', N'⟩) hk hloc
theorem exs_ex {A : Around} {env : Env} {α : Type} {I : α → Heap → Prop} {J : Heap → Prop} {st fl} (h : ∀ t, Exs w A env (I t) st fl J) : Exs w A env (fun h => ∃ t, I t h) st fl J := fun Q E s hi h' => by
  obtain ⟨t, hi⟩ := hi
  exact h t Q E s hi h'
theorem ts_gt {A : Around} {env : Env} {I : Heap → Prop} {l r pos} {a b : Int} (hl : Ev w A env I l (fun v => ∃ t, v = .int a t)) (hr : Ev w A env I r (fun v => ∃ t, v = .int b t)) (hm : behindInMarks .Gt r = false := by with_unfolding_all rfl) : Ts w A env I (.Compare l [.Gt] [r] pos) (decide (b < a)) :=
  fun Q E s hi h => wpAny_isTrue_Compare1 (hl _ _ _ hi fun v h1 t1 hv i1 => hr _ _ _ i1 fun u h2 t2 hu i2 => by
    obtain ⟨_, rfl⟩ := hv; obtain ⟨_, rfl⟩ := hu
    exact PyProof.Rows.gt_int (wpAny_truthy_bool (h _ _ i2))) hm
theorem exs_ret {A : Around} {env : Env} {I : Heap → Prop} {v : Value} {e : PySem.Expr} {p : Pos} (h1 : Ev w A env I e (· = v)) : Exs w A env I [.Return (some e) p] (.ret v) I := fun Q E s hi h =>
  wpAny_execs_cons (wpAny_Return_some (h1 _ _ _ hi fun u h' tk hu i => by subst hu; exact h _ _ i))
theorem tail7 {A : Around} {rest : List (Addr × Obj)} {stv : Value} {tok : Str} {ttok : Tok} {q : Bool} (X : (K w.params).In h₀) (K' : Lok l rest) (hs : m (S "self") = some (.ref l.x)) (hq : m (S "quoted") = some (.bool q)) :
    Exs w A (env7 L) (AtM w.params h₀ L rest l m stv tok ttok) W7.r (.ret (resV l q tok ttok)) (fun h => ∃ m' t, AtM w.params h₀ L rest l m' stv (S "") t h) := by
  dsimp only [W7, F700]
  refine exs_cons (exM_name (evM_attr X hs (by kernel_rfl) (by kernel_rfl) (v := .str tok ttok) (by kernel_rfl) rfl)) ?_
  have hs6 : (fun y => if y = S "result" then some (Value.str tok ttok) else m y) (S "self") = some (.ref l.x) := (if_neg (by decide +kernel)).trans hs
  have hq6 : (fun y => if y = S "result" then some (Value.str tok ttok) else m y) (S "quoted") = some (.bool q) := (if_neg (by decide +kernel)).trans hq
  have hr6 : (fun y => if y = S "result" then some (Value.str tok ttok) else m y) (S "result") = some (.str tok ttok) := if_pos rfl
  revert hs6 hq6 hr6
  generalize (fun y => if y = S "result" then some (Value.str tok ttok) else m y) = m6
  intro hs6 hq6 hr6
  refine exs_cons (exM_token X K' hs6 ev_str) (exs_ex fun t => ?_)
  have t1 : ∀ {p1 p2 p3 p4 p5 p6 p7 p8 : Pos} {k}, Ts w A (env7 L) (AtM w.params h₀ L rest l m6 stv (S "") t) (.BoolOp .And [.Attribute (.Name (S "self") p1) (S "posix") p2, .UnaryOp .Not (.Name (S "quoted") p3) p4, .Compare (.Name (S "result") p5) [.Eq] [.Constant (.str (S "")) k p6] p7] p8) (l.px && (!q && eqC tok (S ""))) := by
    intro p1 p2 p3 p4 p5 p6 p7 p8 k
    refine ts_bool ?_
    refine tl_and (bx := l.px) (ts_flag (evM_attr X hs6 (by kernel_rfl) (by kernel_rfl) (by kernel_rfl) rfl)) (fun hp => ?_) (fun hp => by rw [hp]; rfl)
    rw [hp, Bool.true_and]
    refine tl_and (bx := !q) (ts_not (ts_flag (evM_name hq6))) (fun hp => ?_) (fun hp => by rw [hp]; rfl)
    rw [hp, Bool.true_and]
    refine tl_and (bx := eqC tok (S "")) (ts_eq (ev_is (evM_name hr6)) ev_str rfl) (fun hp => by rw [hp]; exact tl_and_nil) (fun hp => hp)
  have t2 : ∀ {m'} (hs : m' (S "self") = some (.ref l.x)) {p1 p2 p3 p4 : Pos} {k}, Ts w A (env7 L) (AtM w.params h₀ L rest l m' stv (S "") t) (.Compare (.Attribute (.Name (S "self") p1) (S "debug") p2) [.Gt] [.Constant (.int 1) k p3] p4) false := by
    intro m' hs p1 p2 p3 p4 k
    refine ts_gt (a := 0) (b := 1) (fun Q E s hi h => evM_attr X hs (by kernel_rfl) (by kernel_rfl) (v := .int 0 (l.vt 14)) (by kernel_rfl) rfl rfl rfl Q E s hi fun v h1 tk hv i => h v h1 tk ⟨_, hv⟩ i) ?_
    exact fun Q E s hi h => wpAny_Constant_int (h _ s.heap _ ⟨_, rfl⟩ hi)
  unfold resV
  cases hb : (l.px && (!q && eqC tok (S ""))) with
  | true =>
    rw [hb] at t1
    rw [if_pos rfl]
    refine exs_cons (ex_ifT t1 (exs_one (exM_name ev_none))) (exs_cons (ex_ifF (t2 ((if_neg (by decide +kernel)).trans hs6)) exs_nil) ?_)
    exact fun Q E s hi h => exs_ret (evM_name (v := .none) (if_pos rfl)) Q E s hi fun h' tk i => h _ _ ⟨_, _, i⟩
  | false =>
    rw [hb] at t1
    rw [if_neg (by simp)]
    refine exs_cons (ex_ifF t1 exs_nil) (exs_cons (ex_ifF (t2 hs6) exs_nil) ?_)
    exact fun Q E s hi h => exs_ret (evM_name hr6) Q E s hi fun h' tk i => h _ _ ⟨_, _, i⟩
theorem cm_start {x : Addr} {v : Value} {t : Tok} (h : v = .ref x) : (fun y => if y = S "escapedstate" then some (Value.str (S " ") t) else if y = S "quoted" then some (.bool false) else List.lookup y [(S "self", v)].reverse) = cm0 x false t (Option.map (Value.str · 0) none) := by
  subst h
  funext y
  show _ = if y = S "nextchar" then _ else if y = S "escapedstate" then _ else if y = S "quoted" then _ else if y = S "self" then _ else _
  by_cases h1 : y = S "nextchar"
  · subst h1
    rw [if_neg (by decide +kernel), if_neg (by decide +kernel), if_pos rfl]
    show List.lookup (S "nextchar") [(S "self", _)] = none
    rw [List.lookup_cons, show (S "nextchar" == S "self") = false by decide +kernel]
    rfl
  · rw [if_neg h1]
    by_cases h2 : y = S "escapedstate"
    · rw [if_pos h2, if_pos h2]
    · rw [if_neg h2, if_neg h2]
      by_cases h3 : y = S "quoted"
      · rw [if_pos h3, if_pos h3]
      · rw [if_neg h3, if_neg h3]
        show List.lookup y [(S "self", _)] = _
        rw [List.lookup_cons]
        by_cases h4 : y = S "self"
        · rw [if_pos h4, show (y == S "self") = true by rw [h4]; exact beq_self_eq_true _]
        · rw [if_neg h4, show (y == S "self") = false by simpa using h4]
          rfl
theorem t_tok {s s' : St} {tok' q' cs'} {tst ttok tp : Tok} (G : Cx w A₀ base h₀ outer mean mg mb cs dp un 14) (O : Sok w.params l x more) (F : Fr h₀ L s₀.heap m) (N : News h₀ L s₀.heap (lexL w.params l x s tst ttok tp p more))
   (hp : p ≤ x.buf.length) (hr : lexGo l s (S "") false (x.buf.cps.toList.drop p) = some (s', tok', q', cs'))
   (h : ∀ h' tk tst' ttok' tp' p' tr, Fr h₀ L h' m → News h₀ L h' (lexL w.params l x s' tst' ttok' tp' p' more) → x.buf.cps.toList.drop p' = cs' → p' ≤ x.buf.length → tok'.length ≤ 10000 → Q (resV l q' tok' tr) { s₀ with heap := h', toks := tk }) :
   wpAny (model pw w) (aT dp un gd cn cs L a ccd outer) (call (.ref 700) [.ref l.x]) Q E' s₀ := by
  obtain ⟨B, X, T, hk, room, hun⟩ := G
  have hfi := fill_it
  revert hfi
  k_fill
  intro hfi
  clear hfi
  refine wpAny_call ?_
  refine code_def (binds := [(S "self", .ref l.x)]) B F X N T rfl rfl hk (l700 _) (c700 _) (by dsimp only; omega) (BindsTo.of_eq rfl) (locs rfl) ?_ rfl rfl rfl (by decide)
  intro g' L' h' FG' F' N' B' X' T'
  show wpAny (model pw w) (A7 (dp + 1) (un + 3) gd L' (envOf cn cs L a ccd :: outer)) (execs (W7.s1 :: W7.s2 :: .While W7.t W7.b [] W7.p :: W7.r) (env7 L')) _ _ _
  have G' : Cx w (aT dp un gd cn cs L a ccd outer) base g' (envOf cn cs L a ccd :: outer) mean mg mb F700.sc (dp + 1) (un + 3) 10 := ⟨B', X', T', rfl, by omega, by omega⟩
  refine wpAny_execs_cons ?_
  show wpAny _ _ (exec W7.s1 (env7 L')) _ _ _
  dsimp only [W7, F700]
  refine wpAny_Assign_Name (Constant_bool (stN F' N' fun h1 F1 N1 => ?_))
  dsimp only
  refine wpAny_execs_cons (wpAny_Assign_Name (Calls.Constant_str (stN F1 N1 fun h2 F2 N2 => ?_)))
  dsimp only
  rw [cm_start rfl] at F2
  refine wpAny_execs_cons (loop7 (x := x) (p := p) (s := s) (tok := S "") (q := false) (nc := none) G' O hp (Nat.zero_le _) hr rfl _ _ _ ⟨tp, _, tst, ttok, 0, F2, N2⟩ fun h3 tk3 hi => ?_)
  obtain ⟨p', nc', e1, e2, e3, e4, tp', te, tst', ttok', tc, F3, N3⟩ := hi
  refine tail7 X' O.lok cm_self cm_q _ _ _ ⟨F3, N3⟩ fun h4 tk4 hi => ?_
  obtain ⟨m', t, F4, N4⟩ := hi
  have hbb := O.b
  refine leaveK_ F4 N4 fun F5 N5 => ?_
  exact h _ _ _ _ _ _ _ F5 N5 e1 e2 (by omega)
end
set_option maxRecDepth 100000
set_option maxHeartbeats 4000000
structure Gok (P : Params) (l : Lx) (more : List (Addr × Obj)) : Prop where
  pb : (l.pb, dqO) ∈ more
  fs : (l.fs, dqO) ∈ more
  e : if l.px = true then l.eofv = .none else ∃ t, l.eofv = .str (S "") t
  tl : l.tl = [] ∨ ∃ t a, l.tl = [E P "_pushback_chars" t (.ref a)]
theorem Gok.handed {P : Params} {l : Lx} {more : List (Addr × Obj)} (G : Gok P l more) : handedIn l.eofv = true := by
  have h := G.e
  cases hp : l.px with
  | true => rw [hp, if_pos rfl] at h; rw [h]; rfl
  | false => rw [hp, if_neg (by simp)] at h; obtain ⟨t, h⟩ := h; rw [h]; rfl
noncomputable def isEof (l : Lx) (q : Bool) (tok : Str) : Bool := eqC tok (S "") && !(l.px && q)
noncomputable def tokV (l : Lx) (q : Bool) (tok : Str) (t : Tok) : Value := if isEof l q tok = true then l.eofv else .str tok t
section
variable {w : World} {A : Around} {env : Env} {I J : Heap → Prop}
theorem ex_while_no {t b p} (h : Ts w A env I t false) : Ex w A env I (.While t b [] p) .next I := fun Q E s hi h' => by
  refine wpAny_While (codeAny_whileLoop (fun n s₁ => n = 0 ∧ s₁ = s) ?_ 0 ⟨rfl, rfl⟩)
  rintro n s₁ ⟨rfl, rfl⟩
  refine h _ _ _ hi fun h1 tk i => ?_
  rw [if_neg (by simp)]
  exact wpAny_execs_nil (h' _ _ i)
theorem ex_while_ret {t b o p v} (h : Ts w A env I t true) (h2 : Exs w A env I b (.ret v) J) : Ex w A env I (.While t b o p) (.ret v) J := fun Q E s hi h' => by
  refine wpAny_While (codeAny_whileLoop (fun n s₁ => n = 0 ∧ s₁ = s) ?_ 0 ⟨rfl, rfl⟩)
  rintro n s₁ ⟨rfl, rfl⟩
  refine h _ _ _ hi fun h1 tk i => ?_
  rw [if_pos rfl]
  exact h2 _ _ _ i fun h3 tk3 i3 => h' _ _ i3
theorem exs_stop {a r v} (h1 : Ex w A env I a (.ret v) J) : Exs w A env I (a :: r) (.ret v) J := fun Q E s hi h => wpAny_execs_cons (h1 _ _ _ hi fun h' tk i => h _ _ i)
theorem ts_isnot_none {l k p' pos} (hl : Ev w A env I l (· = .none)) : Ts w A env I (.Compare l [.IsNot] [.Constant .none k p'] pos) false :=
  fun Q E s hi h => wpAny_isTrue_Compare1 (hl _ _ _ hi fun v h1 t1 hv i1 => Constant_none (by subst hv; exact isnot_none_none (wpAny_truthy_bool (h _ _ i1))))
end
section
variable {w : World} {A₀ : Around} {base h₀ : Heap} {outer : List Env} {mean : ExcName → Option Value} {mg mb : Str → Option Value} {cn : Str} {cs : Scope} {L a : Addr} {ccd : Value} {dp un : Nat} {gd : Option (List Code)} {m : Str → Option Value} {more : List (Addr × Obj)} {s₀ : Shared} {Q E' : Value → Shared → Prop}
  {l : Lx} {x : Sx} {p : Nat}
theorem noget {P : Params} {n : Str} {stv tok ttok} (G : Gok P l more) (h1 : ∀ l' : Lx, l'.tl = [] → getL n (lexEs P l' stv tok ttok) = some none) (h2 : ∀ (l' : Lx) t a, l'.tl = [E P "_pushback_chars" t (.ref a)] → getL n (lexEs P l' stv tok ttok) = some none) : getL n (lexEs P l stv tok ttok) = some none := by
  rcases G.tl with h | ⟨t, a, h⟩
  · exact h1 l h
  · exact h2 l t a h
theorem ts_dq {name : Str} {sc : Scope} {fa : Addr} {cd : Value} {A : Around} {rest : List (Addr × Obj)} {stv : Value} {tok : Str} {ttok : Tok} {n : Str} {p1 p2 : Pos} {d : Addr} (h1 : Ev w A (envOf name sc L fa cd) (AtM w.params h₀ L rest l m stv tok ttok) (.Attribute (.Name (S "self") p1) n p2) (· = .ref d)) (hd : (d, dqO) ∈ rest) :
    Ts w A (envOf name sc L fa cd) (AtM w.params h₀ L rest l m stv tok ttok) (.Attribute (.Name (S "self") p1) n p2) false := fun Q E s hi h => by
  refine isTrue_plain (h1 _ _ _ hi fun v h' tk hv i => ?_)
  subst hv
  exact truthy_dq (i.2.get (.tail _ (.tail _ hd))) (h _ _ i)
theorem ts_eof {name : Str} {sc : Scope} {fa : Addr} {cd : Value} {A : Around} {rest : List (Addr × Obj)} {stv : Value} {ttok : Tok} {p1 p2 p3 p4 : Pos} {q : Bool} {tok : Str} {tr : Tok} {n : Str} {b : Bool} (G : Gok w.params l more) (hb₀ : isEof l q tok = b)
    (h1 : Ev w A (envOf name sc L fa cd) (AtM w.params h₀ L rest l m stv (S "") ttok) (.Name n p3) (· = resV l q tok tr)) (h2 : Ev w A (envOf name sc L fa cd) (AtM w.params h₀ L rest l m stv (S "") ttok) (.Attribute (.Name (S "self") p1) (S "eof") p2) (· = l.eofv)) :
    Ts w A (envOf name sc L fa cd) (AtM w.params h₀ L rest l m stv (S "") ttok) (.Compare (.Name n p3) [.Eq] [.Attribute (.Name (S "self") p1) (S "eof") p2] p4) b := fun Q E s hi h => by
  subst hb₀
  refine wpAny_isTrue_Compare1 (h1 _ _ _ hi fun v h' tk hv i => h2 _ _ _ i fun u h3 tk3 hu i3 => ?_)
  subst hv hu
  have he := G.e
  unfold isEof at h
  unfold resV
  cases hp : l.px with
  | true =>
    rw [hp, if_pos rfl] at he
    rw [hp] at h
    rw [he]
    cases hb : (!q && eqC tok (S "")) with
    | true =>
      have e : (eqC tok (S "") && !(true && q)) = true := by revert hb; cases q <;> cases eqC tok (S "") <;> simp
      rw [e] at h
      rw [Bool.true_and, if_pos rfl]
      exact EqNone.eq_none_none (wpAny_truthy_bool (h _ _ i3))
    | false =>
      have e : (eqC tok (S "") && !(true && q)) = false := by revert hb; cases q <;> cases eqC tok (S "") <;> simp
      rw [e] at h
      rw [Bool.true_and, if_neg (by simp)]
      exact EqNone.eq_str_none (wpAny_truthy_bool (h _ _ i3))
  | false =>
    rw [hp, if_neg (by simp)] at he
    rw [hp] at h
    obtain ⟨t, he⟩ := he
    rw [he, Bool.false_and, if_neg (by simp)]
    refine eq_strB rfl (wpAny_truthy_bool ?_)
    have e : (eqC tok (S "") && !(false && q)) = eqC tok (S "") := by simp
    rw [e] at h
    exact h _ _ i3
theorem t_get {s s' : St} {tok' q' cs'} {tst ttok tp : Tok} (G : Cx w A₀ base h₀ outer mean mg mb cs dp un 16) (O : Sok w.params l x more) (GG : Gok w.params l more) (F : Fr h₀ L s₀.heap m) (N : News h₀ L s₀.heap (lexL w.params l x s tst ttok tp p more))
   (hp : p ≤ x.buf.length) (hr : lexGo l s (S "") false (x.buf.cps.toList.drop p) = some (s', tok', q', cs'))
   (h : ∀ h' tk tst' ttok' tp' p' tr, Fr h₀ L h' m → News h₀ L h' (lexL w.params l x s' tst' ttok' tp' p' more) → x.buf.cps.toList.drop p' = cs' → p' ≤ x.buf.length → tok'.length ≤ 10000 → Q (tokV l q' tok' tr) { s₀ with heap := h', toks := tk }) :
   wpAny (model pw w) (aT dp un gd cn cs L a ccd outer) (call (.ref 693) [.ref l.x]) Q E' s₀ := by
  obtain ⟨B, X, T, hk, room, hun⟩ := G
  have hfi := fill_it
  revert hfi
  k_fill
  intro hfi
  clear hfi
  refine wpAny_call ?_
  refine code_def (binds := [(S "self", .ref l.x)]) B F X N T rfl rfl hk (l693 _) (c693 _) (by dsimp only; omega) (BindsTo.of_eq rfl) (locs rfl) ?_ rfl rfl rfl (by decide)
  intro g' L' h' FG' F' N' B' X' T'
  show wpAny (model pw w) (aT (dp + 1) (un + 3) gd (S "shlex.get_token") F693.sc L' 693 (.ref 692) (envOf cn cs L a ccd :: outer)) (execs F693.b (envOf (S "shlex.get_token") F693.sc L' 693 (.ref 692))) _ _ _
  have G' : Cx w (aT dp un gd cn cs L a ccd outer) base g' (envOf cn cs L a ccd :: outer) mean mg mb F693.sc (dp + 1) (un + 3) 14 := ⟨B', X', T', rfl, by omega, by omega⟩
  have hs : (fun y => List.lookup y [(S "self", Value.ref l.x)].reverse) (S "self") = some (.ref l.x) := by kernel_rfl
  revert F' hs
  generalize (fun y => List.lookup y [(S "self", Value.ref l.x)].reverse) = m1
  intro F' hs
  dsimp only [F693]
  refine wpAny_execs_cons (ex_ifF (ts_dq (d := l.pb) (evM_attr X' hs (by kernel_rfl) (by kernel_rfl) (by kernel_rfl) rfl) (.tail _ (.tail _ GG.pb))) exs_nil _ _ _ ⟨F', N'⟩ fun h1 tk1 i1 => ?_)
  dsimp only
  refine wpAny_execs_cons (wpAny_Assign_Name ?_)
  obtain ⟨F1, N1⟩ := i1
  walk1
  refine ld F1 hs ?_
  refine method_inst F1 X' (InstAt.of_news N1 (.head _) (.tail _ (.head _))) (by kernel_rfl) (f := 700) (by kernel_rfl) (by kernel_rfl) (noget GG (fun l' e => by rw [lexEs, e]; kernel_rfl) (fun l' t a e => by rw [lexEs, e]; kernel_rfl)) ?_
  walk1
  refine t_tok G' O F1 N1 hp hr fun h2 tk2 tst2 ttok2 tp2 p2 tr F2 N2 e1 e2 e3 => ?_
  refine stN F2 N2 fun h3 F3 N3 => ?_
  dsimp only
  have hs3 : (fun y => if y = Str.ofString "raw" then some (resV l q' tok' tr) else m1 y) (S "self") = some (.ref l.x) := (if_neg (by decide +kernel)).trans hs
  have hr3 : (fun y => if y = Str.ofString "raw" then some (resV l q' tok' tr) else m1 y) (S "raw") = some (resV l q' tok' tr) := if_pos rfl
  revert F3 hs3 hr3
  generalize (fun y => if y = Str.ofString "raw" then some (resV l q' tok' tr) else m1 y) = m3
  intro F3 hs3 hr3
  have fin : ∀ {h4 tk4 m4} {tst4 ttok4 : Tok}, AtM w.params g' L' ((l.io, instObj 597 x.dio) :: (x.dio, sioO w.params x tp2 p2) :: more) l m4 (stV s'.s tst4) (S "") ttok4 h4 → LeaveK h₀ L m g' (fun r s' => match r with | Except.ok (Flow.ret v) => Q v s' | Except.ok a => False | Except.error e => E' e s') (tokV l q' tok' tr) { s₀ with heap := h4, toks := tk4 } :=
    fun i => leaveK_ i.1 i.2 fun F5 N5 => h _ _ _ _ _ _ _ F5 N5 e1 e2 e3
  refine wpAny_execs_cons (ex_ifF (I := AtM w.params g' L' ((l.io, instObj 597 x.dio) :: (x.dio, sioO w.params x tp2 p2) :: more) l m3 (stV s'.s tst2) (S "") ttok2) (ts_isnot_none (evM_attr X' hs3 (by kernel_rfl) (by kernel_rfl) (by kernel_rfl) rfl)) exs_nil _ _ _ ⟨F3, N3⟩ fun h4 tk4 i4 => ?_)
  dsimp only
  cases hb : isEof l q' tok' with
  | true =>
    have ev : tokV l q' tok' tr = l.eofv := by unfold tokV; rw [hb, if_pos rfl]
    refine wpAny_execs_cons (ex_while_ret (ts_eof GG hb (evM_name hr3) (evM_attr X' hs3 (by kernel_rfl) (by kernel_rfl) (by kernel_rfl) GG.handed)) (exs_one (ex_ifT (ts_not (b := false) (ts_dq (d := l.fs) (evM_attr X' hs3 (by kernel_rfl) (by kernel_rfl) (by kernel_rfl) rfl) (.tail _ (.tail _ GG.fs)))) (exs_ret (v := l.eofv) (evM_attr X' hs3 (by kernel_rfl) (by kernel_rfl) (by kernel_rfl) GG.handed)))) _ _ _ i4 fun h5 tk5 i5 => ?_)
    rw [← ev]
    exact fin i5
  | false =>
    have ev : tokV l q' tok' tr = .str tok' tr := by unfold tokV; rw [hb, if_neg (by simp)]
    have er : resV l q' tok' tr = .str tok' tr := by
      unfold resV isEof at *
      rw [if_neg]
      intro hc
      rw [Bool.and_eq_true, Bool.and_eq_true] at hc
      obtain ⟨a1, a2, a3⟩ := hc
      rw [a1, a3] at hb
      revert a2 hb
      cases q' <;> simp
    refine wpAny_execs_cons (ex_while_no (ts_eof GG hb (evM_name hr3) (evM_attr X' hs3 (by kernel_rfl) (by kernel_rfl) (by kernel_rfl) GG.handed)) _ _ _ i4 fun h5 tk5 i5 => ?_)
    dsimp only
    refine exs_cons (ex_ifF (ts_ge (a := 0) (b := 1) (fun Q E s hi h => evM_attr X' hs3 (by kernel_rfl) (by kernel_rfl) (v := .int 0 (l.vt 14)) (by kernel_rfl) rfl rfl rfl Q E s hi fun v h1 tk hv i => h v h1 tk ⟨_, hv⟩ i) (fun Q E s hi h => wpAny_Constant_int (h _ s.heap _ ⟨_, rfl⟩ hi))) exs_nil) (exs_ret (evM_name hr3)) _ _ _ i5 fun h6 tk6 i6 => ?_
    dsimp only
    rw [er, ← ev]
    exact fin i6
end
set_option maxRecDepth 100000
set_option maxHeartbeats 4000000
/-- the ground of a frame with the values of a later heap -/
noncomputable def refresh (h₀ h : Heap) : Heap := ⟨h₀.objs.mapIdx fun i o => if (h₀.get? i).isSome then (h.get? i).getD { o with data := .freed } else o, h₀.life⟩
theorem rf_size (h₀ h : Heap) : (refresh h₀ h).objs.size = h₀.objs.size := by simp [refresh]
theorem rf_get (h₀ h : Heap) (b : Addr) : (refresh h₀ h).get? b = if (h₀.get? b).isSome then h.get? b else none := by
  show (match (h₀.objs.mapIdx fun i o => if (h₀.get? i).isSome then (h.get? i).getD { o with data := .freed } else o)[b]? with | some ⟨_, _, .freed, _⟩ => none | o => o) = _
  rw [Array.getElem?_mapIdx]
  cases e : h₀.objs[b]? with
  | none =>
    have e' : h₀.get? b = none := by show (match h₀.objs[b]? with | some ⟨_, _, .freed, _⟩ => none | o => o) = none; rw [e]
    rw [e']
    rfl
  | some o =>
    cases e2 : h₀.get? b with
    | none =>
      have hf : o.data = .freed := by
        have : (match h₀.objs[b]? with | some ⟨_, _, .freed, _⟩ => none | o => o) = none := e2
        rw [e] at this
        obtain ⟨c, d, dt, sl⟩ := o
        cases dt <;> first | rfl | cases this
      obtain ⟨c, d, dt, sl⟩ := o
      cases hf
      simp [e2]
    | some o' =>
      cases e3 : h.get? b with
      | none => simp [e2, e3]
      | some o2 =>
        have hn : o2.isFreed = false := (Heap.get?_some_iff.mp e3).2
        obtain ⟨c, d, dt, sl⟩ := o2
        simp only [Option.map_some, e2, Option.isSome_some, if_true, e3, Option.getD_some]
        cases dt <;> first | rfl | cases hn
theorem rf_of {h₀ h : Heap} {b : Addr} {o : Obj} (e : (refresh h₀ h).get? b = some o) : h.get? b = some o := by
  rw [rf_get] at e
  split at e
  · exact e
  · cases e
theorem rf_none {h₀ h : Heap} {b : Addr} (e : h₀.get? b = none) : (refresh h₀ h).get? b = none := by rw [rf_get, e]; rfl
theorem rf_some {h₀ h : Heap} {b : Addr} {o o' : Obj} (e : h₀.get? b = some o) (e' : h.get? b = some o') : (refresh h₀ h).get? b = some o' := by rw [rf_get, e, e']; rfl
theorem rf_stays {base h₀ h : Heap} (k : base.StaysIn h₀) (k' : base.StaysIn h) : base.StaysIn (refresh h₀ h) := fun b o e => rf_some (k b o e) (k' b o e)
theorem rf_frames {base h₀ h : Heap} (u : h₀.UpToSlots h) : ∀ {l : List Env}, h₀.FunFrames base l → (refresh h₀ h).FunFrames base l
  | [], _ => trivial
  | env :: r, ⟨a, ⟨L, o, e1, e2, e3, e4⟩, c⟩ => by
    obtain ⟨sl, es⟩ := u L o e3 e4
    exact ⟨a, ⟨L, _, e1, e2, rf_some e3 es, e4⟩, rf_frames u c⟩
theorem rf_below {A : Around} {base h₀ h : Heap} {outer : List Env} (B : Below A base outer h₀) (k : base.StaysIn h) (u : h₀.UpToSlots h) : Below A base outer (refresh h₀ h) := ⟨B.stack, rf_stays B.stays k, rf_frames u B.frames⟩
theorem rf_fr {h₀ h h' : Heap} {L : Addr} {m : Str → Option Value} (F : Fr h₀ L h m) (u : h.UpToSlots h') : Fr (refresh h₀ h') L h' m := ⟨u.ns F.ns, fun b o e => rf_of e, by rw [rf_size]; exact F.above⟩
theorem rf_news {h₀ h' : Heap} {L : Addr} {news : List (Addr × Obj)} (N : ∀ p ∈ news, h'.get? p.1 = some p.2 ∧ p.1 ≠ L ∧ h₀.get? p.1 = none) : News (refresh h₀ h') L h' news := fun p hp => ⟨(N p hp).1, (N p hp).2.1, rf_none (N p hp).2.2⟩
set_option maxRecDepth 100000
set_option maxHeartbeats 4000000
section
variable {w : World} {A₀ : Around} {base h₀ : Heap} {outer : List Env} {mean : ExcName → Option Value} {mg mb : Str → Option Value} {cn : Str} {cs : Scope} {L a : Addr} {ccd : Value} {dp un : Nat} {gd : Option (List Code)} {m : Str → Option Value} {more : List (Addr × Obj)} {s₀ : Shared} {Q E' : Value → Shared → Prop}
  {l : Lx} {x : Sx} {p : Nat}
theorem ts_eof2 {name : Str} {sc : Scope} {fa : Addr} {cd : Value} {A : Around} {rest : List (Addr × Obj)} {stv : Value} {ttok : Tok} {p1 p2 p3 p4 : Pos} {q : Bool} {tok : Str} {tr : Tok} {n : Str} {b : Bool} (G : Gok w.params l more) (hb₀ : isEof l q tok = b)
    (h1 : Ev w A (envOf name sc L fa cd) (AtM w.params h₀ L rest l m stv (S "") ttok) (.Name n p3) (· = tokV l q tok tr)) (h2 : Ev w A (envOf name sc L fa cd) (AtM w.params h₀ L rest l m stv (S "") ttok) (.Attribute (.Name (S "self") p1) (S "eof") p2) (· = l.eofv)) :
    Ts w A (envOf name sc L fa cd) (AtM w.params h₀ L rest l m stv (S "") ttok) (.Compare (.Name n p3) [.Eq] [.Attribute (.Name (S "self") p1) (S "eof") p2] p4) b := fun Q E s hi h => by
  refine wpAny_isTrue_Compare1 (h1 _ _ _ hi fun v h' tk hv i => h2 _ _ _ i fun u h3 tk3 hu i3 => ?_)
  subst hv hu
  have he := G.e
  unfold tokV
  cases b with
  | true =>
    rw [hb₀, if_pos rfl]
    cases hp : l.px with
    | true =>
      rw [hp, if_pos rfl] at he
      rw [he]
      exact EqNone.eq_none_none (wpAny_truthy_bool (h _ _ i3))
    | false =>
      rw [hp, if_neg (by simp)] at he
      obtain ⟨t, he⟩ := he
      rw [he]
      exact eq_strB (b := true) (by kernel_rfl) (wpAny_truthy_bool (h _ _ i3))
  | false =>
    rw [hb₀, if_neg (by simp)]
    unfold isEof at hb₀
    cases hp : l.px with
    | true =>
      rw [hp, if_pos rfl] at he
      rw [he]
      exact EqNone.eq_str_none (wpAny_truthy_bool (h _ _ i3))
    | false =>
      rw [hp, if_neg (by simp)] at he
      obtain ⟨t, he⟩ := he
      rw [he]
      rw [hp] at hb₀
      exact eq_strB (b := false) (by simpa using hb₀) (wpAny_truthy_bool (h _ _ i3))
theorem t_next {s s' : St} {tok' q' cs'} {tst ttok tp : Tok} (G : Cx w A₀ base h₀ outer mean mg mb cs dp un 18) (O : Sok w.params l x more) (GG : Gok w.params l more) (F : Fr h₀ L s₀.heap m) (N : News h₀ L s₀.heap (lexL w.params l x s tst ttok tp p more))
   (hp : p ≤ x.buf.length) (hr : lexGo l s (S "") false (x.buf.cps.toList.drop p) = some (s', tok', q', cs')) (hb : isEof l q' tok' = false)
   (h : ∀ h' tk tst' ttok' tp' p' tr, Fr h₀ L h' m → News h₀ L h' (lexL w.params l x s' tst' ttok' tp' p' more) → x.buf.cps.toList.drop p' = cs' → p' ≤ x.buf.length → tok'.length ≤ 10000 → Q (.str tok' tr) { s₀ with heap := h', toks := tk }) :
   wpAny (model pw w) (aT dp un gd cn cs L a ccd outer) (call (.ref 729) [.ref l.x]) Q E' s₀ := by
  obtain ⟨B, X, T, hk, room, hun⟩ := G
  have hfi := fill_it
  revert hfi
  k_fill
  intro hfi
  clear hfi
  refine wpAny_call ?_
  refine code_def (binds := [(S "self", .ref l.x)]) B F X N T rfl rfl hk (l729 _) (c729 _) (by dsimp only; omega) (BindsTo.of_eq rfl) (locs rfl) ?_ rfl rfl rfl (by decide)
  intro g' L' h' FG' F' N' B' X' T'
  show wpAny (model pw w) (aT (dp + 1) (un + 3) gd (S "shlex.__next__") F729.sc L' 729 (.ref 728) (envOf cn cs L a ccd :: outer)) (execs F729.b (envOf (S "shlex.__next__") F729.sc L' 729 (.ref 728))) _ _ _
  have G' : Cx w (aT dp un gd cn cs L a ccd outer) base g' (envOf cn cs L a ccd :: outer) mean mg mb F729.sc (dp + 1) (un + 3) 16 := ⟨B', X', T', rfl, by omega, by omega⟩
  have hs : (fun y => List.lookup y [(S "self", Value.ref l.x)].reverse) (S "self") = some (.ref l.x) := by kernel_rfl
  revert F' hs
  generalize (fun y => List.lookup y [(S "self", Value.ref l.x)].reverse) = m1
  intro F' hs
  dsimp only [F729]
  refine wpAny_execs_cons (wpAny_Assign_Name ?_)
  walk1
  refine ld F' hs ?_
  refine method_inst F' X' (InstAt.of_news N' (.head _) (.tail _ (.head _))) (by kernel_rfl) (f := 693) (by kernel_rfl) (by kernel_rfl) (noget GG (fun l' e => by rw [lexEs, e]; kernel_rfl) (fun l' t a e => by rw [lexEs, e]; kernel_rfl)) ?_
  walk1
  refine t_get G' O GG F' N' hp hr fun h2 tk2 tst2 ttok2 tp2 p2 tr F2 N2 e1 e2 e3 => ?_
  refine stN F2 N2 fun h3 F3 N3 => ?_
  dsimp only
  have hs3 : (fun y => if y = Str.ofString "token" then some (tokV l q' tok' tr) else m1 y) (S "self") = some (.ref l.x) := (if_neg (by decide +kernel)).trans hs
  have hr3 : (fun y => if y = Str.ofString "token" then some (tokV l q' tok' tr) else m1 y) (S "token") = some (tokV l q' tok' tr) := if_pos rfl
  revert F3 hs3 hr3
  generalize (fun y => if y = Str.ofString "token" then some (tokV l q' tok' tr) else m1 y) = m3
  intro F3 hs3 hr3
  refine exs_cons (ex_ifF (I := AtM w.params g' L' ((l.io, instObj 597 x.dio) :: (x.dio, sioO w.params x tp2 p2) :: more) l m3 (stV s'.s tst2) (S "") ttok2) (ts_eof2 GG hb (evM_name hr3) (evM_attr X' hs3 (by kernel_rfl) (by kernel_rfl) (by kernel_rfl) GG.handed)) exs_nil) (exs_ret (evM_name hr3)) _ _ _ ⟨F3, N3⟩ fun h6 tk6 i6 => ?_
  dsimp only
  have ev : tokV l q' tok' tr = .str tok' tr := by unfold tokV; rw [hb, if_neg (by simp)]
  rw [ev]
  exact leaveK_ i6.1 i6.2 fun F5 N5 => h _ _ _ _ _ _ _ F5 N5 e1 e2 e3
theorem owit_stopR {M : Model} {A : Around} {E : Value → Shared → Prop} {s : Shared} {h₀ base g h : Heap} {l : List Env} {L L' e t : Addr} {m : Str → Option Value} {Q : Option Value → Shared → Prop} {vs : List Value} {news : List (Addr × Obj)} {X : String}
    (R : RaisedK base l e (.type X) t vs news s.heap) (FG : Fr h₀ L g m) (N : News g L' h news) (hsub : isSubtype (.type X) (.type "StopIteration") = pure true)
    (k : base.StaysIn s.heap → (∀ p ∈ news, s.heap.get? p.1 = some p.2 ∧ p.1 ≠ L ∧ h₀.get? p.1 = none) → Q none s) : OwitStop M A Q E (.ref e) s := by
  obtain ⟨⟨B, hB, hl, hfl, _⟩, _⟩ := R
  have hf' := flyingW_base hB hfl
  obtain ⟨ob, hob, hobc⟩ := hf'.there
  have hT : s.TypeIs (.ref e) X := (show ∃ o, s.heap.get? e = some o ∧ o.cls = .type X from ⟨ob, hob, hobc⟩)
  unfold OwitStop
  refine wpAny_isInstance hT hsub ?_
  show (if true = true then Q none s else E (.ref e) s)
  rw [if_pos rfl]
  obtain ⟨oL, _, _, hL, _⟩ := FG.ns
  refine k hf'.1 fun p hp => ⟨hfl.1 _ _ (hl p hp).1, fun q => ?_, ?_⟩
  · have := (N p hp).2.2; rw [q, hL] at this; cases this
  · cases q : h₀.get? p.1 with
    | none => rfl
    | some o => have := (N p hp).2.2; rw [FG.keep _ _ q] at this; cases this
theorem t_stop {Q2 : Option Value → Shared → Prop} {E2 : Value → Shared → Prop} {s s' : St} {tok' q' cs'} {tst ttok tp : Tok} (G : Cx w A₀ base h₀ outer mean mg mb cs dp un 18) (O : Sok w.params l x more) (GG : Gok w.params l more) (F : Fr h₀ L s₀.heap m) (N : News h₀ L s₀.heap (lexL w.params l x s tst ttok tp p more))
   (hp : p ≤ x.buf.length) (hr : lexGo l s (S "") false (x.buf.cps.toList.drop p) = some (s', tok', q', cs')) (hb : isEof l q' tok' = true)
   (h : ∀ h' tk tst' ttok' tp' p', base.StaysIn h' → h₀.UpToSlots h' → Fr (refresh h₀ h') L h' m → News (refresh h₀ h') L h' (lexL w.params l x s' tst' ttok' tp' p' more) → Q2 none { s₀ with heap := h', toks := tk }) :
   wpAny (model pw w) (aT dp un gd cn cs L a ccd outer) (call (.ref 729) [.ref l.x]) Q (OwitStop (model pw w) (aT dp un gd cn cs L a ccd outer) Q2 E2) s₀ := by
  obtain ⟨B, X, T, hk, room, hun⟩ := G
  have hfi := fill_it
  revert hfi
  k_fill
  intro hfi
  clear hfi
  refine wpAny_call ?_
  refine code_def (binds := [(S "self", .ref l.x)]) B F X N T rfl rfl hk (l729 _) (c729 _) (by dsimp only; omega) (BindsTo.of_eq rfl) (locs rfl) ?_ rfl rfl rfl (by decide)
  intro g' L' h' FG' F' N' B' X' T'
  show wpAny (model pw w) (aT (dp + 1) (un + 3) gd (S "shlex.__next__") F729.sc L' 729 (.ref 728) (envOf cn cs L a ccd :: outer)) (execs F729.b (envOf (S "shlex.__next__") F729.sc L' 729 (.ref 728))) _ _ _
  have G' : Cx w (aT dp un gd cn cs L a ccd outer) base g' (envOf cn cs L a ccd :: outer) mean mg mb F729.sc (dp + 1) (un + 3) 16 := ⟨B', X', T', rfl, by omega, by omega⟩
  have hs : (fun y => List.lookup y [(S "self", Value.ref l.x)].reverse) (S "self") = some (.ref l.x) := by kernel_rfl
  revert F' hs
  generalize (fun y => List.lookup y [(S "self", Value.ref l.x)].reverse) = m1
  intro F' hs
  dsimp only [F729]
  refine wpAny_execs_cons (wpAny_Assign_Name ?_)
  walk1
  refine ld F' hs ?_
  refine method_inst F' X' (InstAt.of_news N' (.head _) (.tail _ (.head _))) (by kernel_rfl) (f := 693) (by kernel_rfl) (by kernel_rfl) (noget GG (fun l' e => by rw [lexEs, e]; kernel_rfl) (fun l' t a e => by rw [lexEs, e]; kernel_rfl)) ?_
  walk1
  refine t_get G' O GG F' N' hp hr fun h2 tk2 tst2 ttok2 tp2 p2 tr F2 N2 e1 e2 e3 => ?_
  refine stN F2 N2 fun h3 F3 N3 => ?_
  dsimp only
  have hs3 : (fun y => if y = Str.ofString "token" then some (tokV l q' tok' tr) else m1 y) (S "self") = some (.ref l.x) := (if_neg (by decide +kernel)).trans hs
  have hr3 : (fun y => if y = Str.ofString "token" then some (tokV l q' tok' tr) else m1 y) (S "token") = some (tokV l q' tok' tr) := if_pos rfl
  revert F3 hs3 hr3
  generalize (fun y => if y = Str.ofString "token" then some (tokV l q' tok' tr) else m1 y) = m3
  intro F3 hs3 hr3
  refine wpAny_execs_cons (wpAny_If (ts_eof2 (m := m3) (stv := stV s'.s tst2) (ttok := ttok2) (rest := (l.io, instObj 597 x.dio) :: (x.dio, sioO w.params x tp2 p2) :: more) GG hb (evM_name hr3) (evM_attr X' hs3 (by kernel_rfl) (by kernel_rfl) (by kernel_rfl) GG.handed) _ _ _ ⟨F3, N3⟩ fun h4 tk4 i4 => ?_))
  rw [if_pos rfl]
  obtain ⟨F4, N4⟩ := i4
  k_steps
  rename RaisedK _ _ _ _ _ _ _ _ => rk
  rename Heap.UpToSlots _ _ => uu
  refine owit_stopR rk FG' N4 (hsub := by first | rfl | kernel_rfl | decide) fun k1 n1 => ?_
  exact h _ _ _ _ _ _ k1 (Heap.UpToSlots.trans (Heap.UpToSlots.of_keeps FG'.keep) uu) (rf_fr FG' uu) (rf_news n1)
end
set_option maxRecDepth 100000
set_option maxHeartbeats 4000000
/-- the tokens that a lexer gives from a state and the rest of the text -/
inductive Toks (l : Lx) : St → List Nat → List Str → Prop
  | stop {s cs s' tok q cs'} : lexGo l s (S "") false cs = some (s', tok, q, cs') → isEof l q tok = true → Toks l s cs []
  | tok {s cs s' tok q cs' ts} : lexGo l s (S "") false cs = some (s', tok, q, cs') → isEof l q tok = false → Toks l s' cs' ts → Toks l s cs (tok :: ts)
theorem strsAre_push {vs : List Value} {as : List Str} (h : StrsAre vs as) {y : Str} (t : Tok) : StrsAre (vs ++ [.str y t]) (as ++ [y]) := by
  induction h with
  | nil => exact .cons _ _ .nil
  | cons y t _ ih => exact .cons _ _ ih
noncomputable abbrev lisO (items : Array Value) (c : Nat) : Obj := { cls := .type "list", dict := none, data := .seq items c, slots := #[] }
section
variable {w : World} {A₀ : Around} {base h₀ : Heap} {outer : List Env} {mean : ExcName → Option Value} {mg mb : Str → Option Value} {cn : Str} {cs : Scope} {L a : Addr} {ccd : Value} {dp un : Nat} {gd : Option (List Code)} {m : Str → Option Value} {more : List (Addr × Obj)}
  {l : Lx} {x : Sx}
theorem list_loop {D : Addr} {res : Value} {R : Result → Shared → Prop} {ts : List Str} {st : St} {rst : List Nat} (TT : Toks l st rst ts) : ∀ {p : Nat} {s₀ : Shared} {acc : Array Value} {c : Nat} {as : List Str} {tst ttok tp : Tok}
   (hrst : x.buf.cps.toList.drop p = rst) (hp : p ≤ x.buf.length)
   (G : Cx w A₀ base h₀ outer mean mg mb cs dp (un + 1) 18) (O : ∀ it c, Sok w.params l x ((D, lisO it c) :: more)) (GG : ∀ it c, Gok w.params l ((D, lisO it c) :: more)) (FF : Fr h₀ L s₀.heap m) (N : News h₀ L s₀.heap (lexL w.params l x st tst ttok tp p ((D, lisO acc c) :: more)))
   (hd : ∀ q ∈ more, q.1 ≠ D) (hd2 : l.x ≠ D ∧ l.dx ≠ D ∧ l.io ≠ D ∧ x.dio ≠ D) (ha : StrsAre acc.toList as) (hn : acc.size + ts.length ≤ 1000)
   (hR : ∀ h' tk tst ttok tp p' st' items c', base.StaysIn h' → h₀.UpToSlots h' → Fr (refresh h₀ h') L h' m → News (refresh h₀ h') L h' (lexL w.params l x st' tst ttok tp p' ((D, lisO items c') :: more)) → StrsAre items.toList (as ++ ts) → R (.ok (.ret res)) { s₀ with heap := h', toks := tk }),
   codeAny (model pw w) (aT dp un gd cn cs L a ccd outer) (.builtin "list.extend.loop" ⟨[.ref D, .ref l.x, res], []⟩) R s₀ := by
  induction TT with
  | stop h1 h2 =>
    intro p s₀ acc c as tst ttok tp hrst hp G O GG FF N hd hd2 ha hn hR
    subst hrst
    refine codeAny_builtin F.entry_extend_loop ?_
    rw [Around.under_plainId F.plain_extend_loop _]
    show wpAny _ (aT dp (un + 1) gd cn cs L a ccd outer) (pyNext (.ref l.x) >>= _) _ _ s₀
    refine wpAny_bind (owit_next (f := 729) (C := 732) FF G.X (InstAt.of_news N (.head _) (.tail _ (.head _))) (by kernel_rfl) (by kernel_rfl) (t_stop G (O _ _) (GG _ _) FF N hp h1 h2 fun h' tk tst' ttok' tp' p' k1 k2 F' N' => ?_))
    refine wpAny_pure (hR _ _ _ _ _ _ _ _ _ k1 k2 F' N' ?_)
    rw [List.append_nil]; exact ha
  | @tok st1 cs1 st2 tok1 q1 cs2 ts1 h1 h2 h3 ih =>
    intro p s₀ acc c as tst ttok tp hrst hp G O GG FF N hd hd2 ha hn hR
    subst hrst
    refine codeAny_builtin F.entry_extend_loop ?_
    rw [Around.under_plainId F.plain_extend_loop _]
    show wpAny _ (aT dp (un + 1) gd cn cs L a ccd outer) (pyNext (.ref l.x) >>= _) _ _ s₀
    refine wpAny_bind (owit_next (f := 729) (C := 732) FF G.X (InstAt.of_news N (.head _) (.tail _ (.head _))) (by kernel_rfl) (by kernel_rfl) (t_next G (O _ _) (GG _ _) FF N hp h1 h2 fun h' tk tst' ttok' tp' p' tr F' N' e1 e2 e3 => ?_))
    show wpAny _ (aT dp (un + 1) gd cn cs L a ccd outer) (updateSeq D (·.push (.str _ tr)) >>= _) _ _ _
    rw [List.length_cons] at hn
    have hD := N' (D, lisO acc c) (.tail _ (.tail _ (.tail _ (.tail _ (.head _)))))
    refine wpAny_bind ?_
    refine wpAny_updateSeq hD.1 rfl (wpAny_pure ⟨plainId_quiet F.plain_extend_loop _, ih (as := as ++ [tok1]) e1 e2 G O GG (F'.change (Heap.SameBut.update _ _ _) hD.2.1 hD.2.2) (news_set (pre := [(l.x, instObj 732 l.dx), (l.dx, _), (l.io, instObj 597 x.dio), (x.dio, _)]) N' ?_ hd (Heap.SameBut.update _ _ _) (Heap.get?_update_self _ hD.1 rfl)) hd hd2 ?_ ?_ fun h2 tk2 tst2 ttok2 tp2 p2 st2 items2 c2 k1 k2 F2 N2 hs => ?_⟩) ?_ ?_
    · intro q hq
      simp only [List.mem_cons, List.not_mem_nil, or_false] at hq
      rcases hq with rfl | rfl | rfl | rfl
      · exact hd2.1
      · exact hd2.2.1
      · exact hd2.2.2.1
      · exact hd2.2.2.2
    · show StrsAre (acc.push _).toList _
      rw [Array.toList_push]
      exact strsAre_push ha tr
    · show (acc.push _).size + _ ≤ 1000
      rw [Array.size_push]
      omega
    · refine hR _ _ _ _ _ _ _ _ _ k1 k2 F2 N2 ?_
      rw [List.append_assoc] at hs
      exact hs
    · show acc.size ≤ sizeLine
      exact Nat.le_trans (by omega) (show 1000 ≤ sizeLine by decide)
    · show (acc.push _).size ≤ sizeLine + 1
      rw [Array.size_push]
      exact Nat.le_trans (show acc.size + 1 ≤ 1000 by omega) (show 1000 ≤ sizeLine + 1 by decide)
end
set_option maxRecDepth 100000
set_option maxHeartbeats 4000000
section
variable {w : World} {A₀ : Around} {base h₀ : Heap} {outer : List Env} {mean : ExcName → Option Value} {mg mb : Str → Option Value} {cn : Str} {cs : Scope} {L a : Addr} {ccd : Value} {dp un : Nat} {gd : Option (List Code)} {m : Str → Option Value} {more : List (Addr × Obj)}
  {l : Lx} {x : Sx} {E : Value → Shared → Prop}
theorem rot5 {h₀ h : Heap} {L : Addr} {o a b c d : Addr × Obj} {m : List (Addr × Obj)} (N : News h₀ L h (o :: a :: b :: c :: d :: m)) : News h₀ L h (a :: b :: c :: d :: o :: m) := fun p hp => by
  simp only [List.mem_cons] at hp
  rcases hp with rfl | rfl | rfl | rfl | rfl | hp
  · exact N _ (.tail _ (.head _))
  · exact N _ (.tail _ (.tail _ (.head _)))
  · exact N _ (.tail _ (.tail _ (.tail _ (.head _))))
  · exact N _ (.tail _ (.tail _ (.tail _ (.tail _ (.head _)))))
  · exact N _ (.head _)
  · exact N _ (.tail _ (.tail _ (.tail _ (.tail _ (.tail _ hp)))))
theorem upd5 {h : Heap} {D : Addr} {it : Array Value} {c : Nat} {st tst ttok tp p} {f : Array Value → Array Value} (hd : ∀ q ∈ more, q.1 ≠ D) (hd2 : l.x ≠ D ∧ l.dx ≠ D ∧ l.io ≠ D ∧ x.dio ≠ D)
    (FF : Fr h₀ L h m) (N : News h₀ L h (lexL w.params l x st tst ttok tp p ((D, lisO it c) :: more))) :
    ∃ c', Fr h₀ L (h.update D (Obj.mapSeq f)) m ∧ News h₀ L (h.update D (Obj.mapSeq f)) (lexL w.params l x st tst ttok tp p ((D, lisO (f it) c') :: more)) := by
  have hD := N (D, lisO it c) (.tail _ (.tail _ (.tail _ (.tail _ (.head _)))))
  refine ⟨_, FF.change (Heap.SameBut.update _ _ _) hD.2.1 hD.2.2, news_set (pre := [(l.x, instObj 732 l.dx), (l.dx, _), (l.io, instObj 597 x.dio), (x.dio, _)]) N ?_ hd (Heap.SameBut.update _ _ _) (Heap.get?_update_self _ hD.1 rfl)⟩
  intro q hq
  simp only [List.mem_cons, List.not_mem_nil, or_false] at hq
  rcases hq with rfl | rfl | rfl | rfl
  · exact hd2.1
  · exact hd2.2.1
  · exact hd2.2.2.1
  · exact hd2.2.2.2
theorem t_iter {s₀ : Shared} {Q : Value → Shared → Prop} {news : List (Addr × Obj)} {v : Addr} (G : Cx w A₀ base h₀ outer mean mg mb cs dp un 4) (FF : Fr h₀ L s₀.heap m) (N : News h₀ L s₀.heap news)
   (h : ∀ h' tk, Fr h₀ L h' m → News h₀ L h' news → Q (.ref v) { s₀ with heap := h', toks := tk }) :
   wpAny (model pw w) (aT dp un gd cn cs L a ccd outer) (call (.ref 722) [.ref v]) Q E s₀ := by
  obtain ⟨B, X, T, hk, room, hun⟩ := G
  refine wpAny_call ?_
  refine code_def (binds := [(S "self", .ref v)]) B FF X N T rfl rfl hk (l722 _) (c722 _) (by dsimp only; omega) (BindsTo.of_eq rfl) (locs rfl) ?_ rfl rfl rfl (by decide)
  intro g' L' h' FG' F' N' B' X' T'
  dsimp only [F722]
  refine wpAny_execs_cons (wpAny_Return_some (ld F' (by kernel_rfl : _ = some (Value.ref v)) ?_))
  exact leaveK_ F' N' fun F5 N5 => h _ _ F5 N5
theorem call_list {s₀ : Shared} {ts : List Str} {st : St} {p : Nat} {tst ttok tp : Tok} {Q : Value → Shared → Prop} (TT : Toks l st (x.buf.cps.toList.drop p) ts) (hp : p ≤ x.buf.length)
   (G : Cx w A₀ base h₀ outer mean mg mb cs dp (un + 3) 18) (O : Sok w.params l x more) (GG : Gok w.params l more) (FF : Fr h₀ L s₀.heap m) (N : News h₀ L s₀.heap (lexL w.params l x st tst ttok tp p more)) (hn : ts.length ≤ 1000)
   (hR : ∀ D h' tk tst ttok tp p' st' items c', base.StaysIn h' → h₀.UpToSlots h' → Fr (refresh h₀ h') L h' m → News (refresh h₀ h') L h' (lexL w.params l x st' tst ttok tp p' ((D, lisO items c') :: more)) → StrsAre items.toList ts → Q (.ref D) { s₀ with heap := h', toks := tk }) :
   wpAny (model pw w) (aT dp un gd cn cs L a ccd outer) (call (.type "list") [.ref l.x]) Q E s₀ := by
  refine callType_codes (Q₁ := fun obj s₁ => obj = .ref s₀.heap.objs.size ∧ s₁ = { s₀ with heap := s₀.heap.push { cls := .type "list", data := .seq #[] } }) F.called_list (F.typeCall_list_1 _) F.entry_list_init
    (code_list_new _ ⟨rfl, rfl⟩) fun obj s₁ h₁ => ?_
  obtain ⟨rfl, rfl⟩ := h₁
  have hS : (s₀.heap.push { cls := .type "list", data := .seq #[] }).get? s₀.heap.objs.size = some { cls := .type "list", data := .seq #[] } := Heap.get?_push_size _ rfl
  refine ⟨⟨_, hS, rfl⟩, F.args_list_init_2 _ _, ?_⟩
  have F1 := FF.push ({ cls := .type "list", data := .seq #[] } : Obj)
  have N1 := rot5 (N.push FF ({ cls := .type "list", data := .seq #[] } : Obj))
  have lt : ∀ q ∈ lexL w.params l x st tst ttok tp p more, q.1 ≠ s₀.heap.objs.size := fun q hq => Nat.ne_of_lt (Heap.lt_size (N q hq).1)
  revert F1 N1 hS
  generalize s₀.heap.push { cls := .type "list", data := .seq #[] } = h1
  revert lt
  generalize s₀.heap.objs.size = D
  intro lt hS F1 N1
  have hd : ∀ q ∈ more, q.1 ≠ D := fun q hq => lt q (.tail _ (.tail _ (.tail _ (.tail _ hq))))
  have hd2 : l.x ≠ D ∧ l.dx ≠ D ∧ l.io ≠ D ∧ x.dio ≠ D := ⟨lt (l.x, _) (.head _), lt (l.dx, _) (.tail _ (.head _)), lt (l.io, _) (.tail _ (.tail _ (.head _))), lt (x.dio, _) (.tail _ (.tail _ (.tail _ (.head _))))⟩
  show wpAny _ (aT dp (un + 2) gd cn cs L a ccd outer) (do let old ← Builtin.List.listItems (.ref D); Builtin.List.listUpdate (.ref D) (fun _ => #[]); letGo old.toList.reverse; Builtin.List.listExtendWith (.ref D) (.ref l.x) .none) _ _ _
  refine wpAny_bind ?_
  unfold Builtin.List.listItems
  refine wpAny_bind (wpAny_seqItems hS rfl (wpAny_pure ?_))
  show wpAny _ (aT dp (un + 2) gd cn cs L a ccd outer) (updateSeq D (fun _ => #[]) >>= fun _ => letGo (#[] : Array Value).toList.reverse >>= fun _ => Builtin.List.listExtendWith (.ref D) (.ref l.x) .none) _ _ _
  refine wpAny_bind (wpAny_updateSeq hS rfl ?_)
  obtain ⟨c1, F2, N2⟩ := upd5 (f := fun _ => #[]) hd hd2 F1 N1
  refine wpAny_bind (wpAny_letGo ?_)
  revert F2 N2
  generalize h1.update D (Obj.mapSeq fun _ => #[]) = h2
  intro F2 N2
  have I2 : InstAt h2 l.x (instObj 732 l.dx) 732 (some _) := InstAt.of_news N2 (.head _) (.tail _ (.head _))
  unfold Builtin.List.listExtendWith
  refine wpAny_bind (I2.type.here ?_)
  have h1' : Builtin.List.listSameRef (.ref D) (.ref l.x) = false := by
    have := hd2.1
    simp [Builtin.List.listSameRef, Ne.symm this]
  have h2' : (Value.ref 732 == Value.type "list") = false := by decide
  have h3' : (Value.ref 732 == Value.type "tuple") = false := by decide
  simp only [h1', h2', h3', Bool.or_false, Bool.false_eq_true, if_false]
  refine wpAny_bind (owit_iter (f := 722) F2 G.X I2 (by kernel_rfl) (by kernel_rfl) ?_)
  have G4 : Cx w A₀ base h₀ outer mean mg mb cs dp (un + 2) 4 := ⟨G.B, G.X, G.T, G.hk, by have := G.room; omega, by have := G.un; omega⟩
  refine t_iter G4 F2 N2 fun h3 tk3 F3 N3 => ?_
  have I3 : InstAt h3 l.x (instObj 732 l.dx) 732 (some _) := InstAt.of_news N3 (.head _) (.tail _ (.head _))
  refine owit_it (g := .ref 729) F3 G.X I3 (by kernel_rfl) ?_
  refine wpAny_bind (wpAny_holding ?_)
  unfold Builtin.List.listLengthHint
  refine wpAny_bind (wpAny_bind (I3.type.here ((looks_findIn (G.X.keeps F3.keep) (show findIn (K w.params) (.ref 732) "__len__" = some none by kernel_rfl)).here ?_)))
  show wpAny _ (aT dp (un + 2) gd cn cs L a ccd outer) (specialOf (Value.ref l.x) (Str.ofString "__length_hint__") >>= _) _ _ _
  refine wpAny_bind (wpAny_bind (I3.type.here ((looks_findIn (G.X.keeps F3.keep) (show findIn (K w.params) (.ref 732) "__length_hint__" = some none by kernel_rfl)).here ?_)))
  refine wpAny_pure ?_
  show wpAny _ (aT dp (un + 2) gd cn cs L a ccd outer) (rule "list.extend.makes-room" >>= fun _ => Builtin.List.listTouch (.ref D) >>= fun _ =>
    again (.builtin "list.extend.loop" ⟨[.ref D, .ref l.x, .none], []⟩)) _ _ _
  refine wpAny_bind (wpAny_rule ?_)
  refine wpAny_bind ?_
  show wpAny _ (aT dp (un + 2) gd cn cs L a ccd outer) (updateSeq D (·.push .none) >>= fun _ => updateSeq D (·.pop)) _ _ _
  have hS3 := (N3 (D, lisO #[] c1) (.tail _ (.tail _ (.tail _ (.tail _ (.head _)))))).1
  refine wpAny_bind (wpAny_updateSeq hS3 rfl ?_)
  obtain ⟨c4, F4, N4⟩ := upd5 (f := (·.push .none)) hd hd2 F3 N3
  revert F4 N4
  generalize h3.update D (Obj.mapSeq (·.push .none)) = h4
  intro F4 N4
  have hS4 := (N4 (D, lisO (#[].push .none) c4) (.tail _ (.tail _ (.tail _ (.tail _ (.head _)))))).1
  refine wpAny_updateSeq (hz := by seq_fits) hS4 rfl ?_
  obtain ⟨c5, F5, N5⟩ := upd5 (f := (·.pop)) hd hd2 F4 N4
  revert F5 N5
  generalize h4.update D (Obj.mapSeq (·.pop)) = h5
  intro F5 N5
  have O' : ∀ it c, Sok w.params l x ((D, lisO it c) :: more) := fun it c => ⟨O.o1, O.n1, O.n2, O.n3, O.o3, fun q hq => by
      cases hq with
      | head => exact Ne.symm hd2.2.1
      | tail _ hq => exact O.m1 q hq, fun q hq => by
      cases hq with
      | head => exact Ne.symm hd2.2.2.2
      | tail _ hq => exact O.m2 q hq, O.t, O.b, O.pl, fun hn => by
      obtain ⟨t, a, e1, e2⟩ := O.pb hn
      exact ⟨t, a, e1, .tail _ e2⟩⟩
  have GG' : ∀ it c, Gok w.params l ((D, lisO it c) :: more) := fun it c => ⟨.tail _ GG.pb, .tail _ GG.fs, GG.e, GG.tl⟩
  have G2 : Cx w A₀ base h₀ outer mean mg mb cs dp (un + 1 + 1) 18 := ⟨G.B, G.X, G.T, G.hk, by have := G.room; omega, by have := G.un; omega⟩
  refine wpAny_pure ⟨plainId_quiet F.plain_extend_loop _, ?_⟩
  refine list_loop (un := un + 1) TT rfl hp G2 O' GG' F5 N5 hd hd2 (as := []) .nil (by show 0 + _ ≤ 1000; omega) fun h' tk tst ttok tp p' st' items c' k1 k2 F' N' hs => ?_
  exact ⟨rfl, hR _ _ _ _ _ _ _ _ _ _ k1 k2 F' N' hs⟩
end
set_option maxRecDepth 100000
set_option maxHeartbeats 4000000
section
variable {prog : Program} {w : World} {A A₀ : Around} {E : Value → Shared → Prop} {s : Shared} {K' : Frag} {h₀ base : Heap} {L : Addr} {m : Str → Option Value} {news : List (Addr × Obj)} {p : Program} {loose : List Str} {mean : ExcName → Option Value} {mg mb : Str → Option Value}
/-- the call of a plain function, where the ground may be refreshed behind it: what the caller gets back is for the caller to say -/
theorem code_raw {env : Env} {outer : List Env} {R : Result → Shared → Prop} {name qual : Str} {params : Arguments} {body : List Stmt} {scope : Scope} {dV kV doc pm cdv ct oc : Value} {an od : Option Addr} {osl : Array (Option Value)} {f : Addr} {args : Args} {binds : List (Str × Value)}
    (B : Below A₀ base outer h₀) (FF : Fr h₀ L s.heap m) (X₀ : K'.In h₀) (N : News h₀ L s.heap news) (T : Top p loose mean mg mb h₀) (hA : A.frames = some (env :: outer)) (hf : env.frame = some L) (hke : env.scope.kind = .function)
    (ho : K'.lookup f = some ⟨oc, od, .func (fnOf name qual params body scope dV kV doc pm an cdv ct), osl⟩) (hcd : codeIn K' cdv qual = true) (hroom : A.depth < recursionLimit)
    (hbind : BindsTo s (fnOf name qual params body scope dV kV doc pm an cdv ct) args binds) (hloc : ∀ y ∈ binds, scope.names.lookup y.1 = some .local)
    (h : ∀ g L' h₁, Fr h₀ L g m → Fr g L' h₁ (fun y => binds.reverse.lookup y) → News g L' h₁ news → Below A base (env :: outer) g → K'.In g → Top p loose mean mg mb g → h₀.StaysIn g →
      wpAny (model prog w) (A.deeper (envOf qual scope L' f cdv)) (execs body (envOf qual scope L' f cdv))
        (fun fl s' => R (.ok (.ret (match fl with | .ret v => v | _ => .none))) s')
        (fun e s' => wpAny (model prog w) (A.deeper (envOf qual scope L' f cdv)) (leaving (envOf qual scope L' f cdv) e) (fun _ s'' => R (.error e) s'') (fun e' s'' => R (.error e') s'') s')
        { s with heap := h₁, toks := s.toks + binds.length })
    (hco : scope.isCoroutine = false) (hgen : scope.isGenerator = false) (hk : scope.kind = .function)
    (hcell : ∀ x ∈ scope.names, x.2 ≠ .cell) : codeAny (model prog w) A (.call (.ref f) args) R s := by
  obtain ⟨FG, BG, st, lv⟩ := groundX (R := R) B FF N hA hf hke
  refine codeAny_call_def (fd := fnX name qual params body scope [] dV kV doc pm an cdv ct) (body := body) (binds := binds) hroom ((X₀.keeps FF.keep) _ _ ho) rfl (T.nolimit.keeps FF.keep) (codeRec_of (X₀.keeps FF.keep) hcd) rfl hbind hcell hloc (fun h₁ hns hk₁ => ?_) hco hgen hk
  exact h _ s.heap.objs.size h₁ FG ⟨hns, fun b o e => hk₁ b o (of_hideAll _ e), Nat.le_of_eq (hideAll_size _ _)⟩
    (fun p hp => ⟨hk₁ _ _ (N p hp).1, Nat.ne_of_lt (Heap.lt_size (N p hp).1), hideAll_none _ (List.mem_map_of_mem hp)⟩) BG (X₀.keeps st) (T.keeps st) st
/-- the caller's ground behind such a call -/
theorem rf_back {g g₂ h h' : Heap} {L' : Addr} {m' : Str → Option Value} {news' : List (Addr × Obj)} {outer : List Env} (B : Below A₀ base outer h₀) (FG : Fr h₀ L g m) (st : h₀.StaysIn g) (kb : base.StaysIn h') (u : g.UpToSlots h')
    (N : News (refresh g h') L' h' news') :
    Fr (refresh h₀ h') L h' m ∧ News (refresh h₀ h') L h' news' ∧ Below A₀ base outer (refresh h₀ h') ∧ h₀.UpToSlots h' := by
  have u0 : h₀.UpToSlots h' := Heap.UpToSlots.trans (Heap.UpToSlots.of_keeps st) u
  obtain ⟨oL, es, ep, hL, hLd, hrest⟩ := id FG.ns
  refine ⟨rf_fr FG u, rf_news fun q hq => ⟨(N q hq).1, fun e => ?_, ?_⟩, rf_below B kb u0, u0⟩
  · have h1 := (N q hq).2.2
    obtain ⟨sl, h2⟩ := u L oL hL (by intro vs hc; rw [hLd] at hc; cases hc)
    rw [e, rf_some hL h2] at h1
    cases h1
  · cases e : h₀.get? q.1 with
    | none => rfl
    | some o =>
      have h1 := (N q hq).2.2
      rw [rf_some (st _ _ e) (N q hq).1] at h1
      cases h1
theorem rf_trans {g h₁ h₂ : Heap} (u : g.UpToSlots h₁) (v : (refresh g h₁).UpToSlots h₂) : g.UpToSlots h₂ := fun b o e hn => by
  obtain ⟨sl, e1⟩ := u b o e hn
  obtain ⟨sl2, e2⟩ := v b _ (rf_some e e1) hn
  exact ⟨sl2, e2⟩
end
set_option maxRecDepth 100000
set_option maxHeartbeats 4000000
theorem mro_object : mroOf (.type "object") = pure [.type "object"] := by rw [mroOf_type]; kernel_rfl
theorem lookup_object_new : typeLookup (.type "object") "__new__" = pure (some (.builtin "object.__new__")) := by rw [typeLookup_type, builtinLookup_eq_fast]; kernel_rfl
theorem made_object : Bind.madeBy (.type "object") = pure (some "object.__new__") := madeBy_type mro_object lookup_object_new (by decide +kernel)
/-- a class whose __new__ is its own, on the ground of object -/
structure MakesN (M : Model) (h : Heap) (C : Addr) : Prop where
  obj : ∃ oc od cd sl, h.get? C = some ⟨oc, od, .cls cd, sl⟩ ∧ cd.abstract = false ∧ cd.hasDel = false ∧ cd.mro.isEmpty = false
  made : Looks M h (Bind.madeBy (.ref C)) none
  base : Looks M h (Bind.staticBase (.ref C)) (.type "object")
  self : Looks M h (isSubtype (.ref C) (.ref C)) true
  top : Looks M h (isSubtype (.ref C) (.type "object")) true
  call : Looks M h (specialOf (.ref C) "__call__") (some (.builtin "type.__call__"))
  typ : Looks M h (isInstance (.ref C) (.type "type")) true
section
variable {prog : Program} {w : World} {A : Around} {C : Addr} {R : Result → Shared → Prop} {h : Heap} {g : Array GenState} {d : Drawn} {t : Nat} {os : OsState}
theorem new_N (Y : MakesN (model prog w) h C)
    (hq : R (.ok (.ret (.ref (h.objs.size + 1)))) ⟨(h.push emptyDict).push (instObj C h.objs.size), g, d, t, os⟩) :
    codeAny (model prog w) A (.call (.builtin "object.__new__") ⟨[.ref C], []⟩) R ⟨h, g, d, t, os⟩ := by
  obtain ⟨⟨oc, od, cd, sl, hC, e1, e2, e4⟩, made, base, self, top, call, typ⟩ := Y
  have F := PySem.F.objNew
  have mo : Looks (model prog w) h (Bind.madeBy (.type "object")) (some "object.__new__") := Looks.of_pure made_object
  refine codeAny_call_builtin_code (Code.quiet_builtin _ F.quiet) ?_
  simp only [checkBuiltinCall, F.kind, F.split, F.row]
  have here : Looks (model prog w) h (Bind.madeHere "object.__new__" (.ref C)) () := base.andThen ((Looks.of_pure made_object).andThen (Looks.of_pure (by simp only [Option.map_some, bne_self_eq_false, Bool.false_eq_true, if_false])))
  have args : Bind.checkArgs "object.__new__" ⟨.hand, "object.__new__", "__new__", .cls, []⟩ ⟨[.ref C], []⟩ = pure () := by kernel_rfl
  rw [args]
  repeat (first | simp only [bne_self_eq_false, Bool.false_eq_true, if_false] | lk)
  refine codeAny_builtin F.entry ?_
  unfold Builtin.«object.__new__»
  have hC' := Heap.get?_push_of_some (instObj C (h.push emptyDict).objs.size.pred) (Heap.get?_push_of_some emptyDict hC)
  have fin : ∀ A', wpAny (model prog w) A' (do
      let d ← if typeHasDict (.ref C) then some <$> alloc { cls := .type "dict", data := .dict #[] } else pure none
      ret (← newObj (.ref C) .plain d)) (fun fin s' => match fin with | .done f => R (.ok f) s' | .again c' => c'.quiet = true ∧ codeAny (model prog w) A c' R s') (fun e s' => R (.error e) s') ⟨h, g, d, t, os⟩ := by
    intro A'
    show wpAny _ _ ((alloc emptyDict >>= fun x => pure (some x)) >>= _) _ _ _
    refine wpAny_bind (wpAny_bind (wpAny_alloc (wpAny_pure (wpAny_bind ?_))))
    show wpAny _ _ (newObjAsIs _ _ _) _ _ _
    unfold newObjAsIs classHasDel
    refine wpAny_bind (wpAny_alloc (wpAny_bind (wpAny_bind (wpAny_load (Heap.get?_push_of_some _ (Heap.get?_push_of_some _ hC)) (wpAny_pure ?_)))))
    rw [e2]
    refine wpAny_pure (wpAny_pure ?_)
    show R _ _
    rw [Heap.size_push]
    exact hq
  repeat (first | simp only [e1, Bool.false_eq_true, if_false] | exact fin _ | lk)
end
set_option maxRecDepth 100000
set_option maxHeartbeats 4000000
theorem made597 {prog : Program} {w : World} {h : Heap} (X : (K w.params).In h) : Looks (model prog w) h (Bind.madeBy (.ref 597)) none := Looks.of_peek X (by kernel_rfl)
theorem made120 {prog : Program} {w : World} {h : Heap} (X : (K w.params).In h) : Looks (model prog w) h (Bind.madeBy (.ref 120)) none := Looks.of_peek X (by kernel_rfl)
theorem made93 {prog : Program} {w : World} {h : Heap} (X : (K w.params).In h) : Looks (model prog w) h (Bind.madeBy (.ref 93)) none := Looks.of_peek X (by kernel_rfl)
theorem best_one {M : Model} {h : Heap} {b s : Value} (x : Looks M h (Builtin.Slots.solid b) s) : Looks M h (Builtin.Slots.bestBase [b]) b := by
  intro A Q E st k q
  unfold Builtin.Slots.bestBase
  refine wpAny_bind ?_
  rw [List.forIn_cons]
  refine wpAny_bind (wpAny_bind (x A _ E st k (wpAny_pure ?_)))
  dsimp only
  rw [List.forIn_nil]
  exact wpAny_pure (wpAny_pure q)
theorem solid_obj {M : Model} {h : Heap} : ∃ s, Looks M h (Builtin.Slots.solid (.type "object")) s := ⟨.type "object", Looks.of_pure (by
  unfold Builtin.Slots.solid
  rw [mro_object]
  kernel_rfl)⟩
theorem solid93 {prog : Program} {w : World} {h : Heap} (X : (K w.params).In h) : Looks (model prog w) h (Builtin.Slots.solid (.ref 93)) (.type "object") := Looks.of_peek X (by kernel_rfl)
theorem solid120 {prog : Program} {w : World} {h : Heap} (X : (K w.params).In h) : Looks (model prog w) h (Builtin.Slots.solid (.ref 120)) (.type "object") := Looks.of_peek X (by kernel_rfl)
set_option maxRecDepth 100000
set_option maxHeartbeats 4000000
theorem base597 {prog : Program} {w : World} {h : Heap} (X : (K w.params).In h) : Looks (model prog w) h (Bind.staticBase (.ref 597)) (.type "object") := by
  have hm : Looks (model prog w) h (mroOf (.ref 597)) [.ref 597, .ref 120, .ref 93, .type "object"] := Looks.of_peek X (by kernel_rfl)
  obtain ⟨dc1, ec1, bc1⟩ := Option.map_eq_some_iff.mp (by kernel_rfl : (clsIn (K w.params) 597).map (·.bases) = some [.ref 120])
  have c1 := looks_clsIn (M := model prog w) X ec1
  obtain ⟨dc2, ec2, bc2⟩ := Option.map_eq_some_iff.mp (by kernel_rfl : (clsIn (K w.params) 120).map (·.bases) = some [.ref 93])
  have c2 := looks_clsIn (M := model prog w) X ec2
  obtain ⟨dc3, ec3, bc3⟩ := Option.map_eq_some_iff.mp (by kernel_rfl : (clsIn (K w.params) 93).map (·.bases) = some [.type "object"])
  have c3 := looks_clsIn (M := model prog w) X ec3
  obtain ⟨so, hso⟩ := solid_obj (M := model prog w) (h := h)
  intro A Q E s k q
  unfold Bind.staticBase
  refine wpAny_bind (hm A _ E s k ?_)
  simp only [List.forIn_cons, List.forIn_nil]
  refine wpAny_bind (wpAny_bind (wpAny_bind (made597 X A _ E s k ?_)))
  refine wpAny_bind (c1 A _ E s k (wpAny_bind ?_))
  rw [bc1]
  refine best_one (solid120 X) A _ E s k (wpAny_pure ?_)
  refine wpAny_bind (wpAny_bind (made120 X A _ E s k ?_))
  refine wpAny_bind (c2 A _ E s k (wpAny_bind ?_))
  rw [bc2]
  refine best_one (solid93 X) A _ E s k (wpAny_pure ?_)
  refine wpAny_bind (wpAny_bind (made93 X A _ E s k ?_))
  refine wpAny_bind (c3 A _ E s k (wpAny_bind ?_))
  rw [bc3]
  refine best_one hso A _ E s k (wpAny_pure ?_)
  dsimp only
  rw [made_object]
  exact wpAny_bind (wpAny_bind (wpAny_pure (wpAny_pure (wpAny_pure (wpAny_pure q)))))
theorem makes597 {prog : Program} {w : World} {h : Heap} (X : (K w.params).In h) : MakesN (model prog w) h 597 :=
  ⟨⟨_, _, _, _, X 597 _ (by kernel_rfl : _ = some (p597 w.params)), rfl, rfl, rfl⟩, made597 X, base597 X, looks_subIn X (by kernel_rfl), looks_subIn X (by kernel_rfl), looks_specialIn X (by kernel_rfl), looks_instIn X (by kernel_rfl)⟩
section
variable {w : World} {A₀ : Around} {base h₀ : Heap} {outer : List Env} {mean : ExcName → Option Value} {mg mb : Str → Option Value} {cn : Str} {cs : Scope} {L a : Addr} {ccd : Value} {dp un : Nat} {gd : Option (List Code)} {m : Str → Option Value} {rest : List (Addr × Obj)} {s : Shared} {Q E' : Value → Shared → Prop}
/-- IOBase.__new__ for StringIO -/
theorem t_new90 {v : Value} (G : Cx w A₀ base h₀ outer mean mg mb cs dp un 4) (F : Fr h₀ L s.heap m) (N : News h₀ L s.heap rest)
   (h : ∀ x dx h' tk, (∀ q ∈ rest, q.1 < dx) → @LT.lt Nat _ dx x → Fr h₀ L h' m → News h₀ L h' ((x, instObj 597 dx) :: (dx, emptyDict) :: rest) → Q (.ref x) { s with heap := h', toks := tk }) :
   wpAny (model pw w) (aT dp un gd cn cs L a ccd outer) (call (.ref 90) [.ref 597, v]) Q E' s := by
  obtain ⟨B, X, T, hk, room, hun⟩ := G
  have hfi := fill_it
  revert hfi
  k_fill
  intro hfi
  clear hfi
  refine wpAny_call ?_
  refine kpc_both (cl := []) (vs := [v]) (ex := []) (front := [(S "cls", .ref 597)]) (nr := S "args") (nm := S "kwargs") (DD := []) B F X N T rfl rfl hk (l90 _) (c90 _) (by dsimp only; omega) rfl rfl rfl rfl rfl .nil rfl rfl (fun _ => rfl) (fun _ _ => rfl) (fun _ _ => locs rfl) ?_ rfl rfl rfl (by decide)
  intro C D o g' L' h' tk l1 l2 l3 l4 l5 FG' F' N' B' X' T'
  dsimp only [F90]
  k_steps
  refine wpAny_call (new_N (makes597 (X'.keeps F'.keep)) ?_)
  have F3 := (F'.push emptyDict).push (instObj 597 h'.objs.size)
  have N3 := (N'.push F' emptyDict).push (F'.push _) (instObj 597 h'.objs.size)
  rw [Heap.size_push] at N3
  refine leaveK_ F3 N3 fun F5 N5 => h _ _ _ _ (fun q hq => Heap.lt_size (N' q (.tail _ (.tail _ hq))).1) (Nat.lt_succ_self _) F5 (fun q hq => N5 q ?_)
  cases hq with
  | head => exact .head _
  | tail _ hq => cases hq with
    | head => exact .tail _ (.head _)
    | tail _ hq => exact .tail _ (.tail _ (.tail _ (.tail _ hq)))
theorem t_init367 {x dx : Addr} {buf : Str} {tb : Tok} (G : Cx w A₀ base h₀ outer mean mg mb cs dp un 6) (F : Fr h₀ L s.heap m) (N : News h₀ L s.heap ((x, instObj 597 dx) :: (dx, emptyDict) :: rest)) (l1 : ∀ q ∈ rest, q.1 < dx) (l2 : @LT.lt Nat _ dx x)
   (h : ∀ h' tk t1 t2 t3 tb' t4 tp, Fr h₀ L h' m → News h₀ L h' ((x, instObj 597 dx) :: (dx, dictOf (sioEs w.params t1 t2 t3 tb' t4 tp buf 0) 3) :: rest) → Q .none { s with heap := h', toks := tk }) :
   wpAny (model pw w) (aT dp un gd cn cs L a ccd outer) (call (.ref 367) [.ref x, .str buf tb]) Q E' s := by
  obtain ⟨B, X, T, hk, room, hun⟩ := G
  have hfi := fill_it
  revert hfi
  k_fill
  intro hfi
  clear hfi
  refine wpAny_call ?_
  refine code_def (binds := [(S "self", .ref x), (S "initial_value", .str buf tb), (S "newline", .str (S "\n") _)]) B F X N T rfl rfl hk (l367 _) (c367 _) (by dsimp only; omega) (binds_K (X.keeps F.keep) rfl (by k_is) rfl rfl rfl) (locs rfl) ?_ rfl rfl rfl (by decide)
  intro g' L' h' FG' F' N' B' X' T'
  dsimp only [F367]
  k_steps
  exact h _ _ _ _ _ _ _ _ (by assumption) (by assumption)
theorem looks_self597 {h : Heap} (X : (K w.params).In h) : Looks (model pw w) h (isSubtype (.ref 597) (.ref 597)) true := looks_subIn X (by kernel_rfl)
theorem under_make (C : Addr) (vs : List Value) (kw : List (Str × Value)) : (aT dp un gd cn cs L a ccd outer).under (.builtin "type.__call__" ⟨.ref C :: vs, kw⟩) = aT (dp + 1) (un + 1) gd cn cs L a ccd outer := by
  unfold aT Around.under
  cases gd <;> rfl
/-- StringIO(text) -/
theorem t_sio {buf : Str} {tb : Tok} (G : Cx w A₀ base h₀ outer mean mg mb cs dp un 10) (F : Fr h₀ L s.heap m) (N : News h₀ L s.heap rest)
   (h : ∀ x dx h' tk t1 t2 t3 tb' t4 tp, (∀ q ∈ rest, q.1 < dx) → @LT.lt Nat _ dx x → Fr h₀ L h' m → News h₀ L h' ((x, instObj 597 dx) :: (dx, dictOf (sioEs w.params t1 t2 t3 tb' t4 tp buf 0) 3) :: rest) → Q (.ref x) { s with heap := h', toks := tk }) :
   wpAny (model pw w) (aT dp un gd cn cs L a ccd outer) (call (.ref 597) [.str buf tb]) Q E' s := by
  have X₁ := G.X.keeps F.keep
  obtain ⟨⟨oc, od, cd, sl, hC, e1, e2, e4⟩, made, base', self, top, call, typ⟩ := makes597 (prog := pw) X₁
  refine wpAny_call (codeAny_of_tree ?_)
  show wpAny _ _ (callAny (.ref 597) _) _ _ _
  refine nd_load hC ?_
  show wpAny _ _ (callAny.viaDunder (.ref 597) _) _ _ _
  unfold callAny.viaDunder
  refine wpAny_bind (call.here ?_)
  dsimp only
  rw [tc_bind]
  refine wpAny_bind (wpAny_pure (wpAny_bind (wpAny_pure ?_)))
  refine wpAny_pure (a := Fin.again (.call (.builtin "type.__call__") ⟨.ref 597 :: [.str buf tb], []⟩)) (And.intro rfl ?_)
  refine codeAny_call_builtin_at (Code.quiet_builtin _ (by decide +kernel)) entry_typeCall (check_slot tc_kind tc_split typ (tc_args _ _ _) ?_)
  unfold Builtin.«type.__call__»
  have hm : Looks (model pw w) s.heap (mroOf (.ref 597)) cd.mro := ((Looks.ld (part := none) hC).andThen .now).andThen .now
  rw [under_make]
  dsimp only
  refine wpAny_bind (hm.here ?_)
  rw [e4]
  refine wpAny_bind (made.here ?_)
  dsimp only
  have G1 : Cx w A₀ base h₀ outer mean mg mb cs (dp + 1) (un + 1) 8 := ⟨G.B, G.X, G.T, G.hk, by have := G.room; omega, by have := G.un; omega⟩
  refine wpAny_bind (cls_sm (rest := []) (p := 94) (f := .ref 90) (mc := .type "type") F G.X (by kernel_rfl) (by kernel_rfl) (by kernel_rfl) (by kernel_rfl) rfl ?_)
  refine wpAny_bind (wpAny_holding ?_)
  have G2 : Cx w A₀ base h₀ outer mean mg mb cs (dp + 1) (un + 1) 4 := ⟨G.B, G.X, G.T, G.hk, by have := G.room; omega, by have := G.un; omega⟩
  have G3 : Cx w A₀ base h₀ outer mean mg mb cs (dp + 1) (un + 1) 6 := ⟨G.B, G.X, G.T, G.hk, by have := G.room; omega, by have := G.un; omega⟩
  refine t_new90 (s := { s with toks := s.toks + 1 }) G2 F N fun x dx h2 tk2 l1 l2 F2 N2 => ?_
  have I2 : InstAt h2 x (instObj 597 dx) 597 (some _) := InstAt.of_news N2 (.head _) (.tail _ (.head _))
  refine wpAny_bind (wpAny_bind (I2.type.here ((looks_self597 (G.X.keeps F2.keep)).here ?_)))
  rw [if_neg (by decide)]
  refine wpAny_bind (wpAny_holding (special_fn (K := K w.params) (f := 367) (G.X.keeps F2.keep) I2 (by kernel_rfl) (by kernel_rfl) ?_))
  refine t_init367 (s := { s with heap := h2, toks := tk2 }) G3 F2 N2 l1 l2 fun h3 tk3 t1 t2 t3 tb' t4 tp F3 N3 => ?_
  dsimp only
  exact wpAny_pure (h _ _ _ _ _ _ _ _ _ _ l1 l2 F3 N3)
end
set_option maxRecDepth 100000
set_option maxHeartbeats 4000000
namespace DQ
theorem mro_dq : mroOf (.type "collections.deque") = pure [.type "collections.deque", .type "object"] := by rw [mroOf_type]; kernel_rfl
theorem lookup_dq_new : typeLookup (.type "collections.deque") "__new__" = pure (some (.builtin "collections.deque.__new__")) := by rw [typeLookup_type, builtinLookup_eq_fast]; kernel_rfl
theorem slot_dq_init : Slot "collections.deque" "__init__" "collections.deque.__init__" :=
  .of (owner := "collections.deque") (n := "__init__") (by rw [typeLookup_type, builtinLookup_eq_fast]; kernel_rfl) (by decide +kernel) (by decide +kernel) (by decide +kernel)
    (by first | exact .inl (by decide +kernel) | exact .inr (by decide +kernel)) (by rw [isSubtype_type]; kernel_rfl)
theorem called_dq : TypeCalled "collections.deque" "collections.deque.__new__" "collections.deque.__init__" :=
  ⟨by decide +kernel, by decide +kernel, ⟨_, _, mro_dq⟩, madeBy_type mro_dq lookup_dq_new (by decide +kernel), by decide +kernel, by rw [isSubtype_type]; kernel_rfl, slot_dq_init⟩
theorem typeCall_dq : checkTypeCall "collections.deque" ⟨[], []⟩ = pure () := by kernel_rfl
theorem newCall_dq : checkBuiltinCall "collections.deque.__new__" ⟨[.type "collections.deque"], []⟩ = pure () := by kernel_rfl
theorem entry_dq_new : entryFor table "collections.deque.__new__" = some Builtin.«collections.deque.__new__» := entryFor_of_fast (by kernel_rfl)
theorem entry_dq_init : entryFor table "collections.deque.__init__" = some Builtin.«collections.deque.__init__» := entryFor_of_fast (by kernel_rfl)
theorem plain_dq_new : plainId "collections.deque.__new__" = true := by decide +kernel
theorem args_dq_init (a : Value) : argsOk "collections.deque.__init__" ⟨[a], []⟩ := by unfold argsOk; kernel_rfl
theorem sub_dq_self : isSubtype (.type "collections.deque") (.type "collections.deque") = pure true := by rw [isSubtype_type]; kernel_rfl
end DQ
section
variable {prog : Program} {w : World} {A : Around} {E : Value → Shared → Prop} {s : Shared}
theorem code_dq_new {Q₁ : Value → Shared → Prop} (h : Q₁ (.ref s.heap.objs.size) { s with heap := s.heap.push dqO }) :
    codeAny (model prog w) A (.call (.builtin "collections.deque.__new__") ⟨[.type "collections.deque"], []⟩) (wants Q₁ E) s := by
  refine codeAny_of_tree ?_
  show wpAny _ A.in1 (do checkBuiltinCall "collections.deque.__new__" ⟨[.type "collections.deque"], []⟩; again (.builtin "collections.deque.__new__" ⟨[.type "collections.deque"], []⟩)) _ _ s
  refine wpAny_bind (wpAny_of_eq DQ.newCall_dq (wpAny_pure ⟨plainId_quiet DQ.plain_dq_new _, codeAny_builtin DQ.entry_dq_new ?_⟩))
  rw [Around.under_plainId DQ.plain_dq_new _]
  have hsub := DQ.sub_dq_self
  unfold Builtin.«collections.deque.__new__» Builtin.Deque.newArgs Builtin.Deque.new Builtin.Deque.ty
  obtain ⟨hp, g, d, tk, os⟩ := s
  wp_walk
  exact h
theorem call_deque {h₀ : Heap} {L : Addr} {m : Str → Option Value} {rest : List (Addr × Obj)} {Q : Value → Shared → Prop} (F : Fr h₀ L s.heap m) (N : News h₀ L s.heap rest)
    (h : ∀ d h', (∀ q ∈ rest, q.1 < d) → Fr h₀ L h' m → News h₀ L h' ((d, dqO) :: rest) → Q (.ref d) { s with heap := h' }) : wpAny (model prog w) A (call (.type "collections.deque") []) Q E s := by
  refine callType_codes (Q₁ := fun obj s₁ => obj = .ref s.heap.objs.size ∧ s₁ = { s with heap := s.heap.push dqO }) DQ.called_dq DQ.typeCall_dq DQ.entry_dq_init (code_dq_new ⟨rfl, rfl⟩) fun obj s₁ h₁ => ?_
  obtain ⟨rfl, rfl⟩ := h₁
  have hS : (s.heap.push dqO).get? s.heap.objs.size = some dqO := Heap.get?_push_size _ rfl
  refine ⟨⟨_, hS, rfl⟩, DQ.args_dq_init _, ?_⟩
  have F1 := F.push dqO
  have N1 := N.push F dqO
  have key := h _ _ (fun q hq => Heap.lt_size (N q hq).1) F1 N1
  unfold Builtin.«collections.deque.__init__»
  wp_walk
  refine ⟨rfl, h _ _ (fun q hq => Heap.lt_size (N q hq).1) (F1.change (Heap.SameBut.update _ _ _) (N1 _ (.head _)).2.1 (N1 _ (.head _)).2.2) (news_set (pre := []) N1 (fun q hq => nomatch hq) (fun q hq => Nat.ne_of_lt (Heap.lt_size (N q hq).1)) (Heap.SameBut.update _ _ _) (Heap.get?_update_self _ hS rfl))⟩
end
set_option maxRecDepth 100000
set_option maxHeartbeats 4000000
structure InitLit (l : List Stmt) where
  a0 : Stmt
  a1 : Stmt
  a2 : Stmt
  a3 : Stmt
  a4 : Stmt
  a5 : Stmt
  a6 : Stmt
  a7 : Stmt
  a8 : Stmt
  a9 : Stmt
  a10 : Stmt
  a11 : Stmt
  a12 : Stmt
  a13 : Stmt
  a14 : Stmt
  a15 : Stmt
  a16 : Stmt
  a17 : Stmt
  a18 : Stmt
  a19 : Stmt
  a20 : Stmt
  a21 : Stmt
  ok : l = [a0, a1, a2, a3, a4, a5, a6, a7, a8, a9, a10, a11, a12, a13, a14, a15, a16, a17, a18, a19, a20, a21]
@[reducible] noncomputable def I6 : InitLit F656.b := ⟨_, _, _, _, _, _, _, _, _, _, _, _, _, _, _, _, _, _, _, _, _, _, rfl⟩
noncomputable def wc0 : Str := S "abcdfeghijklmnopqrstuvwxyzABCDEFGHIJKLMNOPQRSTUVWXYZ0123456789_"
noncomputable def wcA : Str := S "ßàáâãäåæçèéêëìíîïðñòóôõöøùúûüýþÿÀÁÂÃÄÅÆÇÈÉÊËÌÍÎÏÐÑÒÓÔÕÖØÙÚÛÜÝÞ"
noncomputable def wcOf (px : Bool) : Str := if px then wc0 ++ wcA else wc0
noncomputable abbrev mI (x io : Addr) (px : Bool) (pcv : Value) (buf : Str) (tb : Tok) : Str → Option Value := fun y => if y = S "instream" then some (.ref io) else List.lookup y [(S "self", .ref x), (S "instream", .str buf tb), (S "infile", .none), (S "posix", .bool px), (S "punctuation_chars", pcv)].reverse
noncomputable abbrev envI (L : Addr) : Env := envOf (S "shlex.__init__") F656.sc L 656 (.ref 655)
noncomputable abbrev A6 (dp un : Nat) (gd : Option (List Code)) (L : Addr) (outer : List Env) : Around := aT dp un gd (S "shlex.__init__") F656.sc L 656 (.ref 655) outer
section
variable {w : World} {A₀ : Around} {base h₀ : Heap} {outer : List Env} {mean : ExcName → Option Value} {mg mb : Str → Option Value} {cn : Str} {cs : Scope} {L a : Addr} {ccd : Value} {dp un : Nat} {gd : Option (List Code)} {m : Str → Option Value} {rest : List (Addr × Obj)} {s : Shared} {Q : Flow → Shared → Prop} {E' : Value → Shared → Prop}
theorem if_eof {px : Bool} {buf : Str} {tb : Tok} {x io : Addr} {pcv : Value} (X : (K w.params).In h₀) (F : Fr h₀ L s.heap (mI x io px pcv buf tb))
   (h : ∀ v tk, (if px = true then v = .none else ∃ t, v = .str (S "") t) → wpAny (model pw w) (A6 dp un gd L outer) (setAttr (.ref x) (S "eof") v) (fun _ s' => Q .next s') E' { s with toks := tk }) :
   wpAny (model pw w) (A6 dp un gd L outer) (exec I6.a3 (envI L)) Q E' s := by
  dsimp only [I6, F656]
  cases px
  · k_steps
    exact wpAny_mono (h _ _ ⟨_, rfl⟩) (fun _ s' q => wpAny_execs_nil q) (fun _ _ e => e)
  · k_steps
    exact wpAny_mono (h _ _ rfl) (fun _ s' q => wpAny_execs_nil q) (fun _ _ e => e)
theorem if_wc {px : Bool} {buf : Str} {tb : Tok} {x d io dio : Addr} {pcv eofv : Value} {k0 k1 k2 k3 k4 k5 v4 v5 : Tok} {o : Obj} (X : (K w.params).In h₀) (F : Fr h₀ L s.heap (mI x io px pcv buf tb)) (he : if px = true then eofv = .none else ∃ t, eofv = .str (S "") t)
   (N : News h₀ L s.heap ((io, instObj 597 dio) :: (dio, o) :: (x, instObj 732 d) :: (d, dictOf [E w.params "instream" k0 (.ref io), E w.params "infile" k1 .none, E w.params "posix" k2 (.bool px), E w.params "eof" k3 eofv, E w.params "commenters" k4 (.str (S "#") v4), E w.params "wordchars" k5 (.str wc0 v5)] 6) :: rest))
   (o1 : @LT.lt Nat _ d x) (o2 : @LT.lt Nat _ x dio) (o3 : @LT.lt Nat _ dio io) (hr : ∀ q ∈ rest, q.1 ≠ d)
   (h : ∀ h' tk v5', Fr h₀ L h' (mI x io px pcv buf tb) → News h₀ L h' ((io, instObj 597 dio) :: (dio, o) :: (x, instObj 732 d) :: (d, dictOf [E w.params "instream" k0 (.ref io), E w.params "infile" k1 .none, E w.params "posix" k2 (.bool px), E w.params "eof" k3 eofv, E w.params "commenters" k4 (.str (S "#") v4), E w.params "wordchars" k5 (.str (wcOf px) v5')] 6) :: rest) → Q .next { s with heap := h', toks := tk }) :
   wpAny (model pw w) (A6 dp un gd L outer) (exec I6.a6 (envI L)) Q E' s := by
  have hfi := fill_it
  revert hfi
  k_fill
  intro hfi
  clear hfi
  dsimp only [I6, F656]
  cases px
  · k_steps
    rename Fr _ _ _ _ => F5
    rename News _ _ _ _ => N5
    exact h _ _ _ F5 N5
  · k_steps
    rename Fr _ _ _ _ => F5
    rename News _ _ _ _ => N5
    exact h _ _ _ F5 N5
theorem init_head {px : Bool} {x d : Addr} {pcv : Value} {buf : Str} {tb : Tok} {tl : List Stmt} (G : Cx w A₀ base h₀ outer mean mg mb F656.sc dp un 12) (F : Fr h₀ L s.heap (fun y => List.lookup y [(S "self", Value.ref x), (S "instream", .str buf tb), (S "infile", .none), (S "posix", .bool px), (S "punctuation_chars", pcv)].reverse))
   (N : News h₀ L s.heap ((x, instObj 732 d) :: (d, dictOf [] 0) :: rest)) (l1 : ∀ p ∈ rest, p.1 < d) (l2 : d < x)
   (h : ∀ h' tk io dio pb fs eofv t1 t2 t3 tb' t4 tp k0 k1 k2 k3 k4 k5 k6 k7 k8 k9 k10 k11 k12 k13 k14 k15 k16 k17 v4 v5 v6 v8 v9 v10 v11 v13 v14 v15, @LT.lt Nat _ x dio → @LT.lt Nat _ dio io → @LT.lt Nat _ io pb → @LT.lt Nat _ pb fs → (if px = true then eofv = .none else ∃ t, eofv = .str (S "") t) →
     Fr h₀ L h' (mI x io px pcv buf tb) → News h₀ L h' ((fs, dqO) :: (pb, dqO) :: (io, instObj 597 dio) :: (dio, dictOf (sioEs w.params t1 t2 t3 tb' t4 tp buf 0) 3) :: (x, instObj 732 d) :: (d, dictOf [E w.params "instream" k0 (.ref io), E w.params "infile" k1 .none, E w.params "posix" k2 (.bool px), E w.params "eof" k3 eofv, E w.params "commenters" k4 (.str (S "#") v4), E w.params "wordchars" k5 (.str (wcOf px) v5),
        E w.params "whitespace" k6 (.str (S " \t\r\n") v6), E w.params "whitespace_split" k7 (.bool false), E w.params "quotes" k8 (.str (S "'\"") v8), E w.params "escape" k9 (.str (S "\\") v9), E w.params "escapedquotes" k10 (.str (S "\"") v10), E w.params "state" k11 (.str (S " ") v11), E w.params "pushback" k12 (.ref pb), E w.params "lineno" k13 (.int 1 v13), E w.params "debug" k14 (.int 0 v14), E w.params "token" k15 (.str (S "") v15), E w.params "filestack" k16 (.ref fs), E w.params "source" k17 .none] 18) :: rest) →
     wpAny (model pw w) (A6 dp un gd L outer) (execs tl (envI L)) Q E' { s with heap := h', toks := tk }) :
   wpAny (model pw w) (A6 dp un gd L outer) (execs (I6.a0 :: I6.a1 :: I6.a2 :: I6.a3 :: I6.a4 :: I6.a5 :: I6.a6 :: I6.a7 :: I6.a8 :: I6.a9 :: I6.a10 :: I6.a11 :: I6.a12 :: I6.a13 :: I6.a14 :: I6.a15 :: I6.a16 :: I6.a17 :: I6.a18 :: tl) (envI L)) Q E' s := by
  obtain ⟨B, X, T, hk, room, hun⟩ := id G
  have hfi := fill_it
  revert hfi
  k_fill
  intro hfi
  clear hfi
  generalize e1 : I6.a3 :: I6.a4 :: I6.a5 :: I6.a6 :: I6.a7 :: I6.a8 :: I6.a9 :: I6.a10 :: I6.a11 :: I6.a12 :: I6.a13 :: I6.a14 :: I6.a15 :: I6.a16 :: I6.a17 :: I6.a18 :: tl = tl1
  dsimp only [I6, F656]
  k_steps
  refine t_sio ⟨G.B, G.X, G.T, G.hk, by omega, by omega⟩ (by assumption) (by assumption) fun io dio h3 tk3 t1 t2 t3 tb' t4 tp l3 l4 F3 N3 => ?_
  have o1 : @LT.lt Nat _ d x := l2
  have o2 : @LT.lt Nat _ x dio := l3 (x, _) (.head _)
  have o3 : @LT.lt Nat _ dio io := l4
  have hr : ∀ q ∈ rest, q.1 ≠ d := fun q hq => Nat.ne_of_lt (l1 q hq)
  k_steps
  subst e1
  rename Fr _ _ _ _ => F5
  have F5' : Fr h₀ L _ (mI x io px pcv buf tb) := F5
  clear F5
  refine wpAny_execs_cons (if_eof X F5' fun eofv tk4 he => ?_)
  generalize e2 : I6.a6 :: I6.a7 :: I6.a8 :: I6.a9 :: I6.a10 :: I6.a11 :: I6.a12 :: I6.a13 :: I6.a14 :: I6.a15 :: I6.a16 :: I6.a17 :: I6.a18 :: tl = tl2
  dsimp only [I6, F656]
  k_steps
  dsimp only
  subst e2
  rename Fr _ _ _ _ => F5
  rename News _ _ _ _ => N5
  refine wpAny_execs_cons (if_wc X F5 he N5 o1 o2 o3 hr fun h5 tk5 v5' F6 N6 => ?_)
  dsimp only [I6, F656]
  k_steps
  rename Fr _ _ _ _ => F7
  rename News _ _ _ _ => N7
  refine call_deque F7 N7 fun pb h7 l7 F8 N8 => ?_
  have o4 : @LT.lt Nat _ io pb := l7 _ (.head _)
  clear N7 F7
  k_steps
  rename Fr _ _ _ _ => F9
  rename News _ _ _ _ => N9
  refine call_deque F9 N9 fun fs h9 l9 F10 N10 => ?_
  have o5 : @LT.lt Nat _ pb fs := l9 _ (.head _)
  clear N9 F9
  k_steps
  dsimp only
  rename Fr _ _ _ _ => F11
  rename News _ _ _ _ => N11
  exact h _ _ _ _ _ _ _ _ _ _ _ _ _ _ _ _ _ _ _ _ _ _ _ _ _ _ _ _ _ _ _ _ _ _ _ _ _ _ _ _ _ o2 o3 o4 o5 he F11 N11
theorem rot6 {h : Heap} {a b c d e f : Addr × Obj} {m : List (Addr × Obj)} (N : News h₀ L h (a :: b :: c :: d :: e :: f :: m)) : News h₀ L h (e :: f :: c :: d :: a :: b :: m) := fun p hp => by
  cases hp with
  | head => exact N _ (.tail _ (.tail _ (.tail _ (.tail _ (.head _)))))
  | tail _ hp => cases hp with
    | head => exact N _ (.tail _ (.tail _ (.tail _ (.tail _ (.tail _ (.head _))))))
    | tail _ hp => cases hp with
      | head => exact N _ (.tail _ (.tail _ (.head _)))
      | tail _ hp => cases hp with
        | head => exact N _ (.tail _ (.tail _ (.tail _ (.head _))))
        | tail _ hp => cases hp with
          | head => exact N _ (.head _)
          | tail _ hp => cases hp with
            | head => exact N _ (.tail _ (.head _))
            | tail _ hp => exact N _ (.tail _ (.tail _ (.tail _ (.tail _ (.tail _ (.tail _ hp))))))
end
/-- what a lexer just made is -/
structure MkL (P : Params) (l : Lx) (x : Sx) (buf : Str) (px : Bool) (com wc pc : Str) (wsp : Bool) (more : List (Addr × Obj)) : Prop where
  px : l.px = px
  com : l.com = com
  wc : l.wc = wc
  pc : l.pc = pc
  wsp : l.wsp = wsp
  buf : x.buf = buf
  sok : Sok P l x more
  gok : Gok P l more
section
variable {w : World} {A₀ : Around} {base h₀ : Heap} {outer : List Env} {mean : ExcName → Option Value} {mg mb : Str → Option Value} {cn : Str} {cs : Scope} {L a : Addr} {ccd : Value} {dp un : Nat} {gd : Option (List Code)} {m : Str → Option Value} {rest : List (Addr × Obj)} {s : Shared} {Q E' : Value → Shared → Prop}
theorem mkL_of {l : Lx} {x : Sx} {more : List (Addr × Obj)} {px : Bool} {buf com wc pc : Str} {wsp : Bool} (e1 : l.px = px) (e2 : l.com = com) (e3 : l.wc = wc) (e4 : l.pc = pc) (e5 : l.wsp = wsp) (e6 : x.buf = buf) (o1 : @LT.lt Nat _ l.dx l.x) (o2 : @LT.lt Nat _ l.x x.dio) (o3 : @LT.lt Nat _ x.dio l.io)
   (hm : ∀ q ∈ more, q.1 ≠ l.dx ∧ q.1 ≠ x.dio) (ht : l.tl.length ≤ 10) (hb : buf.length ≤ 10000) (hp : (pc.length : Int) < 9223372036854775808) (hpb : nonE l.pc = true → ∃ t a, l.tl = [E w.params "_pushback_chars" t (.ref a)] ∧ (a, dqO) ∈ more) (m1 : (l.pb, dqO) ∈ more) (m2 : (l.fs, dqO) ∈ more)
   (he : if px = true then l.eofv = .none else ∃ t, l.eofv = .str (S "") t) (htl : l.tl = [] ∨ ∃ t a, l.tl = [E w.params "_pushback_chars" t (.ref a)]) : MkL w.params l x buf px com wc pc wsp more := by
  subst e1 e2 e3 e4 e5 e6
  exact ⟨rfl, rfl, rfl, rfl, rfl, rfl, ⟨o3, Nat.ne_of_gt (Nat.lt_trans o1 (Nat.lt_trans o2 o3)), Nat.ne_of_gt (Nat.lt_trans o1 o2), Nat.ne_of_lt o2, o1, fun q hq => (hm q hq).1, fun q hq => (hm q hq).2, ht, hb, hp, hpb⟩, ⟨m1, m2, he, htl⟩⟩
end
set_option maxRecDepth 100000
set_option maxHeartbeats 4000000
section
variable {w : World} {A₀ : Around} {base h₀ : Heap} {outer : List Env} {mean : ExcName → Option Value} {mg mb : Str → Option Value} {cn : Str} {cs : Scope} {L a : Addr} {ccd : Value} {dp un : Nat} {gd : Option (List Code)} {m : Str → Option Value} {rest : List (Addr × Obj)} {s : Shared} {Q E' : Value → Shared → Prop}
/-- shlex(text, None, posix) -/
theorem t_new0 {buf : Str} {tb : Tok} {px : Bool} {args : Args}
   (G : Cx w A₀ base h₀ outer mean mg mb cs dp un 16) (F : Fr h₀ L s.heap m) (N : News h₀ L s.heap rest) (hb : buf.length ≤ 10000)
   (ha : ∀ x h', K w.params |>.In h' → BindsTo { s with heap := h' } (fnOf (S "__init__") (S "shlex.__init__") F656.ps F656.b F656.sc (.ref 649) .none .none (.str (S "cpy313.shlex") 1087) none (.ref 655) .none) ⟨.ref x :: args.pos, args.kw⟩ [(S "self", .ref x), (S "instream", .str buf tb), (S "infile", .none), (S "posix", .bool px), (S "punctuation_chars", .bool false)])
   (h : ∀ l x h' tk tst ttok tp, MkL w.params l x buf px (S "#") (wcOf px) (S "") false ((l.fs, dqO) :: (l.pb, dqO) :: rest) → Fr h₀ L h' m → News h₀ L h' (lexL w.params l x .sp tst ttok tp 0 ((l.fs, dqO) :: (l.pb, dqO) :: rest)) → Q (.ref l.x) { s with heap := h', toks := tk }) :
   wpAny (model pw w) (aT dp un gd cn cs L a ccd outer) (call (.ref 732) args.pos args.kw) Q E' s := by
  obtain ⟨B, X, T, hk, room, hun⟩ := G
  have hfi := fill_it
  revert hfi
  k_fill
  intro hfi
  clear hfi
  refine call_cls (fI := 656) F X N (by kernel_rfl) (by kernel_rfl) (by kernel_rfl) ?_
  intro x' d' h' F' N' l1 l2
  rw [under_make]
  refine code_def (binds := [(S "self", .ref x'), (S "instream", .str buf tb), (S "infile", .none), (S "posix", .bool px), (S "punctuation_chars", .bool false)]) B F' X N' T rfl rfl hk (l656 _) (c656 _) (by dsimp only [aT]; omega) (ha _ _ (X.keeps F'.keep)) (locs rfl) ?_ rfl rfl rfl (by decide)
  intro g' L' h1 FG' F1 N1 B' X' T'
  have G' : Cx w (aT (dp + 1) (un + 1) gd cn cs L a ccd outer) base g' (envOf cn cs L a ccd :: outer) mean mg mb F656.sc (dp + 2) (un + 4) 12 := ⟨B', X', T', rfl, by omega, by omega⟩
  show wpAny (model pw w) (A6 (dp + 2) (un + 4) gd L' (envOf cn cs L a ccd :: outer)) (execs (I6.a0 :: I6.a1 :: I6.a2 :: I6.a3 :: I6.a4 :: I6.a5 :: I6.a6 :: I6.a7 :: I6.a8 :: I6.a9 :: I6.a10 :: I6.a11 :: I6.a12 :: I6.a13 :: I6.a14 :: I6.a15 :: I6.a16 :: I6.a17 :: I6.a18 :: [I6.a19, I6.a20, I6.a21]) (envI L')) _ _ _
  refine init_head G' F1 N1 l1 l2 ?_
  intro h2 tk2 io dio pb fs eofv t1 t2 t3 tb' t4 tp k0 k1 k2 k3 k4 k5 k6 k7 k8 k9 k10 k11 k12 k13 k14 k15 k16 k17 v4 v5 v6 v8 v9 v10 v11 v13 v14 v15 o2 o3 o4 o5 he F2 N2
  have o1 : @LT.lt Nat _ d' x' := l2
  have hr : ∀ q ∈ rest, q.1 ≠ d' := fun q hq => Nat.ne_of_lt (l1 q hq)
  dsimp only [I6, F656]
  k_steps
  rename News _ _ _ _ => kN
  rename Fr _ _ _ _ => kF
  refine h (l := { io := io, x := x', dx := d', pb := pb, fs := fs, kt := fun i => [k0, k1, k2, k3, k4, k5, k6, k7, k8, k9, k10, k11, k12, k13, k14, k15, k16, k17, _].getD i 0, vt := fun i => [0, 0, 0, 0, v4, v5, v6, 0, v8, v9, v10, v11, 0, v13, v14, v15, 0, 0, _].getD i 0, eofv := eofv, com := S "#", wc := wcOf px, pc := S "", px := px, wsp := false, tl := [], n := 19 })
    (x := { dio := dio, t1 := t1, t2 := t2, t3 := t3, tb := tb', t4 := t4, buf := buf }) _ _ _ _ _ (mkL_of rfl rfl rfl rfl rfl rfl o1 o2 o3 ?_ (Nat.zero_le _) hb (by decide +kernel) (fun e => nomatch ((show nonE (S "") = false by kernel_rfl).symm.trans e)) (.tail _ (.head _)) (.head _) he (.inl rfl)) kF (rot6 kN)
  intro q hq
  cases hq with
  | head => exact ⟨show @Ne Nat fs d' by omega, show @Ne Nat fs dio by omega⟩
  | tail _ hq => cases hq with
    | head => exact ⟨show @Ne Nat pb d' by omega, show @Ne Nat pb dio by omega⟩
    | tail _ hq => exact ⟨hr q hq, by have := l1 q hq; show @Ne Nat q.1 dio; have : @LT.lt Nat _ q.1 d' := l1 q hq; omega⟩
end
set_option maxRecDepth 100000
set_option maxHeartbeats 4000000
/-- the readings of a lexer by its five settings -/
noncomputable def cfg (px : Bool) (com wc pc : Str) (wsp : Bool) : Lx := { io := 0, x := 0, dx := 0, pb := 0, fs := 0, kt := fun _ => 0, vt := fun _ => 0, eofv := .none, com := com, wc := wc, pc := pc, px := px, wsp := wsp, tl := [], n := 0 }
theorem step_congr {l l' : Lx} (h1 : l.px = l'.px) (h2 : l.com = l'.com) (h3 : l.wc = l'.wc) (h4 : l.pc = l'.pc) (h5 : l.wsp = l'.wsp) (s : St) (tok : Str) (q : Bool) (c : Nat) : stepc l s tok q c = stepc l' s tok q c := by
  unfold stepc
  cases s <;> simp only [h1, h2, h3, h4, h5]
theorem go_congr {l l' : Lx} (h1 : l.px = l'.px) (h2 : l.com = l'.com) (h3 : l.wc = l'.wc) (h4 : l.pc = l'.pc) (h5 : l.wsp = l'.wsp) : ∀ (cs : List Nat) (s : St) (tok : Str) (q : Bool), lexGo l s tok q cs = lexGo l' s tok q cs := by
  intro cs
  induction cs with
  | nil => intro s tok q; cases s <;> rfl
  | cons c cs ih =>
    intro s tok q
    have e : ∀ (l : Lx), lexGo l s tok q (c :: cs) = if eqC (chS c) (S "\n") then none else match stepc l s tok q c with | none => none | some (true, s', tok', q') => some (s', tok', q', cs) | some (false, s', tok', q') => lexGo l s' tok' q' cs := fun l => by cases s <;> rfl
    rw [e, e, step_congr h1 h2 h3 h4 h5]
    simp only [ih]
theorem toks_congr {l l' : Lx} (h1 : l.px = l'.px) (h2 : l.com = l'.com) (h3 : l.wc = l'.wc) (h4 : l.pc = l'.pc) (h5 : l.wsp = l'.wsp) {s : St} {cs : List Nat} {ts : List Str} (T : Toks l s cs ts) : Toks l' s cs ts := by
  induction T with
  | stop a b => exact .stop ((go_congr h1 h2 h3 h4 h5 _ _ _ _).symm.trans a) (by unfold isEof at *; rw [← h1]; exact b)
  | tok a b _ ih => exact .tok ((go_congr h1 h2 h3 h4 h5 _ _ _ _).symm.trans a) (by unfold isEof at *; rw [← h1]; exact b) ih
section
variable {w : World} {A₀ : Around} {base h₀ : Heap} {outer : List Env} {mean : ExcName → Option Value} {mg mb : Str → Option Value} {cn : Str} {cs : Scope} {L a : Addr} {ccd : Value} {dp un : Nat} {gd : Option (List Code)} {m : Str → Option Value} {rest : List (Addr × Obj)} {s : Shared} {Q E' : Value → Shared → Prop}
theorem cx_refresh {h' : Heap} {k : Nat} (G : Cx w A₀ base h₀ outer mean mg mb cs dp un k) (XB : (K w.params).In base) (TB : Top qv (looseW qv lse) mean mg mb base) (kb : base.StaysIn h') (u : h₀.UpToSlots h') : Cx w A₀ base (refresh h₀ h') outer mean mg mb cs dp un k :=
  ⟨rf_below G.B kb u, XB.keeps (rf_stays G.B.stays kb), TB.keeps (rf_stays G.B.stays kb), G.hk, G.room, G.un⟩
noncomputable def lexW (l : Lx) : Lx := { l with wsp := true }
noncomputable def lexC (l : Lx) (t : Tok) : Lx := { l with wsp := true, com := S "", vt := fun i => if i = 4 then t else l.vt i }
theorem set_wsp {A : Around} {l : Lx} {rest' : List (Addr × Obj)} {stv : Value} {tok : Str} {ttok : Tok} {Q : Unit → Shared → Prop} (X : (K w.params).In h₀) (K' : Lok l rest') (F : Fr h₀ L s.heap m) (N : News h₀ L s.heap ((l.x, instObj 732 l.dx) :: (l.dx, dictOf (lexEs w.params l stv tok ttok) l.n) :: rest'))
   (h : ∀ h' tk, Fr h₀ L h' m → News h₀ L h' ((l.x, instObj 732 l.dx) :: (l.dx, dictOf (lexEs w.params (lexW l) stv tok ttok) l.n) :: rest') → Q () { s with heap := h', toks := tk }) :
   wpAny (model pw w) A (setAttr (.ref l.x) (S "whitespace_split") (.bool true)) Q E' s :=
  set_dict (dx := l.dx) (es' := lexEs w.params (lexW l) stv tok ttok) (n' := l.n) F X N (InstAt.of_news N (.head _) (.tail _ (.head _))) rfl (seta _) (plov _) (by kernel_rfl) (hasD _) (by kernel_rfl) (by kernel_rfl)
    (.tail K'.ne (.head K'.r)) (by have := K'.t; simp only [List.length_cons]; show l.tl.length + 19 ≤ _; omega) fun h' F' N' => h _ _ F' N'
theorem set_com {A : Around} {l : Lx} {rest' : List (Addr × Obj)} {stv : Value} {tok : Str} {ttok t : Tok} {Q : Unit → Shared → Prop} (X : (K w.params).In h₀) (K' : Lok l rest') (F : Fr h₀ L s.heap m) (N : News h₀ L s.heap ((l.x, instObj 732 l.dx) :: (l.dx, dictOf (lexEs w.params (lexW l) stv tok ttok) l.n) :: rest'))
   (h : ∀ h' tk, Fr h₀ L h' m → News h₀ L h' ((l.x, instObj 732 l.dx) :: (l.dx, dictOf (lexEs w.params (lexC l t) stv tok ttok) l.n) :: rest') → Q () { s with heap := h', toks := tk }) :
   wpAny (model pw w) A (setAttr (.ref l.x) (S "commenters") (.str (S "") t)) Q E' s :=
  set_dict (dx := l.dx) (es' := lexEs w.params (lexC l t) stv tok ttok) (n' := l.n) F X N (InstAt.of_news N (.head _) (.tail _ (.head _))) rfl (seta _) (plov _) (by kernel_rfl) (hasD _) (by kernel_rfl) (by kernel_rfl)
    (.tail K'.ne (.head K'.r)) (by have := K'.t; simp only [List.length_cons]; show l.tl.length + 19 ≤ _; omega) fun h' F' N' => h _ _ F' N'
theorem MkL.setC {P : Params} {l : Lx} {x : Sx} {buf : Str} {px : Bool} {com wc pc : Str} {wsp : Bool} {more : List (Addr × Obj)} (M : MkL P l x buf px com wc pc wsp more) (t : Tok) : MkL P (lexC l t) x buf px (S "") wc pc true more :=
  ⟨M.px, rfl, M.wc, M.pc, rfl, M.buf, ⟨M.sok.o1, M.sok.n1, M.sok.n2, M.sok.n3, M.sok.o3, M.sok.m1, M.sok.m2, M.sok.t, M.sok.b, M.sok.pl, M.sok.pb⟩, ⟨M.gok.pb, M.gok.fs, M.gok.e, M.gok.tl⟩⟩
theorem t_split {buf : Str} {tb : Tok} {px : Bool} {args : Args} {ts : List Str}
   (G : Cx w A₀ base h₀ outer mean mg mb cs dp un 24) (F : Fr h₀ L s.heap m) (N : News h₀ L s.heap rest) (hb : buf.length ≤ 10000)
   (ha : BindsTo s (fnOf (S "split") (S "split") F744.ps F744.b F744.sc (.ref 737) .none .none (.str (S "cpy313.shlex") 1087) none (.ref 743) .none) args [(S "s", .str buf tb), (S "comments", .bool false), (S "posix", .bool px)])
   (TT : Toks (cfg px (S "") (wcOf px) (S "") true) .sp buf.cps.toList ts) (hn : ts.length ≤ 1000)
   (h : ∀ D h' tk items c', base.StaysIn h' → h₀.UpToSlots h' → Fr (refresh h₀ h') L h' m → News (refresh h₀ h') L h' ((D, lisO items c') :: rest) → StrsAre items.toList ts → Q (.ref D) { s with heap := h', toks := tk }) :
   wpAny (model pw w) (aT dp un gd cn cs L a ccd outer) (call (.ref 744) args.pos args.kw) Q E' s := by
  obtain ⟨B, X, T, hk, room, hun⟩ := G
  have hfi := fill_it
  revert hfi
  k_fill
  intro hfi
  clear hfi
  refine wpAny_call ?_
  refine code_raw (binds := [(S "s", .str buf tb), (S "comments", .bool false), (S "posix", .bool px)]) B F X N T rfl rfl hk (l744 _) (c744 _) (by dsimp only [aT]; omega) ha (locs rfl) ?_ rfl rfl rfl (by decide)
  intro g' L' h1 FG' F1 N1 B' X' T' st'
  show wpAny (model pw w) (aT (dp + 1) (un + 3) gd (S "split") F744.sc L' 744 (.ref 743) (envOf cn cs L a ccd :: outer)) (execs F744.b (envOf (S "split") F744.sc L' 744 (.ref 743))) _ _ _
  have G' : Cx w (aT dp un gd cn cs L a ccd outer) base g' (envOf cn cs L a ccd :: outer) mean mg mb F744.sc (dp + 1) (un + 3) 22 := ⟨B', X', T', rfl, by omega, by omega⟩
  dsimp only [F744]
  iterate 22 walk1
  show wpAny _ _ (call (.ref 732) [.str buf tb] [(S "posix", .bool px)]) _ _ _
  refine t_new0 (px := px) (tb := tb) (args := ⟨[.str buf tb], [(S "posix", .bool px)]⟩) ⟨G'.B, G'.X, G'.T, G'.hk, by omega, by omega⟩ F1 N1 hb (fun x h' X => binds_K X rfl (by k_is) rfl rfl rfl) fun l x h3 tk3 tst ttok tp M F3 N3 => ?_
  k_steps
  rename News _ _ _ _ => N4
  rename Fr _ _ _ _ => F4
  refine set_wsp X' M.sok.lok F4 N4 fun h5 tk5 F5 N5 => ?_
  clear F4 N4
  dsimp only
  k_steps
  rename News _ _ _ _ => N6
  rename Fr _ _ _ _ => F6
  refine set_com X' M.sok.lok F6 N6 fun h7 tk7 F7 N7 => ?_
  clear F6 N6
  dsimp only
  k_steps
  rename News _ _ _ _ => N8
  rename Fr _ _ _ _ => F8
  have M' := M.setC (Shared.toks { heap := h5, gens := s.gens, drawn := s.drawn, toks := tk5, os := s.os })
  refine call_list (l := lexC l _) (p := 0) (ts := ts) (toks_congr M'.px.symm M'.com.symm M'.wc.symm M'.pc.symm M'.wsp.symm (by rw [List.drop_zero, M.buf]; exact TT)) (Nat.zero_le _) ⟨G'.B, G'.X, G'.T, G'.hk, by omega, by omega⟩ M'.sok M'.gok F8 N8 hn ?_
  intro D h9 tk9 tst9 ttok9 tp9 p9 st9 items9 c9 k1 k2 F9 N9 hs
  obtain ⟨F10, N10, B10, u10⟩ := rf_back (h := h9) (g₂ := h9) (m' := m) B FG' st' k1 k2 N9
  refine h D _ _ items9 c9 k1 u10 F10 (fun q hq => N10 q ?_) hs
  cases hq with
  | head => exact .tail _ (.tail _ (.tail _ (.tail _ (.head _))))
  | tail _ hq => exact .tail _ (.tail _ (.tail _ (.tail _ (.tail _ (.tail _ (.tail _ hq))))))
end
set_option maxRecDepth 100000
set_option maxHeartbeats 4000000
namespace MT
theorem lk : typeLookup (.type "str") "maketrans" = pure (some (.builtin "str.maketrans")) := by rw [typeLookup_type, builtinLookup_eq_fast]; kernel_rfl
theorem ty : typeOf (.builtin "str.maketrans") = pure (.type "builtin_function_or_method") := by kernel_rfl
theorem noget : typeLookup (.type "builtin_function_or_method") "__get__" = pure none := by rw [typeLookup_type, builtinLookup_eq_fast]; kernel_rfl
theorem lkd : typeLookup (.type "dict") "fromkeys" = pure (some (.builtin "dict.fromkeys")) := by rw [typeLookup_type, builtinLookup_eq_fast]; kernel_rfl
theorem tyd : typeOf (.builtin "dict.fromkeys") = pure (.type "classmethod_descriptor") := by kernel_rfl
theorem getd : typeLookup (.type "classmethod_descriptor") "__get__" = pure (some (.builtin "classmethod_descriptor.__get__")) := by rw [typeLookup_type, builtinLookup_eq_fast]; kernel_rfl
end MT
section
variable {prog : Program} {w : World} {A : Around} {E : Value → Shared → Prop} {h : Heap} {g : Array GenState} {d : Drawn} {t : Nat} {os : OsState} {x : Str} {u : Tok}
theorem mt_entry {tk : Tok} {Q : Fin → Shared → Prop} (hq : Q (.done (.ret (.builtin "str.maketrans"))) ⟨h, g, d, t, os⟩) :
    wpAny (model prog w) A (Builtin.«object.__getattribute__» ⟨[.str x u, .str "maketrans" tk], []⟩) Q E ⟨h, g, d, t, os⟩ := by
  have hT : (⟨h, g, d, t, os⟩ : Shared).TypeIs (.str x u) "str" := rfl
  have hT5 : (⟨h, g, d, t, os⟩ : Shared).TypeIs (.builtin "str.maketrans") "builtin_function_or_method" := MT.ty
  have f4 := MT.lk
  have f5 := MT.ty
  have f6 := MT.noget
  repeat (any_goals (first | assumption | wp_step))
theorem mt_call {tk : Tok} {R : Result → Shared → Prop} (hq : R (.ok (.ret (.builtin "str.maketrans"))) ⟨h, g, d, t, os⟩) :
    codeAny (model prog w) A (.call (.builtin "object.__getattribute__") ⟨[.str x u, .str "maketrans" tk], []⟩) R ⟨h, g, d, t, os⟩ :=
  codeAny_call_builtin F.slot_str_getattribute.plain F.entry_object_getattribute (F.slot_str_getattribute.check _ _ _ _ _ _ _ _ (show (⟨h, g, d, t, os⟩ : Shared).TypeIs (.str x u) "str" from rfl) (F.args_object_getattribute_2 _ _) (mt_entry hq))
theorem mt_by {tk : Tok} {Q : Value → Shared → Prop} (hq : Q (.builtin "str.maketrans") ⟨h, g, d, t, os⟩) : wpAny (model prog w) A (getAttrBy (.str x u) (.str "maketrans" tk) true false) Q E ⟨h, g, d, t, os⟩ := by
  have hT : (⟨h, g, d, t, os⟩ : Shared).TypeIs (.str x u) "str" := rfl
  unfold getAttrBy
  refine wpAny_holding (wpAny_bind (wpAny_pure (wpAny_bind (wpAny_of_eq F.slot_str_getattribute.lookup ?_))))
  show wpAny _ _ (getAttrByItsOwn _ _ _ _ _ _) _ _ _
  unfold getAttrByItsOwn
  refine wpAny_bind (wpAny_pure (wpAny_bind (wpAny_attempt (wpAny_holding ?_))))
  show wpAny _ _ (bindSpecial _ _ >>= _) _ _ _
  refine wpAny_bind (wpAny_of_eq (F.slot_str_getattribute.bind (.str x u)) (wpAny_call (mt_call ?_)))
  exact wpAny_pure hq
theorem getMethod_static {M : Model} {s : Shared} {v : Value} {T : String} {name : Str} {id : String} {pl : Sem Bool} {Q : Value × List Value → Shared → Prop} (hT : s.TypeIs v T) (pa : PlainAttrs T) (hl : typeLookup (.type T) name = pure (some (.builtin id)))
    (hty : typeOf (.builtin id) = pure (.type "builtin_function_or_method")) (h : wpAny M A (getAttr v name) (fun r s' => Q (r, []) s') E s) : wpAny M A (getMethod v name pl) Q E s := by
  obtain ⟨ga, hg, hcan⟩ := pa.ga
  unfold getMethod
  refine wpAny_bind (wpAny_specialOf hT hg ?_)
  show wpAny M A (if (Manifest.canonical ga != "object.__getattribute__") = true then _ else _) Q E s
  rw [hcan, if_neg Bool.false_ne_true]
  refine wpAny_bind (wpAny_specialOf hT pa.noGetattr ?_)
  refine wpAny_bind (wpAny_specialOf hT hl ?_)
  refine wpAny_bind (wpAny_of_eq hty ?_)
  have hd : (Value.type "builtin_function_or_method" != .type "function" && Value.type "builtin_function_or_method" != .type "method_descriptor" && Value.type "builtin_function_or_method" != .type "wrapper_descriptor") = true := by decide +kernel
  dsimp only
  rw [if_pos hd]
  exact wpAny_bind (wpAny_mono h (fun _ _ q => wpAny_pure q) fun _ _ e => e)
theorem gm_maketrans {pl : Sem Bool} {Q : Value × List Value → Shared → Prop} {s : Shared} (hq : Q (.builtin "str.maketrans", []) { s with toks := s.toks + 1 }) : wpAny (model prog w) A (getMethod (.str x u) (S "maketrans") pl) Q E s := by
  have a2 : s.TypeIs (.str x u) "str" := rfl
  have a1 := getMethod_static (T := "str") (id := "str.maketrans") (M := model prog w) (E := E) (A := A) (pl := pl) (Q := Q) (s := s) (v := .str x u) (name := S "maketrans") a2 F.plainAttrs_str MT.lk MT.ty
  refine a1 ?_
  unfold getAttr
  exact wpAny_bind (wpAny_mkText (mt_by hq))
end
set_option maxRecDepth 100000
set_option maxHeartbeats 4000000
theorem stays_but {a h h' : Heap} {d : Addr} (k : a.StaysIn h) (hd : a.get? d = none) (s : Heap.SameBut d h h') : a.StaysIn h' := fun b o e => (s.2 b (fun q => by rw [q, hd] at e; cases e)).trans (k b o e)
theorem stays_ext {a h h' : Heap} {d : Addr} (k : a.StaysIn h) (hd : a.get? d = none) (s : Heap.ExtBut d h h') : a.StaysIn h' := fun b o e => s b o (fun q => by rw [q, hd] at e; cases e) (k b o e)
theorem stays_push {a h : Heap} (k : a.StaysIn h) (o : Obj) : a.StaysIn (h.push o) := fun b o' e => Heap.get?_push_of_some o (k b o' e)
noncomputable def keyEs (cs : List Nat) : List (Str × Value) := cs.map fun c => (chS c, Value.none)
theorem chS_inj {a b : Nat} (h : chS a = chS b) : a = b := by
  have : (#[a] : Array Nat) = #[b] := congrArg Str.cps h
  simpa using this
theorem stored_new {cs : List Nat} {c : Nat} (h : c ∉ cs) : stored (keyEs cs) (chS c) Value.none = keyEs (cs ++ [c]) := by
  unfold stored
  rw [if_neg]
  · simp [keyEs]
  · simp only [keyEs, List.any_map, List.any_eq_true, Function.comp, decide_eq_true_eq]
    rintro ⟨x, hx, e⟩
    exact h (chS_inj e ▸ hx)
namespace FK
theorem entry_loop : entryFor table "dict.fromkeys.loop" = some Builtin.«dict.fromkeys.loop» := entryFor_of_fast (by kernel_rfl)
theorem plain_loop : plainId "dict.fromkeys.loop" = true := by decide +kernel
theorem entry_fk : entryFor table "dict.fromkeys" = some Builtin.«dict.fromkeys» := entryFor_of_fast (by kernel_rfl)
theorem plain_fk : plainId "dict.fromkeys" = true := by decide +kernel
end FK
section
variable {prog : Program} {w : World} {A : Around} {E : Value → Shared → Prop} {R : Result → Shared → Prop}
theorem fk_loop {h0 : Heap} {x : Str} {t : Tok} {D I : Addr} (hh : A.handled = none) (hDI : D ≠ I) (hD : h0.get? D = none) (hI : h0.get? I = none) (hnd : ∀ i (h : i < x.cps.size), x.cps[i] ∉ x.cps.toList.take i) (hsz : x.cps.size ≤ 1000) : ∀ (n i : Nat) (s : Shared), n = x.cps.size - i → i ≤ x.cps.size → h0.StaysIn s.heap → s.heap.IsStrIter I "str_ascii_iterator" x t i → s.heap.DictOf (strKind prog w) D (keyEs (x.cps.toList.take i)) →
    (∀ h' tk, h0.StaysIn h' → h'.DictOf (strKind prog w) D (keyEs x.cps.toList) → R (.ok (.ret (.ref D))) { s with heap := h', toks := tk }) →
    codeAny (model prog w) A (.builtin "dict.fromkeys.loop" ⟨[.ref D, .ref I, .none], []⟩) R s := by
  intro n
  induction n with
  | zero =>
    intro i s hn hi k hit hm hR
    refine codeAny_builtin FK.entry_loop ?_
    rw [Around.under_plainId FK.plain_loop _]
    show wpAny _ A.in1 (pyNext (.ref I) >>= _) _ _ s
    have hi' : i = x.cps.size := by omega
    refine wpAny_bind (wpAny_pyNext_ascii_end (A := A.in1) hh hit (by rw [hi']; simp) fun h' he => ?_)
    refine wpAny_pure (hR _ _ (stays_ext k hI he) ?_)
    rw [hi', ← Array.length_toList, List.take_length] at hm
    obtain ⟨o, es, ep, ho, r⟩ := hm
    exact ⟨o, es, ep, he D o hDI ho, r⟩
  | succ n ih =>
    intro i s hn hi k hit hm hR
    refine codeAny_builtin FK.entry_loop ?_
    rw [Around.under_plainId FK.plain_loop _]
    show wpAny _ A.in1 (pyNext (.ref I) >>= _) _ _ s
    have hlt : i < x.cps.size := by omega
    have hx : x.cps[i]? = some x.cps[i] := Array.getElem?_eq_getElem hlt
    refine wpAny_bind (wpAny_pyNext_ascii_item (A := A.in1) hit hx fun h1 hit1 hs1 => ?_)
    have hm1 := hm.sameBut hs1 hDI
    show wpAny _ A.in1 (typeOf (.ref D) >>= _) _ _ _
    refine wpAny_bind (wpAny_typeOf (s := { s with heap := h1, toks := s.toks + 1 }) hm1.mapOf.typeIs ?_)
    refine KFB.if_so (by decide) ?_
    refine wpAny_bind (wpAny_pure (wpAny_bind (wpAny_holding ?_)))
    have hkl : (keyEs (x.cps.toList.take i)).length ≤ sizeLine := by
      simp only [keyEs, List.length_map, List.length_take]
      exact Nat.le_trans (show min i _ ≤ 1000 by omega) (by decide)
    refine wpAny_dictSet_pairs (hsz := hkl) (strKind_is prog w (chS x.cps[i]) s.toks) hm1 fun h2 hm2 hs2 => ?_
    refine wpAny_pure ⟨plainId_quiet FK.plain_loop _, ih (i + 1) _ (by omega) (by omega) (stays_but (stays_but k hI hs1) hD hs2) (hit1.extBut hs2.extBut (Ne.symm hDI)) ?_ fun h' tk k' hm' => hR h' tk k' hm'⟩
    rw [stored_new (hnd i hlt)] at hm2
    have e : x.cps.toList.take (i + 1) = x.cps.toList.take i ++ [x.cps[i]] := by
      rw [List.take_succ]; simp [hx]
    rw [e]
    exact hm2
end
set_option maxRecDepth 100000
set_option maxHeartbeats 4000000
namespace FK
theorem newCall0 : checkBuiltinCall "dict.__new__" ⟨[.type "dict"], []⟩ = pure () := by kernel_rfl
theorem typeCall0 : checkTypeCall "dict" ⟨[], []⟩ = pure () := by kernel_rfl
theorem args_init1 (a : Value) : argsOk "dict.__init__" ⟨[a], []⟩ := by unfold argsOk; kernel_rfl
end FK
section
variable {prog : Program} {w : World} {A : Around} {E : Value → Shared → Prop} {s : Shared}
noncomputable abbrev dictE : Obj := { cls := .type "dict", data := .dict #[] }
theorem code_dict0 {Q₁ : Value → Shared → Prop} (h : Q₁ (.ref s.heap.objs.size) { s with heap := s.heap.push dictE }) :
    codeAny (model prog w) A (.call (.builtin "dict.__new__") ⟨[.type "dict"], []⟩) (wants Q₁ E) s := by
  refine codeAny_call_builtin F.kt_plain_dict_new F.kt_entry_dict_new (wpAny_of_eq FK.newCall0 ?_)
  have hsub := F.kt_sub_dict
  have hmro := F.kt_mro_dict
  obtain ⟨hp, g, d, tk, os⟩ := s
  unfold Builtin.«dict.__new__»
  wp_walk
  exact h
theorem call_dict0 {Q : Value → Shared → Prop} (h : Q (.ref s.heap.objs.size) { s with heap := s.heap.push dictE }) :
    wpAny (model prog w) A (call (.type "dict") []) Q E s := by
  refine callType_codes (Q₁ := fun obj s₁ => obj = .ref s.heap.objs.size ∧ s₁ = { s with heap := s.heap.push dictE }) F.kt_called_dict FK.typeCall0 F.entry_dict_init (code_dict0 ⟨rfl, rfl⟩) ?_
  rintro obj s₁ ⟨rfl, rfl⟩
  have hT : ({ s with heap := s.heap.push dictE } : Shared).TypeIs (.ref s.heap.objs.size) "dict" := ⟨_, Heap.get?_push_size _ rfl, rfl⟩
  refine ⟨hT, FK.args_init1 _, ?_⟩
  unfold Builtin.«dict.__init__»
  refine wpAny_bind ?_
  unfold Builtin.Dict.selfAndRest
  refine wpAny_bind (wpAny_notOrdered_dict hT ?_)
  show wpAny _ _ (pure (s.heap.objs.size, [])) _ _ _
  refine wpAny_pure ?_
  show wpAny _ _ (Builtin.Dict.addKeywords s.heap.objs.size [] >>= _) _ _ _
  exact wpAny_bind (wpAny_pure (wpAny_pure ⟨rfl, h⟩))
theorem fk_tree {A' : Around} {R : Result → Shared → Prop} {x : Str} {t : Tok} (hh : A.handled = none) (hx : x.cps.all (· < 128) = true) (hnd : ∀ i (h : i < x.cps.size), x.cps[i] ∉ x.cps.toList.take i) (hsz : x.cps.size ≤ 1000)
   (hR : ∀ D h' tk, s.heap.StaysIn h' → s.heap.objs.size ≤ D → h'.DictOf (strKind prog w) D (keyEs x.cps.toList) → R (.ok (.ret (.ref D))) { s with heap := h', toks := tk }) :
   wpAny (model prog w) A' (Builtin.«dict.fromkeys» ⟨[.type "dict", .str x t], []⟩)
     (fun fin s' => match fin with | .done f => R (.ok f) s' | .again c' => c'.quiet = true ∧ codeAny (model prog w) A c' R s') (fun e s' => R (.error e) s') s := by
  unfold Builtin.«dict.fromkeys»
  refine wpAny_bind (wpAny_of_eq (a := true) (by first | rfl | kernel_rfl) ?_)
  refine KFB.if_not rfl ?_
  refine wpAny_bind (wpAny_of_eq F.kt_sub_dict ?_)
  refine KFB.if_not rfl ?_
  refine KFB.if_not rfl ?_
  refine wpAny_bind (wpAny_rule ?_)
  refine wpAny_bind (wpAny_pure ?_)
  dsimp only
  refine wpAny_bind (call_dict0 ?_)
  refine wpAny_holding ?_
  have hT : ({ s with heap := s.heap.push dictE } : Shared).TypeIs (.ref s.heap.objs.size) "dict" := ⟨_, Heap.get?_push_size _ rfl, rfl⟩
  refine wpAny_bind (wpAny_of_eq (a := .type "str") rfl ?_)
  refine wpAny_bind (wpAny_typeOf hT ?_)
  refine KFB.if_not (by decide +kernel) ?_
  refine wpAny_bind (wpAny_typeOf hT ?_)
  refine KFB.if_not (by decide +kernel) ?_
  refine wpAny_bind (wpAny_pyIter_ascii hx ?_)
  have hm : ((s.heap.push dictE).push { cls := .type "str_ascii_iterator", data := .fields #[.str x t, .int 0 0] }).DictOf (strKind prog w) s.heap.objs.size [] := (Heap.DictOf.new s.heap).push _
  have hit : ((s.heap.push dictE).push { cls := .type "str_ascii_iterator", data := .fields #[.str x t, .int 0 0] }).IsStrIter (s.heap.push dictE).objs.size "str_ascii_iterator" x t 0 := ⟨_, Heap.get?_push_size _ rfl, rfl, rfl⟩
  have hsz2 : (s.heap.push dictE).objs.size = s.heap.objs.size + 1 := Heap.size_push _ _
  refine wpAny_pure ⟨plainId_quiet FK.plain_loop _, fk_loop (h0 := s.heap) (x := x) (t := t) (D := s.heap.objs.size) (I := (s.heap.push dictE).objs.size) hh (by rw [hsz2]; exact Nat.ne_of_lt (Nat.lt_succ_self _)) (Heap.get?_none_of_le (Nat.le_refl _)) (Heap.get?_none_of_le (by rw [hsz2]; exact Nat.le_succ _)) hnd hsz _ 0 _ rfl (Nat.zero_le _) (stays_push (stays_push (fun _ _ e => e) _) _) hit hm fun h' tk k hm' => hR _ _ _ k (Nat.le_refl _) hm'⟩
end
namespace FK
noncomputable def bound : Obj := { cls := .type "builtin_function_or_method", data := .fields #[.builtin "dict.fromkeys", .type "dict"] }
theorem type_fk : typeOf (.builtin "dict.fromkeys") = pure (.type "classmethod_descriptor") := by show builtinType _ = _; rw [builtinType_eq_fast]; kernel_rfl
theorem quiet_fk {as : Args} : (Code.builtin "dict.fromkeys" as).quiet = true := Code.quiet_builtin _ (by decide +kernel)
theorem type_dict : isType (.type "dict") = pure true := by first | rfl | kernel_rfl | (unfold isType; rw [isSubtype_type]; kernel_rfl)
theorem owner_fk : (kfb_private% "ownerAndName") "dict.fromkeys" = ("dict", "fromkeys") := by first | decide +kernel | kernel_rfl
theorem check_fk {x : Str} {t : Tok} : checkBoundCall "dict.fromkeys" ⟨[.type "dict", .str x t], []⟩ = pure () := by first | kernel_rfl | rfl
section
variable {prog : Program} {w : World} {M : Model} {A : Around} {E : Value → Shared → Prop} {s : Shared} {K : Frag} {h₀ : Heap} {L : Addr} {m : PySem.Str → Option Value} {news : List (Addr × Obj)}
theorem run_get {P : Fin → Shared → Prop} (h : P (.done (.ret (.ref s.heap.objs.size))) { s with heap := s.heap.push bound }) :
    wpAny M A (Builtin.«classmethod_descriptor.__get__» ⟨[.builtin "dict.fromkeys", .none, .type "dict"], []⟩) P E s := by
  unfold Builtin.«classmethod_descriptor.__get__»
  refine wpAny_bind (wpAny_of_eq (a := (.builtin "dict.fromkeys", none, some (.type "dict"))) (by first | rfl | kernel_rfl) ?_)
  simp only [owner_fk]
  refine wpAny_bind (wpAny_of_eq (a := .type "dict") rfl ?_)
  refine wpAny_bind (wpAny_of_eq (a := true) type_dict ?_)
  refine KFB.if_not rfl ?_
  refine wpAny_bind (wpAny_of_eq (a := true) F.kt_sub_dict ?_)
  refine KFB.if_not rfl ?_
  exact wpAny_bind (wpAny_newObj_type (wpAny_pure h))
theorem getm {pl : Sem Bool} {Q : Value × List Value → Shared → Prop} (F : Fr h₀ L s.heap m) (N : News h₀ L s.heap news) (X₀ : K.In h₀)
    (e : findCls K (.type "dict") (.type "type") (PySem.Str.ofString "fromkeys") = some (.get (.builtin "classmethod_descriptor.__get__") (.builtin "dict.fromkeys") .none (.type "dict")))
    (h : ∀ x h', Fr h₀ L h' m → News h₀ L h' ((x, bound) :: news) → Q (.ref x, []) { s with heap := h', toks := s.toks + 1 }) :
    wpAny (model prog w) A (getMethod (.type "dict") (PySem.Str.ofString "fromkeys") pl) Q E s := by
  have X := X₀.keeps F.keep
  have hstub : opaqueClassAbove (.type "dict") = pure none := by unfold opaqueClassAbove; dsimp only; rw [show Manifest.isStub "dict" = false by decide +kernel]; rfl
  have ht : typeOf (.type "dict") = pure (.type "type") := by first | rfl | kernel_rfl
  have L0 : Looks (model prog w) s.heap (typeOf (.type "dict")) (.type "type") := Looks.of_pure ht
  have hg : findIn K (.type "type") "__getattribute__" = some (some (.builtin "type.__getattribute__")) := type_tga
  unfold getMethod specialOf
  refine wpAny_bind (wpAny_bind (L0.here ((looks_findIn X hg).here ?_)))
  dsimp only
  rw [if_pos canon_tga]
  refine wpAny_bind (wpAny_mono (Q := fun v => Q (v, [])) (E := E) ?_ (fun _ _ z => wpAny_pure z) fun _ _ z => z)
  have LO : Looks (model prog w) s.heap (opaqueClassAbove (.type "dict")) none := Looks.of_pure hstub
  refine cls_open X LO L0 hg (looks_hook X (r := none) (by rfl)) (by show subIn K _ _ = _; rfl) e ?_
  show wpAny _ _ (holding [.builtin "dict.fromkeys"] (call (.builtin "classmethod_descriptor.__get__") [.builtin "dict.fromkeys", .none, .type "dict"]) >>= fun v => ret v) _ _ _
  refine wpAny_bind (wpAny_holding (wpAny_call_entry KFB.slot_get type_fk KFB.entry_get (run_get ⟨_, rfl, wpAny_pure (wpAny_pure (h _ _ (F.push _) (News.push F N _)))⟩) (KFB.args_get _ _ _)))
theorem callWith_fields {pos : Pos} {u : Addr} {first : List Value} {args : List (Bool × Sem Value)} {Q : Value → Shared → Prop} (hplain : args.any (·.1) = false)
    (h : wpAny M A (evalArgs (.ref u) true args []) (fun x s₁ => s₁.heap.get? u = some bound ∧ wpAny M A (call (.ref u) (first ++ x.pos) x.kw) Q E s₁) E s) : wpAny M A (callWith pos (.ref u) first args []) Q E s := by
  unfold callWith
  refine wpAny_bind (wpAny_holding (wpAny_mono h (fun x s₁ h₁ => wpAny_bind (wpAny_standAt ?_)) fun _ _ x => x))
  obtain ⟨ho, hcall⟩ := h₁
  simp only [hplain, List.any_nil, Bool.or_false]
  refine wpAny_bind (m := keeperOf (.ref u)) ?_
  unfold keeperOf
  refine wpAny_bind (wpAny_load ho ?_)
  simp only [bound, show (Value.type "builtin_function_or_method" != Value.type "method") = true by decide, show (Value.type "builtin_function_or_method" == Value.type "builtin_function_or_method" || Value.type "builtin_function_or_method" == Value.type "method-wrapper") = true by decide, if_true]
  refine wpAny_pure ?_
  exact wpAny_bind (wpAny_mono hcall (fun r s₂ hr => wpAny_bind (wpAny_holding (wpAny_point (wpAny_pure hr)))) fun _ _ x => x)
theorem callWith_bound {pos : Pos} {u : Addr} {first : List Value} {env : Env} {e : PySem.Expr} {rest : List PySem.Expr} {Q : Value → Shared → Prop}
    (h : wpAny M A (spliced (backTo pos (starEach (e :: rest) env))) (fun vs s₁ => s₁.heap.get? u = some bound ∧ wpAny M A (call (.ref u) (first ++ vs)) Q E s₁) E s)
    (he : starEach (e :: rest) env = (false, eval e env) :: starEach rest env := by rfl) (hplain : (backTo pos (starEach rest env)).any (·.1) = false := by rfl) :
    wpAny M A (callWith pos (.ref u) first (backTo pos (starEach (e :: rest) env)) []) Q E s := by
  rw [he] at h ⊢
  refine callWith_fields (by show (false || (backTo pos (starEach rest env)).any (·.1)) = false; rw [hplain]; rfl) ?_
  exact PySem.Calls.evalArgs_plain h
theorem call_of {x : Addr} {b : Str} {t : Tok} {Q : Value → Shared → Prop} (ho : s.heap.get? x = some bound) (hh : A.handled = none) (hx : b.cps.all (· < 128) = true) (hnd : ∀ i (h : i < b.cps.size), b.cps[i] ∉ b.cps.toList.take i) (hsz : b.cps.size ≤ 1000)
    (h : ∀ D h' tk, s.heap.StaysIn h' → s.heap.objs.size ≤ D → h'.DictOf (strKind prog w) D (keyEs b.cps.toList) → Q (.ref D) { s with heap := h', toks := tk }) : wpAny (model prog w) A (call (.ref x) [.str b t]) Q E s := by
  refine wpAny_call (codeAny_of_tree ?_)
  show wpAny _ A.in1 (callAny (.ref x) ⟨[.str b t], []⟩) _ _ s
  simp only [callAny]
  refine wpAny_bind (wpAny_load ho ?_)
  simp only [bound, show (Value.type "builtin_function_or_method" == Value.type "method" || Value.type "builtin_function_or_method" == Value.type "builtin_function_or_method" || Value.type "builtin_function_or_method" == Value.type "method-wrapper") = true by decide, if_true]
  refine KFB.if_so (by decide) ?_
  refine wpAny_bind (wpAny_of_eq (a := ()) check_fk ?_)
  refine wpAny_bind (wpAny_pure (wpAny_pure ?_))
  refine ⟨quiet_fk, codeAny_builtin entry_fk ?_⟩
  rw [Around.under_plainId plain_fk _]
  refine fk_tree (A := A) (A' := A.in1) (prog := prog) (w := w) (s := s) (t := t) (R := fun r s' => match r with | .ok (.ret v) => Q v s' | .ok _ => False | .error e => E e s') hh hx hnd hsz ?_
  intro D h' tk a1 a2 a3
  exact h D h' tk a1 a2 a3
end
end FK
set_option maxRecDepth 100000
set_option maxHeartbeats 4000000
noncomputable def intEs (cs : List Nat) : List (Int × Value) := cs.map fun (c : Nat) => ((c : Int), Value.none)
theorem storedI_new {cs : List Nat} {c : Nat} (h : c ∉ cs) : stored (intEs cs) (c : Int) Value.none = intEs (cs ++ [c]) := by
  unfold stored
  rw [if_neg]
  · simp [intEs]
  · simp only [intEs, List.any_map, List.any_eq_true, Function.comp, decide_eq_true_eq]
    rintro ⟨x, hx, e⟩
    exact h (by rw [← Int.natCast_inj.mp e]; exact hx)
namespace MT
theorem entry : entryFor table "str.maketrans" = some Builtin.«str.maketrans» := entryFor_of_fast (by kernel_rfl)
theorem plain : plainId "str.maketrans" = true := by decide +kernel
end MT
section
variable {prog : Program} {w : World} {A : Around} {E : Value → Shared → Prop}
theorem mt_loop {h0 : Heap} {T : Addr} {f : DictEntry → PUnit → Sem (ForInStep PUnit)} (hT0 : h0.get? T = none)
   (hf : ∀ (e : DictEntry) (c : Nat) (t : Tok) (s : Shared) (Q : ForInStep PUnit → Shared → Prop), e.key = .str (chS c) t → e.val = .none → wpAny (model prog w) A (dictSet T (.int c s.toks) .none) (fun _ s' => Q (.yield ()) s') E { s with toks := s.toks + 1 } → wpAny (model prog w) A (f e ()) Q E s) :
   ∀ (es : List DictEntry) (cs done : List Nat) (s : Shared) {Q : PUnit → Shared → Prop}, Pairs (strKind prog w) es (keyEs cs) → (∀ i (h : i < (done ++ cs).length), (done ++ cs)[i] ∉ (done ++ cs).take i) → (done ++ cs).length ≤ 1000 → h0.StaysIn s.heap → s.heap.DictOf (intKind prog w) T (intEs done) →
   (∀ h' tk, h0.StaysIn h' → h'.DictOf (intKind prog w) T (intEs (done ++ cs)) → Q () { s with heap := h', toks := tk }) →
   wpAny (model prog w) A (forIn es PUnit.unit f) Q E s := by
  intro es
  induction es with
  | nil =>
    intro cs done s Q hp hnd hsz k hm hQ
    cases cs with
    | cons c cs => cases hp
    | nil =>
      rw [List.append_nil] at hQ
      exact wpAny_pure (hQ _ _ k hm)
  | cons e es ih =>
    intro cs done s Q hp hnd hsz k hm hQ
    cases cs with
    | nil => cases hp
    | cons c cs =>
      cases hp with
      | cons hk hv hp =>
        obtain ⟨t, ek⟩ : ∃ t, e.key = .str (chS c) t := Value.isStrOf_shape hk
        rw [List.forIn_cons]
        have e1 : done ++ c :: cs = (done ++ [c]) ++ cs := by simp
        have hnm : c ∉ done := by
          have := hnd done.length (by simp)
          simpa using this
        refine wpAny_bind (hf e c t s _ ek hv ?_)
        have hkl : (intEs done).length ≤ sizeLine := by
          simp only [intEs, List.length_map]
          rw [List.length_append] at hsz
          exact Nat.le_trans (show done.length ≤ 1000 by omega) (by decide)
        refine wpAny_dictSet_pairs (hsz := hkl) (intKind_is prog w (c : Int) s.toks) hm fun h2 hm2 hs2 => ?_
        rw [storedI_new hnm] at hm2
        dsimp only
        refine ih cs (done ++ [c]) _ hp (by rw [← e1]; exact hnd) (by rw [← e1]; exact hsz) (stays_but k hT0 hs2) hm2 fun h' tk k' hm' => hQ h' tk k' ?_
        rw [e1]
        exact hm'
theorem mt_tree {s : Shared} {cs : List Nat} {D : Addr} {Q : Fin → Shared → Prop} (hm : s.heap.DictOf (strKind prog w) D (keyEs cs)) (hD : (D == sysModules) = false) (hnd : ∀ i (h : i < cs.length), cs[i] ∉ cs.take i) (hsz : cs.length ≤ 1000)
   (hR : ∀ T h' tk, s.heap.StaysIn h' → s.heap.objs.size ≤ T → h'.DictOf (intKind prog w) T (intEs cs) → Q (.done (.ret (.ref T))) { s with heap := h', toks := tk }) :
   wpAny (model prog w) A (Builtin.«str.maketrans» ⟨[.ref D], []⟩) Q E s := by
  unfold Builtin.«str.maketrans»
  refine wpAny_bind (wpAny_pure ?_)
  refine wpAny_bind (wpAny_pure ?_)
  refine wpAny_bind (wpAny_of_eq (a := none) rfl ?_)
  refine wpAny_bind (wpAny_of_eq (a := none) rfl ?_)
  refine wpAny_bind (wpAny_newObj_type (T := "dict") (data := .dict #[]) (dict := none) ?_)
  dsimp only [List.headD_cons]
  have hm1 := hm.push dictE
  refine wpAny_bind (wpAny_holding ?_)
  refine wpAny_bind (wpAny_typeOf (s := { s with heap := s.heap.push dictE }) hm1.typeIs ?_)
  refine wpAny_bind (wpAny_pure ?_)
  refine wpAny_bind (wpAny_typeOf (s := { s with heap := s.heap.push dictE }) hm1.typeIs ?_)
  refine KFB.if_not (by decide) ?_
  refine wpAny_bind ?_
  unfold notTheModulesDict
  refine KFB.if_not hD (wpAny_pure ?_)
  obtain ⟨o, es, ep, ho, hc, hd, hk, hp, hn⟩ := id hm1
  refine wpAny_bind (wpAny_dictEntries ho hd ?_)
  rw [← Array.forIn_toList]
  have hn0 : s.heap.get? s.heap.objs.size = none := Heap.get?_none_of_le (Nat.le_refl _)
  refine wpAny_bind (mt_loop (h0 := s.heap) (T := s.heap.objs.size) hn0 ?_ es.toList cs [] _ hp hnd hsz (stays_push (fun _ _ e => e) _) (Heap.DictOf.new s.heap) fun h' tk k hm' => ?_)
  · intro e c t s' Q' ek ev hq
    rw [ek, ev]
    refine wpAny_bind (wpAny_pure ?_)
    dsimp only [chS]
    refine wpAny_bind (wpAny_mkInt ?_)
    exact wpAny_bind (wpAny_mono hq (fun _ _ q => wpAny_pure q) fun _ _ e => e)
  · exact wpAny_pure (wpAny_pure (hR _ h' tk k (Nat.le_refl _) hm'))
end
set_option maxRecDepth 100000
set_option maxHeartbeats 4000000
namespace MT
theorem check (v : Value) : checkBuiltinCall "str.maketrans" ⟨[v], []⟩ = pure () := by kernel_rfl
theorem sub_key : isSubtype (.type "KeyError") (.type "LookupError") = pure true := by rw [isSubtype_type]; kernel_rfl
end MT
section
variable {prog : Program} {w : World} {A : Around} {E : Value → Shared → Prop}
theorem call_mt {s : Shared} {cs : List Nat} {D : Addr} {Q : Value → Shared → Prop} (hm : s.heap.DictOf (strKind prog w) D (keyEs cs)) (hD : (D == sysModules) = false) (hnd : ∀ i (h : i < cs.length), cs[i] ∉ cs.take i) (hsz : cs.length ≤ 1000)
   (hR : ∀ T h' tk, s.heap.StaysIn h' → s.heap.objs.size ≤ T → h'.DictOf (intKind prog w) T (intEs cs) → Q (.ref T) { s with heap := h', toks := tk }) :
   wpAny (model prog w) A (call (.builtin "str.maketrans") [.ref D]) Q E s := by
  refine wpAny_call (codeAny_call_builtin MT.plain MT.entry (wpAny_of_eq (MT.check _) ?_))
  exact mt_tree hm hD hnd hsz fun T h' tk a b c => hR T h' tk a b c
theorem valueAt_int {cs : List Nat} {c : Nat} : valueAt (intEs cs) (c : Int) = if c ∈ cs then some .none else none := by
  induction cs with
  | nil => rfl
  | cons a cs ih =>
    unfold valueAt intEs at *
    rw [List.map_cons, List.find?_cons]
    by_cases h : a = c
    · subst h; simp
    · rw [show decide (((a : Int), Value.none).1 = (c : Int)) = false by simpa using (fun e => h (Int.natCast_inj.mp e))]
      rw [ih]
      simp [List.mem_cons, Ne.symm h]
theorem tlook {s : Shared} {cs : List Nat} {T : Addr} {c : Nat} {Q : Builtin.Str.Mapped → Shared → Prop} (hh : A.handled = none) (hm : s.heap.DictOf (intKind prog w) T (intEs cs)) (hT : (T == sysModules) = false)
   (h : ∀ h' tk, s.heap.StaysIn h' → Q (if c ∈ cs then .drop else .keep) { s with heap := h', toks := tk }) : wpAny (model prog w) A (Builtin.Str.tableLookup (.ref T) c) Q E s := by
  unfold Builtin.Str.tableLookup
  refine wpAny_bind (wpAny_attempt (wpAny_bind (wpAny_mkInt ?_)))
  by_cases hc : c ∈ cs
  · refine wpAny_getItem_of (s := { s with toks := s.toks + 1 }) (v := .none) (intKind_is prog w (c : Int) s.toks) hm.mapOf (by rw [valueAt_int, if_pos hc]) ?_
    refine wpAny_pure ?_
    have := h s.heap (s.toks + 1 + 1) (fun _ _ e => e)
    rw [if_pos hc] at this
    exact this
  · refine wpAny_getItem_missing_of (s := { s with toks := s.toks + 1 }) (intKind_is prog w (c : Int) s.toks) hT hh hm.mapOf (by rw [valueAt_int, if_neg hc]) fun h' e ne => ?_
    obtain ⟨ob, te, ho, hc', hd⟩ := ne.there
    have hTe : ({ s with heap := h', toks := s.toks + 1 + 1 } : Shared).TypeIs (.ref e) "KeyError" := ⟨ob, ho, hc'⟩
    refine wpAny_bind (wpAny_isInstance hTe MT.sub_key ?_)
    refine KFB.if_so rfl (wpAny_bind (wpAny_rule (wpAny_pure ?_)))
    have := h h' (s.toks + 1 + 1) ne.keeps
    rw [if_neg hc] at this
    exact this
noncomputable def trS : Type := List Str × Nat × Bool × List (Nat × Option Nat) × Bool
noncomputable def KnownOK (cs : List Nat) (kn : List (Nat × Option Nat)) : Prop := ∀ c a, kn.lookup c = some a → a = if c ∈ cs then none else some c
theorem tr_loop {h0 : Heap} {cs : List Nat} {b : Bool} {f : Nat → (List Str × Nat × Bool × List (Nat × Option Nat) × Bool) → Sem (ForInStep (List Str × Nat × Bool × List (Nat × Option Nat) × Bool))}
   (hf : ∀ (c : Nat) (ps : List Str) (n : Nat) (kn : List (Nat × Option Nat)) (ad : Bool) (s : Shared) (Q : ForInStep (List Str × Nat × Bool × List (Nat × Option Nat) × Bool) → Shared → Prop), h0.StaysIn s.heap → n ≤ 1000 → KnownOK cs kn →
     (∀ h' tk kn' ad', h0.StaysIn h' → KnownOK cs kn' → Q (.yield (if c ∈ cs then (ps, n, b, kn', ad') else (chS c :: ps, n + 1, b, kn', ad'))) { s with heap := h', toks := tk }) → wpAny (model prog w) A (f c (ps, n, b, kn, ad)) Q E s) :
   ∀ (xs : List Nat) (ps : List Str) (n : Nat) (kn : List (Nat × Option Nat)) (ad : Bool) (s : Shared) {Q : (List Str × Nat × Bool × List (Nat × Option Nat) × Bool) → Shared → Prop}, h0.StaysIn s.heap → n + xs.length ≤ 1000 → KnownOK cs kn →
   (∀ h' tk n' kn' ad', h0.StaysIn h' → n' ≤ n + xs.length → Q (((xs.filter fun c => !decide (c ∈ cs)).map chS).reverse ++ ps, n', b, kn', ad') { s with heap := h', toks := tk }) →
   wpAny (model prog w) A (forIn xs (ps, n, b, kn, ad) f) Q E s := by
  intro xs
  induction xs with
  | nil =>
    intro ps n kn ad s Q k hn hk hQ
    exact wpAny_pure (hQ _ _ n kn ad k (Nat.le_refl _))
  | cons c xs ih =>
    intro ps n kn ad s Q k hn hk hQ
    rw [List.length_cons] at hn
    rw [List.forIn_cons]
    refine wpAny_bind (hf c ps n kn ad s _ k (by omega) hk fun h' tk kn' ad' k' hk' => ?_)
    by_cases hc : c ∈ cs
    · rw [if_pos hc]
      refine ih ps n kn' ad' _ k' (by omega) hk' fun h2 tk2 n2 kn2 ad2 k2 hn2 => ?_
      have := hQ h2 tk2 n2 kn2 ad2 k2 (by rw [List.length_cons]; omega)
      rw [List.filter_cons_of_neg (by simpa using hc)] at this
      exact this
    · rw [if_neg hc]
      refine ih (chS c :: ps) (n + 1) kn' ad' _ k' (by omega) hk' fun h2 tk2 n2 kn2 ad2 k2 hn2 => ?_
      have := hQ h2 tk2 n2 kn2 ad2 k2 (by rw [List.length_cons]; omega)
      rw [List.filter_cons_of_pos (by simpa using hc), List.map_cons, List.reverse_cons, List.append_assoc] at this
      exact this
theorem fold_chS (l : List Nat) (acc : Array Nat) : (l.map chS).foldl (fun (acc : Array Nat) (p : Str) => acc ++ p.cps) acc = acc ++ l.toArray := by
  induction l generalizing acc with
  | nil => simp
  | cons c l ih =>
    rw [List.map_cons, List.foldl_cons, ih]
    simp [chS]
theorem not_long {n : Nat} (h : n ≤ 1000) : Builtin.Str.tooLong n = false := by
  show decide (n > _) = false
  rw [decide_eq_false_iff_not]
  exact Nat.not_lt.mpr (Nat.le_trans h (by decide))
theorem tr_tree {s : Shared} {cs : List Nat} {T : Addr} {x : Str} {t : Tok} {Q : Fin → Shared → Prop} (hh : A.handled = none) (hm : s.heap.DictOf (intKind prog w) T (intEs cs)) (hT : (T == sysModules) = false) (hx : 0 < x.cps.size) (hx2 : x.cps.size ≤ 1000)
   (h : ∀ h' tk tv, s.heap.StaysIn h' → Q (.done (.ret (.str ⟨(x.cps.toList.filter fun c => !decide (c ∈ cs)).toArray⟩ tv))) { s with heap := h', toks := tk }) : wpAny (model prog w) A (Builtin.«str.translate» ⟨[.str x t, .ref T], []⟩) Q E s := by
  unfold Builtin.«str.translate»
  refine wpAny_bind (wpAny_of_eq (a := (.str x t, x, .ref T)) rfl ?_)
  refine KFB.if_not (by show (x.cps.size == 0) = false; rw [beq_eq_false_iff_ne]; omega) ?_
  dsimp only
  rw [← Array.forIn_toList]
  refine wpAny_bind (tr_loop (h0 := s.heap) (cs := cs) (b := x.cps.all (· < 128)) ?_ x.cps.toList [] 0 [] false _ (fun _ _ e => e) (by rw [Array.length_toList]; omega) (fun c a e => nomatch e) fun h' tk n' kn' ad' k hn' => ?_)
  · intro c ps n kn ad s' Q' k' hn' hk' hq
    have hm' : s'.heap.DictOf (intKind prog w) T (intEs cs) := hm.keep k'
    dsimp only
    refine KFB.if_not (not_long hn') ?_
    cases hb : x.cps.all (· < 128) with
    | true =>
      refine KFB.if_so rfl ?_
      cases hl : kn.lookup c with
      | some a =>
        have ha := hk' c a hl
        subst ha
        dsimp only
        refine wpAny_bind (wpAny_pure ?_)
        have := hq s'.heap s'.toks kn ad k' hk'
        by_cases hc : c ∈ cs
        · rw [if_pos hc] at this ⊢
          rw [hb] at this
          exact wpAny_pure this
        · rw [if_neg hc] at this ⊢
          rw [hb] at this
          exact wpAny_pure this
      | none =>
        dsimp only
        refine wpAny_bind (tlook hh hm' hT fun h' tk k2 => ?_)
        have := hq h' tk ((c, if c ∈ cs then none else some c) :: kn) ad (fun b o e => k2 b o (k' b o e)) ?_
        · by_cases hc : c ∈ cs
          · rw [if_pos hc, if_pos hc] at this
            rw [if_pos hc]
            rw [hb] at this
            exact wpAny_bind (wpAny_pure (wpAny_pure this))
          · rw [if_neg hc, if_neg hc] at this
            rw [if_neg hc]
            rw [hb] at this
            exact wpAny_bind (wpAny_pure (wpAny_pure this))
        · intro c' a' hl'
          rw [List.lookup_cons] at hl'
          by_cases e : c' = c
          · subst e
            rw [show (c' == c') = true from beq_self_eq_true _] at hl'
            exact (Option.some.inj hl').symm
          · rw [show (c' == c) = false by simpa using e] at hl'
            exact hk' c' a' hl'
    | false =>
      refine KFB.if_not rfl ?_
      have fin : ∀ s2 : Shared, s'.heap.StaysIn s2.heap → (∃ h2 tk2, s2 = { s' with heap := h2, toks := tk2 }) → wpAny (model prog w) A (Builtin.Str.tableLookup (.ref T) c) (fun r s3 => wpAny (model prog w) A (match r with
          | Builtin.Str.Mapped.keep => pure (ForInStep.yield ({ cps := #[c] } :: ps, n + 1, false, kn, false))
          | Builtin.Str.Mapped.drop => pure (ForInStep.yield (ps, n, false, kn, true))
          | Builtin.Str.Mapped.char d => pure (ForInStep.yield ({ cps := #[d] } :: ps, n + 1, false, kn, false))
          | Builtin.Str.Mapped.text t => pure (ForInStep.yield (t :: ps, n + t.length, false, kn, false))) Q' E s3) E s2 := by
        rintro s2 k2 ⟨h2, tk2, rfl⟩
        refine tlook hh (hm'.keep k2) hT fun h3 tk3 k3 => ?_
        by_cases hc : c ∈ cs
        · rw [if_pos hc]
          have := hq h3 tk3 kn true (fun b o e => k3 b o (k2 b o (k' b o e))) hk'
          rw [if_pos hc, hb] at this
          exact wpAny_pure this
        · rw [if_neg hc]
          have := hq h3 tk3 kn false (fun b o e => k3 b o (k2 b o (k' b o e))) hk'
          rw [if_neg hc, hb] at this
          exact wpAny_pure this
      cases ad with
      | false =>
        refine KFB.if_not rfl ?_
        exact wpAny_bind (fin s' (fun _ _ e => e) ⟨_, _, rfl⟩)
      | true =>
        refine KFB.if_so rfl ?_
        refine wpAny_bind (tlook hh hm' hT fun h3 tk3 k3 => ?_)
        by_cases hc : c ∈ cs
        · rw [if_pos hc]
          have := hq h3 tk3 kn true (fun b o e => k3 b o (k' b o e)) hk'
          rw [if_pos hc, hb] at this
          exact wpAny_pure this
        · rw [if_neg hc]
          exact wpAny_bind (fin _ k3 ⟨_, _, rfl⟩)
  · rw [Array.length_toList, Nat.zero_add] at hn'
    refine KFB.if_not (not_long (Nat.le_trans hn' hx2)) ?_
    dsimp only
    rw [List.append_nil, List.reverse_reverse, fold_chS]
    have hl : (x.cps.toList.filter fun c => !decide (c ∈ cs)).length ≤ 1000 := Nat.le_trans (List.length_filter_le _ _) (by rw [Array.length_toList]; exact hx2)
    refine wpAny_bind (wpAny_mkStr (hx := ?_) (wpAny_pure ?_))
    · have := h h' (tk + 1) tk k
      simpa using this
    · show (_ : Array Nat).size ≤ sizeLine
      simp only [Array.empty_append, List.size_toArray]
      exact Nat.le_trans hl (by decide)
theorem call_tr {s : Shared} {cs : List Nat} {T : Addr} {x : Str} {t : Tok} {Q : Value → Shared → Prop} (hh : A.handled = none) (hm : s.heap.DictOf (intKind prog w) T (intEs cs)) (hT : (T == sysModules) = false) (hx : 0 < x.cps.size) (hx2 : x.cps.size ≤ 1000)
   (h : ∀ h' tk tv, s.heap.StaysIn h' → Q (.str ⟨(x.cps.toList.filter fun c => !decide (c ∈ cs)).toArray⟩ tv) { s with heap := h', toks := tk }) : wpAny (model prog w) A (call (.builtin "str.translate") [.str x t, .ref T]) Q E s :=
  wpAny_call_entry F.slot_str_translate (typeIs_str s x t) F.entry_str_translate (tr_tree (A := A.in1) hh hm hT hx hx2 fun h' tk tv k => ⟨_, rfl, h h' tk tv k⟩) (F.args_str_translate_2 _ _)
end
set_option maxRecDepth 100000
set_option maxHeartbeats 4000000
section
variable {w : World} {A₀ : Around} {base h₀ : Heap} {outer : List Env} {mean : ExcName → Option Value} {mg mb : Str → Option Value} {cn : Str} {cs : Scope} {L a : Addr} {ccd : Value} {dp un : Nat} {gd : Option (List Code)} {m : Str → Option Value} {rest : List (Addr × Obj)} {s : Shared} {Q : Flow → Shared → Prop} {E' : Value → Shared → Prop}
theorem mI_set {x io : Addr} {px : Bool} {v v' : Value} {buf : Str} {tb : Tok} : (fun y => if y = S "punctuation_chars" then some v' else mI x io px v buf tb y) = mI x io px v' buf tb := by
  funext y
  by_cases h1 : y = S "punctuation_chars"
  · subst h1
    rw [if_pos rfl]
    kernel_rfl
  · rw [if_neg h1]
    have hb : (y == S "punctuation_chars") = false := by simpa using h1
    show (if y = S "instream" then some (Value.ref io) else List.lookup y ((S "punctuation_chars", v) :: [(S "posix", .bool px), (S "infile", .none), (S "instream", .str buf tb), (S "self", .ref x)])) = (if y = S "instream" then some (Value.ref io) else List.lookup y ((S "punctuation_chars", v') :: [(S "posix", .bool px), (S "infile", .none), (S "instream", .str buf tb), (S "self", .ref x)]))
    simp only [List.lookup_cons, hb]
noncomputable def marks : Str := S "!%&()*+,-./:;<=>@\x5b]^{|}~"
noncomputable def trOf (mk wc : Str) : Str := ⟨((wc ++ S "~-./*?=").cps.toList.filter fun c => !decide (c ∈ mk.cps.toList)).toArray⟩
noncomputable def marksT : Str := S "();<>|&"
theorem gm_translate {prog : Program} {A : Around} {E : Value → Shared → Prop} {xx : Str} {u : Tok} {pl : Sem Bool} {Q : Value × List Value → Shared → Prop} {s : Shared} (hq : Q (.builtin "str.translate", [.str xx u]) s) : wpAny (model prog w) A (getMethod (.str xx u) (S "translate") pl) Q E s := by
  have a2 : s.TypeIs (.str xx u) "str" := rfl
  have a1 := PySem.getMethod_builtin (T := "str") (id := "str.translate") (M := model prog w) (E := E) (A := A) (pl := pl) (Q := Q) (s := s) (v := .str xx u) (name := S "translate") a2 F.plainAttrs_str F.slot_str_translate F.type_str_translate (fun a e => nomatch e)
  exact a1 hq
theorem init_tail {px : Bool} {wcv : Str} {x d io dio pb fs : Addr} {buf : Str} {tb tm : Tok} {mk : Str} {eofv : Value} {t1 t2 t3 tb' t4 tp k0 k1 k2 k3 k4 k5 k6 k7 k8 k9 k10 k11 k12 k13 k14 k15 k16 k17 v4 v5 v6 v8 v9 v10 v11 v13 v14 v15 : Tok}
   (G : Cx w A₀ base h₀ outer mean mg mb F656.sc dp un 12) (F : Fr h₀ L s.heap (mI x io px (.str mk tm) buf tb))
   (N : News h₀ L s.heap ((fs, dqO) :: (pb, dqO) :: (io, instObj 597 dio) :: (dio, dictOf (sioEs w.params t1 t2 t3 tb' t4 tp buf 0) 3) :: (x, instObj 732 d) :: (d, dictOf [E w.params "instream" k0 (.ref io), E w.params "infile" k1 .none, E w.params "posix" k2 (.bool px), E w.params "eof" k3 eofv, E w.params "commenters" k4 (.str (S "#") v4), E w.params "wordchars" k5 (.str wcv v5),
        E w.params "whitespace" k6 (.str (S " \t\r\n") v6), E w.params "whitespace_split" k7 (.bool false), E w.params "quotes" k8 (.str (S "'\"") v8), E w.params "escape" k9 (.str (S "\\") v9), E w.params "escapedquotes" k10 (.str (S "\"") v10), E w.params "state" k11 (.str (S " ") v11), E w.params "pushback" k12 (.ref pb), E w.params "lineno" k13 (.int 1 v13), E w.params "debug" k14 (.int 0 v14), E w.params "token" k15 (.str (S "") v15), E w.params "filestack" k16 (.ref fs), E w.params "source" k17 .none] 18) :: rest))
   (o1 : @LT.lt Nat _ d x) (o2 : @LT.lt Nat _ x dio) (o3 : @LT.lt Nat _ dio io) (o4 : @LT.lt Nat _ io pb) (o5 : @LT.lt Nat _ pb fs) (hr : ∀ q ∈ rest, q.1 ≠ d) (hw : wcv.length ≤ 900) (hne : nonE mk = true) (hm63 : (mk.length : Int) < 9223372036854775808) (hma : mk.cps.all (· < 128) = true) (hmn : ∀ i (h : i < mk.cps.size), mk.cps[i] ∉ mk.cps.toList.take i) (hmz : mk.cps.size ≤ 1000)
   (h : ∀ h' tk m' (pc : Addr) (k18 v18 k19 v5' : Tok), @LT.lt Nat _ fs pc → Fr h₀ L h' m' → News h₀ L h' ((pc, dqO) :: (fs, dqO) :: (pb, dqO) :: (io, instObj 597 dio) :: (dio, dictOf (sioEs w.params t1 t2 t3 tb' t4 tp buf 0) 3) :: (x, instObj 732 d) :: (d, dictOf [E w.params "instream" k0 (.ref io), E w.params "infile" k1 .none, E w.params "posix" k2 (.bool px), E w.params "eof" k3 eofv, E w.params "commenters" k4 (.str (S "#") v4), E w.params "wordchars" k5 (.str (trOf mk wcv) v5'),
        E w.params "whitespace" k6 (.str (S " \t\r\n") v6), E w.params "whitespace_split" k7 (.bool false), E w.params "quotes" k8 (.str (S "'\"") v8), E w.params "escape" k9 (.str (S "\\") v9), E w.params "escapedquotes" k10 (.str (S "\"") v10), E w.params "state" k11 (.str (S " ") v11), E w.params "pushback" k12 (.ref pb), E w.params "lineno" k13 (.int 1 v13), E w.params "debug" k14 (.int 0 v14), E w.params "token" k15 (.str (S "") v15), E w.params "filestack" k16 (.ref fs), E w.params "source" k17 .none, E w.params "_punctuation_chars" k18 (.str mk v18), E w.params "_pushback_chars" k19 (.ref pc)] 20) :: rest) → Q .next { s with heap := h', toks := tk }) :
   wpAny (model pw w) (A6 dp un gd L outer) (execs [I6.a20, I6.a21] (envI L)) Q E' s := by
  obtain ⟨B, X, T, hk, room, hun⟩ := id G
  have hfi := fill_it
  revert hfi
  k_fill
  intro hfi
  clear hfi
  generalize e1 : [I6.a21] = tl
  dsimp only [I6, F656]
  k_steps
  subst e1
  dsimp only [I6, F656]
  rename Fr _ _ _ _ => F8
  rename News _ _ _ _ => N8
  refine wpAny_execs_cons (wpAny_If (isTrue_plain (ld (v := .str mk tm) F8 (by kernel_rfl) (truthy_strB hne hm63 fun tk => ?_)) (by intros; rfl)))
  rw [if_pos rfl]
  k_steps
  rename Fr _ _ _ _ => F9
  rename News _ _ _ _ => N9
  refine call_deque F9 N9 fun pc h9 l9 F10 N10 => ?_
  have o6 : @LT.lt Nat _ fs pc := l9 _ (.head _)
  clear N9 F9
  k_steps
  refine gm_maketrans ?_
  k_steps
  rename Fr _ _ _ _ => F11
  rename News _ _ _ _ => N11
  refine FK.getm F11 N11 X (by kernel_rfl) fun xb hb F12 N12 => ?_
  clear F11 N11
  dsimp only
  refine FK.callWith_bound ?_
  k_steps
  · exact N12.get (.head _)
  refine FK.call_of (N12.get (.head _)) rfl hma hmn hmz fun D h13 tk13 k13 l13 hm13 => ?_
  have F13 := F12.keeps k13
  have N13 := N12.keeps k13
  have hDs : (D == sysModules) = false := beq_eq_false_iff_ne.mpr (Nat.ne_of_gt (Nat.lt_of_lt_of_le (Nat.lt_of_le_of_lt (Nat.le_of_lt (Nat.lt_of_lt_of_le (modules_low T.nolimit) F12.above)) F12.ns.lt) l13))
  clear F12 N12
  k_steps
  refine call_mt hm13 hDs (by simpa using hmn) (by simpa using hmz) fun T' h14 tk14 k14 l14 hm14 => ?_
  have F14 := F13.keeps k14
  obtain ⟨oT, hoT, hdT⟩ := Heap.dictOf_iff.mp hm14
  have o7 : @LT.lt Nat _ pc T' := Nat.lt_of_lt_of_le (Heap.lt_size (N13 _ (.tail _ (.head _))).1) l14
  have N14 : News h₀ L h14 ((T', oT) :: _) := fun q hq => by
    cases hq with
    | head => exact ⟨hoT, Nat.ne_of_gt (Nat.lt_of_lt_of_le F13.ns.lt l14), Heap.get?_none_of_le (Nat.le_trans (Nat.le_of_lt (Nat.lt_of_le_of_lt F13.above F13.ns.lt)) l14)⟩
    | tail _ hq => exact N13.keeps k14 q hq
  have hTs : (T' == sysModules) = false := beq_eq_false_iff_ne.mpr (Nat.ne_of_gt (Nat.lt_of_lt_of_le (Nat.lt_of_le_of_lt (Nat.le_of_lt (Nat.lt_of_lt_of_le (modules_low T.nolimit) F13.above)) F13.ns.lt) l14))
  clear F13 N13
  k_steps
  refine gm_translate ?_
  k_steps
  rename Fr _ _ _ _ => F15
  rename News _ _ _ _ => N15
  have hw2 : (wcv ++ S "~-./*?=").cps.size = wcv.cps.size + 7 := by
    show (wcv.cps ++ (S "~-./*?=").cps).size = _
    rw [Array.size_append]
    congr 1
  have hw' : wcv.cps.size ≤ 900 := hw
  refine call_tr (cs := mk.cps.toList) rfl (Heap.dictOf_iff.mpr ⟨oT, N15.get (.head _), hdT⟩) hTs (by rw [hw2]; omega) (by rw [hw2]; omega) fun h16 tk16 tv16 k16 => ?_
  have F16 := F15.keeps k16
  have N16 : News h₀ L h16 ((pc, dqO) :: _) := fun q hq => N15.keeps k16 q (.tail _ (.tail _ hq))
  clear F15 N15
  k_steps
  rename Fr _ _ _ _ => F17
  rename News _ _ _ _ => N17
  exact h _ _ _ _ _ _ _ _ o6 F17 N17
end
set_option maxRecDepth 100000
set_option maxHeartbeats 4000000
section
variable {w : World} {A₀ : Around} {base h₀ : Heap} {outer : List Env} {mean : ExcName → Option Value} {mg mb : Str → Option Value} {cn : Str} {cs : Scope} {L a : Addr} {ccd : Value} {dp un : Nat} {gd : Option (List Code)} {m : Str → Option Value} {rest : List (Addr × Obj)} {s : Shared} {Q : Flow → Shared → Prop} {E' : Value → Shared → Prop}
noncomputable def Mid (px : Bool) (pcv : Value) (mk : Str) (w : World) : Prop := ∀ {h₀ : Heap} {outer : List Env} {L : Addr} {dp un : Nat} {gd : Option (List Code)} {rest : List (Addr × Obj)} {s : Shared} {Q : Flow → Shared → Prop} {E' : Value → Shared → Prop} {x io : Addr} {buf : Str} {tb : Tok},
   Fr h₀ L s.heap (mI x io px pcv buf tb) → News h₀ L s.heap rest → (∀ h' tk tm, Fr h₀ L h' (mI x io px (.str mk tm) buf tb) → News h₀ L h' rest → Q .next { s with heap := h', toks := tk }) → wpAny (model pw w) (A6 dp un gd L outer) (exec I6.a19 (envI L)) Q E' s
theorem mid_s {px : Bool} {mk : Str} {tm : Tok} (hne : nonE mk = true) (hm63 : (mk.length : Int) < 9223372036854775808) : Mid px (.str mk tm) mk w := by
  intro h₀ outer L dp un gd rest s Q E' x io buf tb F N h
  dsimp only [I6, F656]
  refine wpAny_If (isTrue_not (isTrue_plain (ld (v := .str mk tm) F (by kernel_rfl) (truthy_strB hne hm63 fun tk => ?_)) (by intros; rfl)))
  rw [if_neg (by decide)]
  k_steps
  exact h _ _ _ F N
theorem mid_t {px : Bool} : Mid px (.bool true) marksT w := by
  intro h₀ outer L dp un gd rest s Q E' x io buf tb F N h
  dsimp only [I6, F656]
  k_steps
  rename Fr _ _ _ _ => F5
  rename News _ _ _ _ => N5
  have F6 : Fr h₀ L _ (fun y => if y = S "punctuation_chars" then some (Value.str marksT _) else mI x io px (.bool true) buf tb y) := F5
  rw [mI_set] at F6
  exact h _ _ _ F6 N5
end
section
variable {w : World} {A₀ : Around} {base h₀ : Heap} {outer : List Env} {mean : ExcName → Option Value} {mg mb : Str → Option Value} {cn : Str} {cs : Scope} {L a : Addr} {ccd : Value} {dp un : Nat} {gd : Option (List Code)} {m : Str → Option Value} {rest : List (Addr × Obj)} {s : Shared} {Q E' : Value → Shared → Prop}
/-- shlex(text, None, posix, marks) -/
theorem t_newP {pcv : Value} {mk : Str} {buf : Str} {tb : Tok} {px : Bool} {args : Args}
   (G : Cx w A₀ base h₀ outer mean mg mb cs dp un 16) (F : Fr h₀ L s.heap m) (N : News h₀ L s.heap rest) (hb : buf.length ≤ 10000) (mid : Mid px pcv mk w) (hne : nonE mk = true) (hm63 : (mk.length : Int) < 9223372036854775808) (hma : mk.cps.all (· < 128) = true) (hmn : ∀ i (h : i < mk.cps.size), mk.cps[i] ∉ mk.cps.toList.take i) (hmz : mk.cps.size ≤ 1000)
   (ha : ∀ x h', K w.params |>.In h' → BindsTo { s with heap := h' } (fnOf (S "__init__") (S "shlex.__init__") F656.ps F656.b F656.sc (.ref 649) .none .none (.str (S "cpy313.shlex") 1087) none (.ref 655) .none) ⟨.ref x :: args.pos, args.kw⟩ [(S "self", .ref x), (S "instream", .str buf tb), (S "infile", .none), (S "posix", .bool px), (S "punctuation_chars", pcv)])
   (h : ∀ l x h' tk tst ttok tp pc, MkL w.params l x buf px (S "#") (trOf mk (wcOf px)) mk false ((pc, dqO) :: (l.fs, dqO) :: (l.pb, dqO) :: rest) → Fr h₀ L h' m → News h₀ L h' (lexL w.params l x .sp tst ttok tp 0 ((pc, dqO) :: (l.fs, dqO) :: (l.pb, dqO) :: rest)) → Q (.ref l.x) { s with heap := h', toks := tk }) :
   wpAny (model pw w) (aT dp un gd cn cs L a ccd outer) (call (.ref 732) args.pos args.kw) Q E' s := by
  obtain ⟨B, X, T, hk, room, hun⟩ := G
  have hfi := fill_it
  revert hfi
  k_fill
  intro hfi
  clear hfi
  refine call_cls (fI := 656) F X N (by kernel_rfl) (by kernel_rfl) (by kernel_rfl) ?_
  intro x' d' h' F' N' l1 l2
  rw [under_make]
  refine code_def (binds := [(S "self", .ref x'), (S "instream", .str buf tb), (S "infile", .none), (S "posix", .bool px), (S "punctuation_chars", pcv)]) B F' X N' T rfl rfl hk (l656 _) (c656 _) (by dsimp only [aT]; omega) (ha _ _ (X.keeps F'.keep)) (locs rfl) ?_ rfl rfl rfl (by decide)
  intro g' L' h1 FG' F1 N1 B' X' T'
  have G' : Cx w (aT (dp + 1) (un + 1) gd cn cs L a ccd outer) base g' (envOf cn cs L a ccd :: outer) mean mg mb F656.sc (dp + 2) (un + 4) 12 := ⟨B', X', T', rfl, by omega, by omega⟩
  show wpAny (model pw w) (A6 (dp + 2) (un + 4) gd L' (envOf cn cs L a ccd :: outer)) (execs (I6.a0 :: I6.a1 :: I6.a2 :: I6.a3 :: I6.a4 :: I6.a5 :: I6.a6 :: I6.a7 :: I6.a8 :: I6.a9 :: I6.a10 :: I6.a11 :: I6.a12 :: I6.a13 :: I6.a14 :: I6.a15 :: I6.a16 :: I6.a17 :: I6.a18 :: [I6.a19, I6.a20, I6.a21]) (envI L')) _ _ _
  refine init_head G' F1 N1 l1 l2 ?_
  intro h2 tk2 io dio pb fs eofv t1 t2 t3 tb' t4 tp k0 k1 k2 k3 k4 k5 k6 k7 k8 k9 k10 k11 k12 k13 k14 k15 k16 k17 v4 v5 v6 v8 v9 v10 v11 v13 v14 v15 o2 o3 o4 o5 he F2 N2
  have o1 : @LT.lt Nat _ d' x' := l2
  have hr : ∀ q ∈ rest, q.1 ≠ d' := fun q hq => Nat.ne_of_lt (l1 q hq)
  refine wpAny_execs_cons (mid F2 N2 fun h3 tk3 tm F3 N3 => ?_)
  have hw : (wcOf px).length ≤ 900 := by cases px <;> decide +kernel
  refine wpAny_mono (Q := fun fl s' => ∃ h' tk m' pc k18 v18 k19 v5', fl = .next ∧ s' = { s with heap := h', toks := tk } ∧ @LT.lt Nat _ fs pc ∧ Fr g' L' h' m' ∧ News g' L' h' ((pc, dqO) :: (fs, dqO) :: (pb, dqO) :: (io, instObj 597 dio) :: (dio, dictOf (sioEs w.params t1 t2 t3 tb' t4 tp buf 0) 3) :: (x', instObj 732 d') :: (d', dictOf [E w.params "instream" k0 (.ref io), E w.params "infile" k1 .none, E w.params "posix" k2 (.bool px), E w.params "eof" k3 eofv, E w.params "commenters" k4 (.str (S "#") v4), E w.params "wordchars" k5 (.str (trOf mk (wcOf px)) v5'),
        E w.params "whitespace" k6 (.str (S " \t\r\n") v6), E w.params "whitespace_split" k7 (.bool false), E w.params "quotes" k8 (.str (S "'\"") v8), E w.params "escape" k9 (.str (S "\\") v9), E w.params "escapedquotes" k10 (.str (S "\"") v10), E w.params "state" k11 (.str (S " ") v11), E w.params "pushback" k12 (.ref pb), E w.params "lineno" k13 (.int 1 v13), E w.params "debug" k14 (.int 0 v14), E w.params "token" k15 (.str (S "") v15), E w.params "filestack" k16 (.ref fs), E w.params "source" k17 .none, E w.params "_punctuation_chars" k18 (.str mk v18), E w.params "_pushback_chars" k19 (.ref pc)] 20) :: rest))
    (init_tail G' F3 N3 o1 o2 o3 o4 o5 hr hw hne hm63 hma hmn hmz fun h' tk m' pc k18 v18 k19 v5' o6 F4 N4 => ⟨h', tk, m', pc, k18, v18, k19, v5', rfl, rfl, o6, F4, N4⟩) ?_ (fun _ _ e => e)
  rintro fl s' ⟨h4, tk4, m4, pc, k18, v18, k19, v5', rfl, rfl, o6, F4, N4⟩
  refine leaveK_ F4 N4 fun F5 N5 => ?_
  refine ⟨rfl, ?_⟩
  dsimp only
  refine h (l := { io := io, x := x', dx := d', pb := pb, fs := fs, kt := fun i => [k0, k1, k2, k3, k4, k5, k6, k7, k8, k9, k10, k11, k12, k13, k14, k15, k16, k17, k18].getD i 0, vt := fun i => [0, 0, 0, 0, v4, v5', v6, 0, v8, v9, v10, v11, 0, v13, v14, v15, 0, 0, v18].getD i 0, eofv := eofv, com := S "#", wc := trOf mk (wcOf px), pc := mk, px := px, wsp := false, tl := [E w.params "_pushback_chars" k19 (.ref pc)], n := 20 })
    (x := { dio := dio, t1 := t1, t2 := t2, t3 := t3, tb := tb', t4 := t4, buf := buf }) _ _ v11 v15 tp pc (mkL_of rfl rfl rfl rfl rfl rfl o1 o2 o3 ?_ (by show 1 ≤ 10; decide) hb hm63 (fun _ => ⟨_, _, rfl, .head _⟩) (.tail _ (.tail _ (.head _))) (.tail _ (.head _)) he (.inr ⟨_, _, rfl⟩)) F5 (fun q hq => N5 q ?_)
  · intro q hq
    cases hq with
    | head => exact ⟨show @Ne Nat pc d' by omega, show @Ne Nat pc dio by omega⟩
    | tail _ hq => cases hq with
      | head => exact ⟨show @Ne Nat fs d' by omega, show @Ne Nat fs dio by omega⟩
      | tail _ hq => cases hq with
        | head => exact ⟨show @Ne Nat pb d' by omega, show @Ne Nat pb dio by omega⟩
        | tail _ hq => exact ⟨hr q hq, by have := l1 q hq; show @Ne Nat q.1 dio; have : @LT.lt Nat _ q.1 d' := l1 q hq; omega⟩
  · cases hq with
    | head => exact .tail _ (.tail _ (.tail _ (.tail _ (.tail _ (.head _)))))
    | tail _ hq => cases hq with
      | head => exact .tail _ (.tail _ (.tail _ (.tail _ (.tail _ (.tail _ (.head _))))))
      | tail _ hq => cases hq with
        | head => exact .tail _ (.tail _ (.tail _ (.head _)))
        | tail _ hq => cases hq with
          | head => exact .tail _ (.tail _ (.tail _ (.tail _ (.head _))))
          | tail _ hq => cases hq with
            | head => exact .head _
            | tail _ hq => cases hq with
              | head => exact .tail _ (.head _)
              | tail _ hq => cases hq with
                | head => exact .tail _ (.tail _ (.head _))
                | tail _ hq => exact .tail _ (.tail _ (.tail _ (.tail _ (.tail _ (.tail _ (.tail _ hq))))))
end
set_option maxRecDepth 100000
set_option maxHeartbeats 4000000
noncomputable def sreCode : Array Nat := #[14, 17, 4, 1, 1, 21, 9, 0, 604043296, 1, 0, 0, 0, 0, 0, 8, 4, 0, 13, 14, 21, 9, 0, 604043296, 1, 0, 0, 0, 0, 0, 8, 4, 0, 1]
noncomputable def sreM (x : Str) : Sre.M := (Sre.forSearch sreCode x.cps 0 0 x.cps.size false).runFor 4
/-- what the search finds in a text; nothing where four steps do not end it -/
noncomputable def sreFound (x : Str) : Option Bool := match (sreM x).outcome with | some .matched => some true | some .failed => some false | _ => none
noncomputable abbrev bmO (id : String) (self : Value) : Obj := { cls := .type "builtin_function_or_method", data := .fields #[.builtin id, self] }
namespace RX
theorem entry : entryFor table "re.Pattern.search" = some Builtin.«re.Pattern.search» := entryFor_of_fast (by kernel_rfl)
theorem plain : plainId "re.Pattern.search" = true := by decide +kernel
theorem quiet {as : Args} : (Code.builtin "re.Pattern.search" as).quiet = true := Code.quiet_builtin _ (by decide +kernel)
noncomputable def sig : Manifest.Signature := ⟨.keywords, "Pattern.search", "search", .self, [⟨"string", .posOrKw, true⟩, ⟨"pos", .posOrKw, false⟩, ⟨"endpos", .posOrKw, false⟩]⟩
theorem sig_is : Manifest.signature? "re.Pattern.search" = some sig := by kernel_rfl
theorem kind : builtinKind "re.Pattern.search" = some .method := by decide +kernel
theorem sub_mod : isSubtype (.type "re.Pattern") (.type "module") = pure false := by rw [isSubtype_type]; kernel_rfl
theorem sub_type : isSubtype (.type "re.Pattern") (.type "type") = pure false := by rw [isSubtype_type]; kernel_rfl
theorem args {x : Str} {t : Tok} : Bind.checkArgs "re.Pattern.search" { machinery := sig.machinery, full := toString (Bind.lastOf "re.Pattern") ++ toString "." ++ toString (Bind.lastOf "re.Pattern.search"), short := sig.short, receiver := sig.receiver, params := sig.params } ⟨[.ref 49, .str x t], []⟩ = pure () := by kernel_rfl
theorem check {M : Model} {A : Around} {E : Value → Shared → Prop} {s : Shared} {x : Str} {t : Tok} {w : World} {Q : Unit → Shared → Prop} (h49 : s.heap.get? 49 = some (o49 w.params)) (h : Q () s) : wpAny M A (checkBoundCall "re.Pattern.search" ⟨[.ref 49, .str x t], []⟩) Q E s := by
  have hT : s.TypeIs (.ref 49) "re.Pattern" := ⟨_, h49, rfl⟩
  unfold checkBoundCall
  rw [sig_is, kind]
  dsimp only
  refine KFB.if_not (by decide +kernel) ?_
  refine wpAny_bind (wpAny_isInstance hT sub_mod ?_)
  refine KFB.if_not (by decide +kernel) ?_
  unfold isType
  refine wpAny_bind (m := loadHead 49 >>= _) (wpAny_bind (wpAny_loadPart h49 (wpAny_pure ?_)))
  refine KFB.if_not rfl ?_
  refine wpAny_bind (wpAny_typeOf hT ?_)
  dsimp only
  exact wpAny_of_eq args h
theorem named {x : Str} {t : Tok} : Builtin.Re.reNamed "re.Pattern.search" "search" ["string", "pos", "endpos"] 1 [.str x t] [] = pure [some (.str x t), none, none] := by kernel_rfl
end RX
section
variable {prog : Program} {M : Model} {w : World} {A : Around} {E : Value → Shared → Prop} {s : Shared}
theorem rules_skip {α : Type} {f : α → PUnit → Sem (ForInStep PUnit)} (hf : ∀ (i : α) (s : Shared) (Q : ForInStep PUnit → Shared → Prop), Q (.yield ()) s → wpAny M A (f i ()) Q E s) : ∀ (l : List α) (s : Shared) {Q : PUnit → Shared → Prop}, Q () s → wpAny M A (forIn l PUnit.unit f) Q E s := by
  intro l
  induction l with
  | nil => intro s Q h; exact wpAny_pure h
  | cons a l ih =>
    intro s Q h
    rw [List.forIn_cons]
    exact wpAny_bind (hf a s _ (ih s h))
theorem sre_end {m : Sre.M} {Q : Option Sre.M → Shared → Prop} (o : Sre.Outcome) (ho : (m.runFor 4).outcome = some o)
   (h : Q (match o with | .matched => some (m.runFor 4) | _ => none) s) (hb : (match o with | .stuck _ => False | _ => True)) : wpAny M A (Builtin.Re.reRunToEnd m) Q E s := by
  unfold Builtin.Re.reRunToEnd
  have e : Builtin.Re.reDrive (2 ^ 64) m = pure (m.runFor 4) := by
    show Builtin.Re.reDrive (18446744073709551615 + 1) m = _
    unfold Builtin.Re.reDrive
    dsimp only [Builtin.Re.reTurnSteps]
    rw [ho]
    rfl
  rw [e]
  refine wpAny_bind (wpAny_pure (wpAny_bind (rules_skip ?_ _ _ ?_)))
  · intro i s Q h
    split
    · exact wpAny_bind (wpAny_rule (wpAny_pure h))
    · exact wpAny_pure h
  · rw [ho]
    cases o with
    | matched => exact wpAny_pure h
    | failed => exact wpAny_pure h
    | stuck y => exact hb.elim
theorem search_tree {x : Str} {t : Tok} {b : Bool} {Q : Fin → Shared → Prop} (h49 : s.heap.get? 49 = some (o49 w.params)) (h48 : s.heap.get? 48 = some (o48 w.params)) (hx : x.cps.size ≤ 10000) (hb : sreFound x = some b)
   (h0 : b = false → Q (.done (.ret .none)) s) (h1 : b = true → ∀ a h' tk, s.heap.StaysIn h' → Q (.done (.ret (.ref a))) { s with heap := h', toks := tk }) : wpAny M A (Builtin.«re.Pattern.search» ⟨[.ref 49, .str x t], []⟩) Q E s := by
  unfold Builtin.«re.Pattern.search»
  refine wpAny_bind ?_
  unfold Builtin.Re.reTarget
  dsimp only
  refine wpAny_bind (wpAny_of_eq RX.named ?_)
  dsimp only
  refine wpAny_bind (wpAny_pure ?_)
  refine wpAny_bind (wpAny_pure ?_)
  refine wpAny_bind (wpAny_fieldsOf h49 rfl ?_)
  refine wpAny_bind (wpAny_of_eq (a := (x.cps, 0)) rfl ?_)
  refine KFB.if_not (by rfl) ?_
  refine KFB.if_not (by rfl) ?_
  refine wpAny_bind (wpAny_of_eq (a := ()) rfl ?_)
  refine wpAny_bind (m := Builtin.Re.reRawItems _) ?_
  unfold Builtin.Re.reRawItems
  refine wpAny_bind (m := seqItems? (.ref 48)) (wpAny_bind (wpAny_load h48 (wpAny_pure ?_)))
  refine wpAny_pure (wpAny_pure ?_)
  dsimp only
  have hmin : min ((2 : Int) ^ 63 - 1).toNat x.cps.size = x.cps.size := Nat.min_eq_right (Nat.le_trans hx (by decide))
  rw [hmin]
  generalize hc : Array.map (fun x : Int => x.toNat) _ = code
  have hc' : code = sreCode := hc.symm.trans (by kernel_rfl)
  clear hc
  subst hc'
  show wpAny M A (Builtin.Re.reAnswer { pattern := Value.ref 49, string := Value.str x t, code := sreCode, text := x.cps, kind := 0, groups := 0, pos := 0, lim := x.cps.size } (Sre.forSearch sreCode x.cps 0 0 x.cps.size false)) Q E s
  unfold sreFound sreM at hb
  unfold Builtin.Re.reAnswer
  cases ho : (Sre.M.runFor 4 (Sre.forSearch sreCode x.cps 0 0 x.cps.size false)).outcome with
  | none => rw [ho] at hb; cases hb
  | some o =>
    rw [ho] at hb
    cases o with
    | stuck y => cases hb
    | failed =>
      cases hb
      refine wpAny_bind (sre_end .failed ho ?_ trivial)
      exact wpAny_pure (h0 rfl)
    | matched =>
      cases hb
      refine wpAny_bind (sre_end .matched ho ?_ trivial)
      dsimp only
      refine wpAny_bind ?_
      unfold Builtin.Re.reNewMatch
      refine KFB.if_not rfl ?_
      dsimp only
      generalize Sre.M.runFor 4 (Sre.forSearch sreCode x.cps 0 0 x.cps.size false) = mm
      refine wpAny_bind (wpAny_newObj_type (T := "tuple") (data := .seq _) (hd := show (2 : Nat) ≤ sizeLine by decide) ?_)
      refine wpAny_newObj_type (T := "re.Match") (data := .fields _) (hd := show (6 : Nat) ≤ sizeLine + 2 by decide) ?_
      exact wpAny_pure (h1 rfl _ _ _ (stays_push (stays_push (fun _ _ e => e) _) _))
theorem call_search {x : Str} {t : Tok} {b : Bool} {Q : Value → Shared → Prop} (X : (K w.params).In s.heap) (hx : x.cps.size ≤ 10000) (hb : sreFound x = some b)
   (h0 : b = false → Q .none s) (h1 : b = true → ∀ a h' tk, s.heap.StaysIn h' → Q (.ref a) { s with heap := h', toks := tk }) : wpAny (model prog w) A (call (.ref 752) [.str x t]) Q E s := by
  have h752 : s.heap.get? 752 = some (bmO "re.Pattern.search" (.ref 49)) := X 752 _ (by kernel_rfl : _ = some (p752 w.params))
  have h49 : s.heap.get? 49 = some (o49 w.params) := X 49 _ (by kernel_rfl)
  have h48 : s.heap.get? 48 = some (o48 w.params) := X 48 _ (by kernel_rfl)
  refine wpAny_call (codeAny_of_tree ?_)
  show wpAny _ A.in1 (callAny (.ref 752) ⟨[.str x t], []⟩) _ _ s
  simp only [callAny]
  refine wpAny_bind (wpAny_load h752 ?_)
  simp only [bmO, show (Value.type "builtin_function_or_method" == Value.type "method" || Value.type "builtin_function_or_method" == Value.type "builtin_function_or_method" || Value.type "builtin_function_or_method" == Value.type "method-wrapper") = true by decide, if_true]
  refine KFB.if_so (by decide) ?_
  refine wpAny_bind (RX.check h49 ?_)
  refine wpAny_bind (wpAny_pure (wpAny_pure ?_))
  refine ⟨RX.quiet, codeAny_builtin RX.entry ?_⟩
  exact search_tree h49 h48 hx hb h0 h1
theorem callWith_bm {id : String} {self : Value} {pos : Pos} {u : Addr} {first : List Value} {args : List (Bool × Sem Value)} {Q : Value → Shared → Prop} (hplain : args.any (·.1) = false)
    (h : wpAny M A (evalArgs (.ref u) true args []) (fun x s₁ => s₁.heap.get? u = some (bmO id self) ∧ wpAny M A (call (.ref u) (first ++ x.pos) x.kw) Q E s₁) E s) : wpAny M A (callWith pos (.ref u) first args []) Q E s := by
  unfold callWith
  refine wpAny_bind (wpAny_holding (wpAny_mono h (fun x s₁ h₁ => wpAny_bind (wpAny_standAt ?_)) fun _ _ x => x))
  obtain ⟨ho, hcall⟩ := h₁
  simp only [hplain, List.any_nil, Bool.or_false]
  refine wpAny_bind (m := keeperOf (.ref u)) ?_
  unfold keeperOf
  refine wpAny_bind (wpAny_load ho ?_)
  simp only [bmO, show (Value.type "builtin_function_or_method" != Value.type "method") = true by decide, show (Value.type "builtin_function_or_method" == Value.type "builtin_function_or_method" || Value.type "builtin_function_or_method" == Value.type "method-wrapper") = true by decide, if_true]
  refine wpAny_pure ?_
  exact wpAny_bind (wpAny_mono hcall (fun r s₂ hr => wpAny_bind (wpAny_holding (wpAny_point (wpAny_pure hr)))) fun _ _ x => x)
theorem callWith_bmE {id : String} {self : Value} {pos : Pos} {u : Addr} {first : List Value} {env : Env} {e : PySem.Expr} {rest : List PySem.Expr} {Q : Value → Shared → Prop}
    (h : wpAny M A (spliced (backTo pos (starEach (e :: rest) env))) (fun vs s₁ => s₁.heap.get? u = some (bmO id self) ∧ wpAny M A (call (.ref u) (first ++ vs)) Q E s₁) E s)
    (he : starEach (e :: rest) env = (false, eval e env) :: starEach rest env := by rfl) (hplain : (backTo pos (starEach rest env)).any (·.1) = false := by rfl) :
    wpAny M A (callWith pos (.ref u) first (backTo pos (starEach (e :: rest) env)) []) Q E s := by
  rw [he] at h ⊢
  refine callWith_bm (id := id) (self := self) (by show (false || (backTo pos (starEach rest env)).any (·.1)) = false; rw [hplain]; rfl) ?_
  exact PySem.Calls.evalArgs_plain h
end
set_option maxRecDepth 100000
set_option maxHeartbeats 4000000
section
variable {w : World} {A₀ : Around} {base h₀ : Heap} {outer : List Env} {mean : ExcName → Option Value} {mg mb : Str → Option Value} {cn : Str} {cs : Scope} {L a : Addr} {ccd : Value} {dp un : Nat} {gd : Option (List Code)} {m : Str → Option Value} {rest : List (Addr × Obj)} {s : Shared} {Q E' : Value → Shared → Prop}
/-- what the walk knows of a word that is to be quoted -/
structure QOk (x : Str) : Prop where
  len : x.length ≤ 1000
  found : x.length = 0 ∨ ∃ b, sreFound x = some b
  rep : sreFound x = some true → Txt.replace x (S "'") (S "'\"'\"'") = x
noncomputable def quoteOf (x : Str) : Str := if x.length = 0 then S "''" else if sreFound x = some false then x else S "'" ++ x ++ S "'"
theorem quote_body {A : Around} {x : Str} {t : Tok} {L' : Addr} {Q : Flow → Shared → Prop} (X' : (K w.params).In h₀) (T' : Top qv (looseW qv lse) mean mg mb h₀) (F' : Fr h₀ L' s.heap (fun y => [(S "s", Value.str x t)].reverse.lookup y)) (N' : News h₀ L' s.heap rest) (hh : A.handled = none) (room : A.depth + 4 < recursionLimit) (hun : A.units + 90 < cLine) (hx : QOk x)
   (h : ∀ h' tk tv m', Fr h₀ L' h' m' → News h₀ L' h' rest → Q (.ret (.str (quoteOf x) tv)) { s with heap := h', toks := tk }) :
   wpAny (model pw w) A (execs F759.b (envOf (S "quote") F759.sc L' 759 (.ref 758))) Q E' s := by
  have hfi := fill_it
  revert hfi
  k_fill
  intro hfi
  clear hfi
  have hl := hx.len
  dsimp only [F759]
  refine wpAny_execs_cons (wpAny_If (isTrue_not (isTrue_plain (ld (v := .str x t) F' (by kernel_rfl) (truthy_strB rfl (by omega) fun tk => ?_)) (by intros; rfl))))
  cases h0 : nonE x with
  | false =>
    rw [if_pos (by decide)]
    k_steps
    have e : quoteOf x = S "''" := by
      unfold quoteOf
      rw [if_pos]
      have : ((x.length : Int) != 0) = false := h0
      simpa using this
    rename Fr _ _ _ _ => F5
    rename News _ _ _ _ => N5
    have := h _ (tk + 1) tk _ F5 N5
    rw [e] at this
    exact this
  | true =>
    rw [if_neg (by decide)]
    k_steps
    have hne : x.length ≠ 0 := by
      have : ((x.length : Int) != 0) = true := h0
      simpa using this
    obtain ⟨b, hb⟩ : ∃ b, sreFound x = some b := hx.found.resolve_left hne
    refine callWith_bmE (id := "re.Pattern.search") (self := .ref 49) ?_
    iterate 3 walk1
    refine ⟨(X'.keeps F'.keep) 752 _ (by kernel_rfl : _ = some (p752 w.params)), ?_⟩
    refine call_search (b := b) (X'.keeps F'.keep) (Nat.le_trans hl (by decide)) hb (fun e => ?_) (fun e a h2 tk2 k2 => ?_)
    · subst e
      k_steps
      rename Fr _ _ _ _ => F5
      rename News _ _ _ _ => N5
      have e : quoteOf x = x := by
        unfold quoteOf
        rw [if_neg hne, if_pos hb]
      have := h _ tk t _ F5 N5
      rw [e] at this
      exact this
    · subst e
      have F4 := F'.keeps k2
      have N4 := N'.keeps k2
      clear F' N'
      k_steps
      rw [hx.rep hb]
      k_steps
      rename Fr _ _ _ _ => F5
      rename News _ _ _ _ => N5
      have e : quoteOf x = S "'" ++ x ++ S "'" := by
        unfold quoteOf
        rw [if_neg hne, if_neg (by rw [hb]; decide)]
      show Q (.ret (.str (S "'" ++ x ++ S "'") _)) _
      rw [← e]
      exact h _ _ _ _ F5 N5
theorem t_quote {x : Str} {t : Tok} (G : Cx w A₀ base h₀ outer mean mg mb cs dp un 6) (F : Fr h₀ L s.heap m) (N : News h₀ L s.heap rest) (hx : QOk x)
   (h : ∀ h' tk tv, Fr h₀ L h' m → News h₀ L h' rest → Q (.str (quoteOf x) tv) { s with heap := h', toks := tk }) :
   wpAny (model pw w) (aT dp un gd cn cs L a ccd outer) (call (.ref 759) [.str x t]) Q E' s := by
  obtain ⟨B, X, T, hk, room, hun⟩ := G
  refine wpAny_call ?_
  refine code_def (binds := [(S "s", .str x t)]) B F X N T rfl rfl hk (l759 _) (c759 _) (by dsimp only; omega) (BindsTo.of_eq rfl) (locs rfl) ?_ rfl rfl rfl (by decide)
  intro g' L' h' FG' F' N' B' X' T'
  refine quote_body X' T' F' N' rfl (by show dp + 1 + 4 < _; omega) (by show un + 3 + 90 < _; omega) hx fun h2 tk2 tv m2 F2 N2 => ?_
  exact leaveK_ F2 N2 fun F5 N5 => h _ _ _ F5 N5
theorem q_any {A : Around} {x : Str} {t : Tok} (X : (K w.params).In s.heap) (T : Top qv (looseW qv lse) mean mg mb s.heap) (hh : A.handled = none) (hd : A.depth + 5 < recursionLimit) (hu : A.units + 100 < cLine) (hx : QOk x) :
   wpAny (model pw w) A (call (.ref 759) [.str x t]) (fun v s' => (∃ tv, v = .str (quoteOf x) tv) ∧ Keeps s s') E' s := by
  refine wpAny_call ?_
  refine codeAny_call_def (fd := fnX (S "quote") (S "quote") F759.ps F759.b F759.sc [] .none .none .none (.str (S "cpy313.shlex") 1087) none (.ref 758) .none) (body := F759.b) (binds := [(S "s", .str x t)]) (by omega) (X _ _ (l759 _)) rfl T.nolimit (codeRec_of X (c759 _)) rfl (BindsTo.of_eq rfl) (by decide) (locs rfl) (fun h₁ hns hk₁ => ?_) rfl rfl rfl
  have F' : Fr s.heap s.heap.objs.size h₁ (fun y => [(S "s", Value.str x t)].reverse.lookup y) := ⟨hns, hk₁, Nat.le_refl _⟩
  have N' : News s.heap s.heap.objs.size h₁ [] := fun _ h => nomatch h
  show wpAny (model pw w) (A.deeper (envOf (S "quote") F759.sc s.heap.objs.size 759 (.ref 758))) (execs F759.b (envOf (S "quote") F759.sc s.heap.objs.size 759 (.ref 758))) _ _ _
  refine quote_body (s := { s with heap := h₁, toks := _ }) X T F' N' hh (by show A.depth + 1 + 4 < _; omega) (by show A.units + 3 + 90 < _; omega) hx fun h2 tk2 tv m2 F2 N2 => ?_
  exact ⟨⟨_, rfl⟩, h2, tk2, rfl, F2.keep⟩
end
set_option maxRecDepth 100000
set_option maxHeartbeats 4000000
noncomputable abbrev tabO (ps : Array Value) : Obj := { cls := .none, data := .fields ps }
section
variable {w : World} {A₀ : Around} {base h₀ : Heap} {outer : List Env} {mean : ExcName → Option Value} {mg mb : Str → Option Value} {cn : Str} {cs : Scope} {L a : Addr} {ccd : Value} {dp un : Nat} {gd : Option (List Code)} {m : Str → Option Value} {rest : List (Addr × Obj)} {s : Shared} {Q E' : Value → Shared → Prop}
theorem passing_all (n : Nat) : passing (fun _ => true) n 0 = List.range n := by
  unfold passing
  rw [List.drop_zero]
  exact List.filter_eq_self.mpr fun _ _ => rfl
theorem strs_get {vs : List Value} {ts : List Str} (h : StrsAre vs ts) {i : Nat} {v : Value} (e : vs[i]? = some v) : ∃ x t, ts[i]? = some x ∧ v = .str x t := by
  induction h generalizing i with
  | nil => simp at e
  | cons y t _ ih =>
    cases i with
    | zero =>
      simp only [List.getElem?_cons_zero, Option.some.injEq] at e
      exact ⟨_, _, rfl, e.symm⟩
    | succ i =>
      simp only [List.getElem?_cons_succ] at e ⊢
      exact ih e
theorem map_ts {n : Nat} {ts : List Str} (f : Str → Str) (hn : n = ts.length) : (List.range (passing (fun _ => true) n 0).length).map (fun j => f (ts.getD j (S ""))) = ts.map f := by
  rw [passing_all, List.length_range, hn]
  apply List.ext_getElem?
  intro j
  by_cases hj : j < ts.length
  · simp [List.getElem?_range, hj, List.getD_eq_getElem?_getD]
  · rw [List.getElem?_eq_none (by simpa using Nat.le_of_not_lt hj), List.getElem?_eq_none (by simpa using Nat.le_of_not_lt hj)]
theorem t_join {D : Addr} {items : Array Value} {c : Nat} {ts : List Str} (G : Cx w A₀ base h₀ outer mean mg mb cs dp un 20) (F : Fr h₀ L s.heap m) (N : News h₀ L s.heap ((D, lisO items c) :: (746, tabO #[]) :: rest)) (hb : AllBare s.gens)
   (hs : StrsAre items.toList ts) (hq : ∀ x ∈ ts, QOk x) (hr : ∀ q ∈ rest, q.1 ≠ 746) (hD : D ≠ 746) (hj : JoinOk (S " ") (ts.map quoteOf) = true) (hn : ts.length ≤ 1000)
   (h : ∀ s' tv ps, Fr h₀ L s'.heap m → News h₀ L s'.heap ((D, lisO items c) :: (746, tabO ps) :: rest) → AllBare s'.gens → s'.os = s.os → Q (.str (Txt.join (S " ") (ts.map quoteOf)) tv) s') :
   wpAny (model pw w) (aT dp un gd cn cs L a ccd outer) (call (.ref 751) [.ref D]) Q E' s := by
  obtain ⟨B, X, T, hk, room, hun⟩ := G
  have hfi := fill_it
  revert hfi
  k_fill
  intro hfi
  clear hfi
  refine wpAny_call ?_
  refine code_def (binds := [(S "split_command", .ref D)]) B F X N T rfl rfl hk (l751 _) (c751 _) (by dsimp only; omega) (BindsTo.of_eq rfl) (locs rfl) ?_ rfl rfl rfl (by decide)
  intro g' L' h' FG' F' N' B' X' T'
  show wpAny (model pw w) (aT (dp + 1) (un + 3) gd (S "join") F751.sc L' 751 (.ref 750) (envOf cn cs L a ccd :: outer)) (execs F751.b (envOf (S "join") F751.sc L' 751 (.ref 750))) _ _ _
  dsimp only [F751]
  k_steps
  rename Fr _ _ _ _ => F9
  rename News _ _ _ _ => N9
  have hlen : items.size = ts.length := by
    have := PyProof.Rows.StrsAre.length hs
    rw [← this, Array.length_toList]
  have hlD : Heap.IsList h' D items := ⟨_, N9.get (.head _), rfl, _, rfl⟩
  have hDlt : D < h'.objs.size := Heap.lt_size (N9.get (.head _))
  refine wpAny_GeneratorExp_walksQD (cl := []) rfl rfl (closureFor_none (by decide)) (by decide) (by kernel_rfl) (by kernel_rfl) rfl (by show dp + 1 < _; omega) ?_ (fun _ => rfl)
  refine ld (v := .ref D) F9 (by kernel_rfl) ?_
  refine wpAny_pyIter_list hlD ⟨(T'.nolimit.keeps F9.keep).push _, ?_⟩
  have hsz2 : (h'.push { cls := .type "list_iterator", data := .fields #[.ref D, .int 0 0] }).objs.size = h'.objs.size + 1 := Heap.size_push _ _
  have F2 : Fr g' L' (h'.push { cls := .type "list_iterator", data := .fields #[.ref D, .int 0 0] }) _ := F9.push _
  have hit2 : (h'.push { cls := .type "list_iterator", data := .fields #[.ref D, .int 0 0] }).IsListIter h'.objs.size D 0 := ⟨_, Heap.get?_push_size _ rfl, rfl, rfl⟩
  have up2 : ∀ b o, h'.get? b = some o → (h'.push { cls := .type "list_iterator", data := .fields #[.ref D, .int 0 0] }).get? b = some o := fun b o e => Heap.get?_push_of_some _ e
  revert hsz2 F2 hit2 up2
  generalize h'.push { cls := .type "list_iterator", data := .fields #[.ref D, .int 0 0] } = h2
  intro hsz2 F2 hit2 up2
  have N2 := N9.keeps up2
  have X2 := X'.keeps F2.keep
  have o750 := X2 750 _ (by kernel_rfl : _ = some (p750 w.params))
  have o746 : h2.get? 746 = some (tabO #[]) := N2.get (.tail _ (.head _))
  have hcode : h2.IsCode 750 746 #[] := ⟨_, _, _, _, _, _, _, _, _, _, o750, rfl, rfl, rfl, rfl, rfl, rfl, o746, rfl, trivial, by decide⟩
  have htab : h2.TableAt 750 746 #[] := ⟨⟨_, _, o750, rfl, rfl, rfl⟩, o746⟩
  refine wpAny_genexprCodeX (c := 750) (P := 746) (ps := #[]) rfl hcode htab rfl fun c' h3 tk3 hx3 hge hlt hc3 hrec3 ht3 _ => ?_
  have hPL : 746 ≠ L' := (N2 _ (.tail _ (.head _))).2.1
  have hPg : g'.get? 746 = none := (N2 _ (.tail _ (.head _))).2.2
  have st3 : g'.StaysIn h3 := fun b o e => hx3 b o (fun q => by rw [q, hPg] at e; cases e) (F2.keep b o e)
  have F3 : Fr g' L' h3 _ := ⟨F2.ns.at fun o e => hx3 L' o (Ne.symm hPL) e, st3, F2.above⟩
  obtain ⟨ps3, hps3⟩ : ∃ ps3, h3.get? 746 = some (tabO ps3) := ⟨_, ht3.2⟩
  have N3 : News g' L' h3 ((D, lisO items c) :: (746, tabO ps3) :: rest) := fun q hq => by
    cases hq with
    | head => exact ⟨hx3 _ _ hD (N2 _ (.head _)).1, (N2 _ (.head _)).2⟩
    | tail _ hq => cases hq with
      | head => exact ⟨hps3, hPL, hPg⟩
      | tail _ hq => exact ⟨hx3 _ _ (hr q hq) (N2 q (.tail _ (.tail _ hq))).1, (N2 q (.tail _ (.tail _ hq))).2⟩
  have T3 := T'.keeps st3
  have X3 := X'.keeps st3
  have hI3 : h'.objs.size ≠ 746 := fun e => by
    have := Heap.lt_size (N9 _ (.tail _ (.head _))).1
    exact absurd this (by show ¬ (746 : Nat) < h'.objs.size; rw [e]; exact Nat.lt_irrefl _)
  obtain ⟨bm, ob, M3⟩ := bmod_of_top T3
  refine wpAny_builtinsFor M3.ns M3.name M3.ne M3.obj M3.cls M3.dict M3.data ?_
  have hst3 : h3.IsListIter h'.objs.size D 0 ∧ h3.IsList D items := by
    obtain ⟨o, ho, r⟩ := hit2
    exact ⟨⟨o, hx3 _ _ hI3 ho, r⟩, ⟨_, N3.get (.head _), rfl, _, rfl⟩⟩
  have hcs : cStatics < h'.objs.size := by
    obtain ⟨_, hn, _⟩ := T'.nolimit.keeps F9.keep
    exact hn.lt
  refine ⟨h'.objs.size, [h'.objs.size, D], [h'.objs.size], items.size, _, _, fun _ => true, fun i y => ∃ u, y = .str (quoteOf (ts.getD i (S ""))) u, rfl, fun A' hA => Walks.list hA _ _ (Nat.ne_of_lt hDlt) items, hst3, ?_, T3.nolimit, ?_, ?_, ?_⟩
  · intro b hb
    have h1 : h'.objs.size < h3.objs.size := Nat.lt_of_lt_of_le (by rw [hsz2] at hge; exact hge) (Nat.le_of_lt hlt)
    cases hb with
    | head => exact h1
    | tail _ hb => cases hb with
      | head => exact Nat.lt_trans hDlt h1
      | tail _ hb => cases hb
  · intro hb
    rw [List.mem_singleton.mp hb] at hcs
    exact Nat.lt_irrefl _ hcs
  · intro href hhref
    refine ⟨?_, ?_⟩
    · intro A' E2 i v s2 m2 hA hd hu hP hns hm hkp
      exact wpAny_pure ⟨rfl, s2.heap, s2.toks, rfl, fun _ _ e => e⟩
    · intro A' E2 i v t m2 hA hd hu hP _ hns hm hkp
      have stt : g'.StaysIn t.heap := fun b o e => hkp b (List.mem_range.mpr (Heap.lt_size (st3 b o e))) (fun hm => by
        cases hm with
        | head => exact absurd (Nat.lt_of_lt_of_le (Heap.lt_size e) F9.above) (Nat.not_lt.mpr (Nat.le_of_lt F9.ns.lt))
        | tail _ hm => cases hm) o (hhref b o (st3 b o e))
      obtain ⟨x, tx, hx1, rfl⟩ := strs_get hs (i := i) (v := v) (by rw [← hP]; simp)
      have hxq : QOk x := hq x (List.mem_of_getElem? hx1)
      have egd : ts.getD i (S "") = x := by rw [List.getD_eq_getElem?_getD, hx1]; rfl
      have Ft : Fr g' _ t.heap m2 := ⟨hns, stt, Nat.le_trans F9.above (Nat.le_trans (Nat.le_of_lt F9.ns.lt) (Nat.le_trans (Nat.le_succ _) (by rw [hsz2] at hge; exact Nat.le_trans hge (Nat.le_of_lt hlt))))⟩
      have Xt := X'.keeps stt
      have Tt := T'.keeps stt
      refine Call_ (nameG_K (v := .ref 759) Ft X' (topRead_of T') (by kernel_rfl) ?_ rfl rfl (by kernel_rfl) (by decide))
      refine callWith_def (o := p759 w.params) (fd := _) rfl ?_
      refine spliced_more (ldVarG Ft hm (spliced_none ⟨Xt 759 _ (by kernel_rfl), ?_⟩))
      refine wpAny_mono (q_any Xt Tt hA ?_ ?_ hxq) (fun v s3 z => ?_) (fun _ _ z => z)
      · have : A'.depth ≤ dp + 1 + 1 := hd
        omega
      · have : A'.units ≤ un + 3 + 8 := hu
        omega
      · rw [egd]
        exact z
  · intro a5 h5 tk5 gs hgb hag hsz5 hk5 W hat
    have st5 : g'.StaysIn h5 := fun b o e => hk5 b o (st3 b o e)
    have F5 := F3.keeps hk5
    have N5 := N3.keeps hk5
    have hb5 : AllBare (s.gens.push gs) := hb.push hgb
    refine spliced_none ?_
    have hlt5 : h'.objs.size < h5.objs.size := by
      rw [hsz2] at hge
      rw [hsz5]
      exact Nat.lt_trans (Nat.lt_of_lt_of_le (Nat.lt_of_lt_of_le (Nat.lt_succ_self _) hge) (Nat.le_of_lt hlt)) (Nat.lt_succ_of_lt hag)
    have XG : Gen pw w (aT (dp + 1) (un + 3) gd (S "join") F751.sc L' 751 (.ref 750) (envOf cn cs L a ccd :: outer)) (h'.objs.size - 1) a5 (passing (fun _ => true) items.size 0).length (fun j y => ∃ i, (passing (fun _ => true) items.size 0)[j]? = some i ∧ ∃ u, y = .str (quoteOf (ts.getD i (S ""))) u) { s with gens := s.gens.push gs, toks := tk5, heap := h5 } :=
      ⟨_, _, _, _, W, hat, fun i s' st => st.1.typeIs, List.mem_cons_self, ?_, ?_⟩
    · refine join_rowsK (L := L') F5 hb5 XG (Nat.le_sub_one_of_lt F9.ns.lt) (fun j => quoteOf (ts.getD j (S ""))) ?_ ?_ ?_ ?_
      · rintro j v ⟨i, hi, u, rfl⟩
        rw [passing_all] at hi
        have hij : j = i := by
          by_cases hj : j < items.size
          · simpa [List.getElem?_range, hj] using hi
          · rw [List.getElem?_eq_none (by simpa using Nat.le_of_not_lt hj)] at hi; cases hi
        rw [hij]
        exact ⟨u, rfl⟩
      · rw [map_ts quoteOf hlen]
        exact hj
      · intro s' t' F6 G6 os6 k6
        rw [map_ts quoteOf hlen]
        have N6 : News g' L' s'.heap ((D, lisO items c) :: (746, tabO ps3) :: rest) := fun q hq => by
          have hlt6 : q.1 < h'.objs.size := by
            cases hq with
            | head => exact hDlt
            | tail _ hq => cases hq with
              | head => exact Heap.lt_size (N9 _ (.tail _ (.head _))).1
              | tail _ hq => exact Heap.lt_size (N9 q (.tail _ (.tail _ hq))).1
          exact ⟨k6 _ _ (Nat.le_sub_one_of_lt hlt6) (N5 q hq).1, (N5 q hq).2⟩
        dsimp only
        refine leaveK_ F6 N6 fun F7 N7 => ?_
        exact h _ _ _ F7 N7 G6 os6
      · rw [passing_all, List.length_range, hlen]
        exact Nat.le_trans hn (by decide)
    · intro b hb
      show b < h5.objs.size
      rw [hsz5]
      cases hb with
      | head => exact Nat.lt_succ_self _
      | tail _ hb => cases hb with
        | head => exact Nat.lt_succ_of_lt hag
        | tail _ hb => exact Nat.lt_succ_of_lt (Nat.lt_trans (List.mem_range.mp hb) hag)
    · have hpos : 0 < h'.objs.size := Nat.lt_of_le_of_lt (Nat.zero_le _) F9.ns.lt
      intro b hb
      cases hb with
      | head => exact Nat.lt_of_lt_of_le (Nat.sub_lt hpos Nat.one_pos) (by rw [hsz2] at hge; exact Nat.le_trans (Nat.le_succ _) (Nat.le_trans hge (Nat.le_of_lt hlt)))
      | tail _ hb =>
        rw [List.mem_singleton.mp hb]
        exact Nat.sub_lt hpos Nat.one_pos
end
set_option maxRecDepth 100000
set_option maxHeartbeats 4000000
section
variable {w : World} {A : Around} {E' : Value → Shared → Prop} {s : Shared} {mean : ExcName → Option Value} {mg mb : Str → Option Value} {Q : Value → Shared → Prop}
theorem any_def {name qual : Str} {params : Arguments} {body : List Stmt} {scope : Scope} {dV kV doc pm cdv ct oc : Value} {an od : Option Addr} {osl : Array (Option Value)} {f : Addr} {args : Args} {binds : List (Str × Value)}
   (X : (K w.params).In s.heap) (T : Top qv (looseW qv lse) mean mg mb s.heap) (ho : (K w.params).lookup f = some ⟨oc, od, .func (fnOf name qual params body scope dV kV doc pm an cdv ct), osl⟩) (hcd : codeIn (K w.params) cdv qual = true) (hroom : A.depth < recursionLimit)
   (hbind : BindsTo s (fnOf name qual params body scope dV kV doc pm an cdv ct) args binds) (hloc : ∀ y ∈ binds, scope.names.lookup y.1 = some .local)
   (h : ∀ h₁, Fr s.heap s.heap.objs.size h₁ (fun y => binds.reverse.lookup y) → News s.heap s.heap.objs.size h₁ [] →
     wpAny (model pw w) (A.deeper (envOf qual scope s.heap.objs.size f cdv)) (execs body (envOf qual scope s.heap.objs.size f cdv)) (fun fl s' => Q (match fl with | .ret v => v | _ => .none) s')
       (fun e s' => wpAny (model pw w) (A.deeper (envOf qual scope s.heap.objs.size f cdv)) (leaving (envOf qual scope s.heap.objs.size f cdv) e) (fun _ s'' => E' e s'') (fun e' s'' => E' e' s'') s') { s with heap := h₁, toks := s.toks + binds.length })
   (hco : scope.isCoroutine = false) (hgen : scope.isGenerator = false) (hk : scope.kind = .function) (hcell : ∀ x ∈ scope.names, x.2 ≠ .cell) : wpAny (model pw w) A (call (.ref f) args.pos args.kw) Q E' s := by
  refine wpAny_call ?_
  refine codeAny_call_def (fd := fnX name qual params body scope [] dV kV doc pm an cdv ct) (body := body) (binds := binds) hroom (X _ _ ho) rfl T.nolimit (codeRec_of X hcd) rfl hbind hcell hloc (fun h₁ hns hk₁ => ?_) hco hgen hk
  exact h h₁ ⟨hns, hk₁, Nat.le_refl _⟩ (fun _ h => nomatch h)
noncomputable def symOf (x : Int) : Int := if x.fmod 4 < 3 then 7 + (x.fdiv 4).fmod 48 else if (x.fdiv 4).fmod 4 = 0 then 0 else 256 + (x.fdiv 16).fmod 1000
theorem symbol_any {x : Int} {t : Tok} (X : (K w.params).In s.heap) (T : Top qv (looseW qv lse) mean mg mb s.heap) (hh : A.handled = none) (hd : A.depth + 5 < recursionLimit) (hu : A.units + 100 < cLine)
   (h : ∀ h' tk tv, s.heap.StaysIn h' → Q (.int (symOf x) tv) { s with heap := h', toks := tk }) : wpAny (model pw w) A (call (.ref 790) [.int x t]) Q E' s := by
  have hfi := fill_it
  revert hfi
  k_fill
  intro hfi
  clear hfi
  refine any_def (args := ⟨[.int x t], []⟩) (binds := [(S "x", .int x t)]) X T (l790 _) (c790 _) (by omega) (BindsTo.of_eq rfl) (locs rfl) (fun h₁ F' N' => ?_) rfl rfl rfl (by decide)
  dsimp only [F790]
  k_steps
  all_goals rename Fr _ _ _ _ => F9
  · rename_i c1
    have e : 7 + (x.fdiv 4).fmod 48 = symOf x := by unfold symOf; rw [if_pos c1]
    have key : ∀ z : Int, z = symOf x → ∀ (h' : Heap) (tk tv : Nat), s.heap.StaysIn h' → Q (.int z tv) { s with heap := h', toks := tk } := fun z ez h' tk tv k => by rw [ez]; exact h h' tk tv k
    exact key _ e _ _ _ F9.keep
  · rename_i c1 c2
    have e : (0 : Int) = symOf x := by unfold symOf; rw [if_neg c1, if_pos c2]
    have key : ∀ z : Int, z = symOf x → ∀ (h' : Heap) (tk tv : Nat), s.heap.StaysIn h' → Q (.int z tv) { s with heap := h', toks := tk } := fun z ez h' tk tv k => by rw [ez]; exact h h' tk tv k
    exact key 0 e _ _ _ F9.keep
  · rename_i c1 c2
    have e : 256 + (x.fdiv 16).fmod 1000 = symOf x := by unfold symOf; rw [if_neg c1, if_neg c2]
    have key : ∀ z : Int, z = symOf x → ∀ (h' : Heap) (tk tv : Nat), s.heap.StaysIn h' → Q (.int z tv) { s with heap := h', toks := tk } := fun z ez h' tk tv k => by rw [ez]; exact h h' tk tv k
    exact key _ e _ _ _ F9.keep
theorem iseof_any {x : Int} {t : Tok} (X : (K w.params).In s.heap) (T : Top qv (looseW qv lse) mean mg mb s.heap) (hh : A.handled = none) (hd : A.depth + 5 < recursionLimit) (hu : A.units + 100 < cLine)
   (h : ∀ h' tk, s.heap.StaysIn h' → Q (.bool (x == 0)) { s with heap := h', toks := tk }) : wpAny (model pw w) A (call (.ref 783) [.int x t]) Q E' s := by
  have hfi := fill_it
  revert hfi
  k_fill
  intro hfi
  clear hfi
  refine any_def (args := ⟨[.int x t], []⟩) (binds := [(S "x", .int x t)]) X T (l783 _) (c783 _) (by omega) (BindsTo.of_eq rfl) (locs rfl) (fun h₁ F' N' => ?_) rfl rfl rfl (by decide)
  dsimp only [F783]
  k_steps
  rename Fr _ _ _ _ => F9
  exact h _ _ F9.keep
theorem isterm_any {x : Int} {t : Tok} (X : (K w.params).In s.heap) (T : Top qv (looseW qv lse) mean mg mb s.heap) (hh : A.handled = none) (hd : A.depth + 5 < recursionLimit) (hu : A.units + 100 < cLine)
   (h : ∀ h' tk, s.heap.StaysIn h' → Q (.bool (decide (x < 256))) { s with heap := h', toks := tk }) : wpAny (model pw w) A (call (.ref 769) [.int x t]) Q E' s := by
  have hfi := fill_it
  revert hfi
  k_fill
  intro hfi
  clear hfi
  refine any_def (args := ⟨[.int x t], []⟩) (binds := [(S "x", .int x t)]) X T (l769 _) (c769 _) (by omega) (BindsTo.of_eq rfl) (locs rfl) (fun h₁ F' N' => ?_) rfl rfl rfl (by decide)
  dsimp only [F769]
  k_steps
  rename Fr _ _ _ _ => F9
  exact h _ _ F9.keep
theorem isnont_any {x : Int} {t : Tok} (X : (K w.params).In s.heap) (T : Top qv (looseW qv lse) mean mg mb s.heap) (hh : A.handled = none) (hd : A.depth + 5 < recursionLimit) (hu : A.units + 100 < cLine)
   (h : ∀ h' tk, s.heap.StaysIn h' → Q (.bool (decide (256 ≤ x))) { s with heap := h', toks := tk }) : wpAny (model pw w) A (call (.ref 776) [.int x t]) Q E' s := by
  have hfi := fill_it
  revert hfi
  k_fill
  intro hfi
  clear hfi
  refine any_def (args := ⟨[.int x t], []⟩) (binds := [(S "x", .int x t)]) X T (l776 _) (c776 _) (by omega) (BindsTo.of_eq rfl) (locs rfl) (fun h₁ F' N' => ?_) rfl rfl rfl (by decide)
  dsimp only [F776]
  k_steps
  rename Fr _ _ _ _ => F9
  exact h _ _ F9.keep
end
set_option maxRecDepth 100000
set_option maxHeartbeats 4000000
noncomputable def opsL : List (Str × Int) := [(S "!", 54), (S "!=", 28), (S "%", 24), (S "%=", 40), (S "&", 19), (S "&=", 41), (S "(", 7), (S ")", 8), (S "*", 16), (S "**", 35), (S "**=", 46), (S "*=", 38), (S "+", 14), (S "+=", 36), (S ",", 12), (S "-", 15), (S "-=", 37), (S "->", 51), (S ".", 23), (S "...", 52), (S "/", 17), (S "//", 47), (S "//=", 48), (S "/=", 39), (S ":", 11), (S ":=", 53), (S ";", 13), (S "<", 20), (S "<<", 33), (S "<<=", 44), (S "<=", 29), (S "=", 22), (S "==", 27), (S ">", 21), (S ">=", 30), (S ">>", 34), (S ">>=", 45), (S "@", 49), (S "@=", 50), (S "[", 9), (S "]", 10), (S "^", 32), (S "^=", 43), (S "{", 25), (S "|", 18), (S "|=", 42), (S "}", 26), (S "~", 31)]
noncomputable def wordOf (n : Int) : Str := if n = 0 then S "" else if n < 256 then Txt.join (S "") ((opsL.filter fun p => p.2 == n).map (·.1)) else S "n" ++ S (toString (n - 256))
section
variable {w : World} {A : Around} {E' : Value → Shared → Prop} {s : Shared} {mean : ExcName → Option Value} {mg mb : Str → Option Value} {Q : Value → Shared → Prop}
theorem tab760 {h : Heap} (X : (K w.params).In h) : StrTab pw w h 760 ((opsL.map fun p => (p.1, PyData.int p.2)).map fun p => (PyData.str p.1, p.2)) :=
  kt_tab_in (K := K w.params) pw w X (by kernel_rfl) (by decide +kernel) (by kernel_rfl)
theorem any_cells {name qual : Str} {params : Arguments} {body : List Stmt} {scope : Scope} {dV kV doc pm cdv ct oc : Value} {an od : Option Addr} {osl : Array (Option Value)} {f : Addr} {args : Args} {binds : List (Str × Value)}
   (X : (K w.params).In s.heap) (T : Top qv (looseW qv lse) mean mg mb s.heap) (ho : (K w.params).lookup f = some ⟨oc, od, .func (fnOf name qual params body scope dV kV doc pm an cdv ct), osl⟩) (hcd : codeIn (K w.params) cdv qual = true) (hroom : A.depth < recursionLimit)
   (hbind : BindsTo s (fnOf name qual params body scope dV kV doc pm an cdv ct) args binds)
   (hkind : (binds.all fun y => scope.names.lookup y.1 == some .local || scope.names.lookup y.1 == some .cell) = true) (hnd : ((cellsFrom 0 scope.names []).map (·.1)).Nodup)
   (h : ∀ h₁ tk cells, Fr s.heap s.heap.objs.size h₁ (bindL (envOfC qual scope s.heap.objs.size f cdv).kindOf binds fun _ => none) → News s.heap s.heap.objs.size h₁ cells →
     CellsAre (bindC (envOfC qual scope s.heap.objs.size f cdv).kindOf binds fun _ => none) (cellsFrom (s.heap.objs.size + 1) scope.names []) cells →
     wpAny (model pw w) (A.deeper (envOfC qual scope s.heap.objs.size f cdv)) (execs body (envOfC qual scope s.heap.objs.size f cdv)) (fun fl s' => Q (match fl with | .ret v => v | _ => .none) s')
       (fun e s' => wpAny (model pw w) (A.deeper (envOfC qual scope s.heap.objs.size f cdv)) (leaving (envOfC qual scope s.heap.objs.size f cdv) e) (fun _ s'' => E' e s'') (fun e' s'' => E' e' s'') s') { s with heap := h₁, toks := tk })
   (hco : scope.isCoroutine = false) (hgen : scope.isGenerator = false) (hk : scope.kind = .function) : wpAny (model pw w) A (call (.ref f) args.pos args.kw) Q E' s := by
  refine wpAny_call ?_
  refine codeAny_call_function hroom (X _ _ ho) (fd := fnX name qual params body scope [] dV kV doc pm an cdv ct) rfl hco hgen rfl (codeRec_of X hcd) (hbind _ _ _ _ ?_)
  refine wpAny_newFunctionEnv_cells hk (kindsX hkind _) fun env' he s' x => ?_
  subst he
  refine ⟨T.nolimit.keeps x.toInCall.keep, codeAny_func ?_⟩
  obtain ⟨h₁, tk, rfl, _⟩ := x.done
  have hk₁ := x.toInCall.keep
  obtain ⟨cells, NC, Y⟩ := Cl.news (h₀ := s.heap) (Nat.le_refl _) fun n c hm => ⟨x.cell n c (lookup_of_mem_nodup (cellsFrom_names scope.names 0 (s.heap.objs.size + 1) [] [] rfl ▸ hnd) hm), x.above n c hm⟩
  exact h h₁ tk cells ⟨x.toInCall.ns, hk₁, Nat.le_refl _⟩ NC Y
noncomputable def opv (k : Str) : Int := ((opsL.find? fun p => p.1 == k).map (·.2)).getD (-1)
theorem opv_get : ∀ p ∈ opsL, opv p.1 = p.2 := by decide +kernel
theorem flat_get {kvs : List (Str × Value)} {l : List (Str × Int)} (h : PyProof.V.FlatPairs PyData.str kvs ((l.map fun p => (p.1, PyData.int p.2)).map fun p => (PyData.str p.1, p.2))) : ∀ {i : Nat} {k : Str} {x : Value}, kvs[i]? = some (k, x) → ∃ z t, l[i]? = some (k, z) ∧ x = .int z t := by
  induction l generalizing kvs with
  | nil => cases h; intro i k x e; simp at e
  | cons a l ih =>
    intro i k x e
    cases h with
    | @cons k' v d kvs' D hv hr =>
      cases i with
      | zero =>
        simp only [List.getElem?_cons_zero, Option.some.injEq, Prod.mk.injEq] at e
        obtain ⟨rfl, rfl⟩ := e
        obtain ⟨t, rfl⟩ := hv.int_inv
        exact ⟨_, t, rfl, rfl⟩
      | succ i =>
        simp only [List.getElem?_cons_succ] at e ⊢
        exact ih hr e
theorem flat_len {kvs : List (Str × Value)} {l : List (Str × Int)} (h : PyProof.V.FlatPairs PyData.str kvs ((l.map fun p => (p.1, PyData.int p.2)).map fun p => (PyData.str p.1, p.2))) : kvs.length = l.length := by
  have := h.length
  simpa using this.symm
/-- which keys the comprehension keeps -/
noncomputable def keeps (n : Int) (v : Value) : Bool := match v with | .str k _ => opv k == n | _ => false
theorem sum_le {ys : List Str} {k : Nat} (h : ∀ y ∈ ys, y.length ≤ k) : (ys.map (·.length)).sum ≤ ys.length * k := by
  induction ys with
  | nil => simp
  | cons y ys ih =>
    rw [List.map_cons, List.sum_cons, List.length_cons, Nat.succ_mul]
    have h1 := h y (.head _)
    have h2 := ih fun z hz => h z (.tail _ hz)
    omega
theorem filt_strs {n : Int} {vs : List Value} {ks : List Str} (h : StrsAre vs ks) : StrsAre (vs.filter (keeps n)) (ks.filter fun k => opv k == n) := by
  induction h with
  | nil => exact .nil
  | cons y t _ ih =>
    rw [List.filter_cons, List.filter_cons]
    show StrsAre (if (opv _ == n) = true then _ else _) _
    split
    · exact .cons _ _ ih
    · exact ih
theorem ops_filter (n : Int) : (opsL.map (·.1)).filter (fun k => opv k == n) = (opsL.filter fun p => p.2 == n).map (·.1) := by
  have h : ∀ l : List (Str × Int), (∀ p ∈ l, opv p.1 = p.2) → (l.map (·.1)).filter (fun k => opv k == n) = (l.filter fun p => p.2 == n).map (·.1) := by
    intro l
    induction l with
    | nil => intro _; rfl
    | cons a l ih =>
      intro hl
      rw [List.map_cons, List.filter_cons, List.filter_cons, hl a (.head _), ih fun p hp => hl p (.tail _ hp)]
      split <;> rfl
  exact h opsL opv_get
theorem paired_eq {l l' : List Value} (h : Paired (fun v y => y = v) l l') : l' = l := by
  induction h with
  | nil => rfl
  | cons a _ ih => rw [a, ih]
theorem ops_short : ∀ p ∈ opsL, p.1.length ≤ 3 := by decide +kernel
theorem word_any {n : Int} {t : Tok} (X : (K w.params).In s.heap) (T : Top qv (looseW qv lse) mean mg mb s.heap) (hh : A.handled = none) (hd : A.depth + 8 < recursionLimit) (hu : A.units + 200 < cLine) (hn : 0 ≤ n ∧ n < 2000)
   (h : ∀ h' tk tv, s.heap.StaysIn h' → Q (.str (wordOf n) tv) { s with heap := h', toks := tk }) : wpAny (model pw w) A (call (.ref 795) [.int n t]) Q E' s := by
  have hfi := fill_it
  revert hfi
  k_fill
  intro hfi
  clear hfi
  refine any_cells (args := ⟨[.int n t], []⟩) (binds := [(S "number", .int n t)]) X T (l795 _) (c795 _) (by omega) (BindsTo.of_eq rfl) (by kernel_rfl) (by decide) (fun h₁ tk cells F' N' Y => ?_) rfl rfl rfl
  have hY := CellsAre.one Y
  obtain ⟨o', hE', d1'⟩ := hY
  subst hE'
  clear Y
  dsimp only [F795]
  k_steps
  refine iseof_any (X.keeps F'.keep) (T.keeps F'.keep) hh (by show A.depth + 1 + 5 < _; omega) (by show A.units + 3 + 100 < _; omega) fun h2 tk2 k2 => ?_
  have F2 := F'.keeps k2
  have N2 := N'.keeps k2
  clear F' N'
  by_cases h0 : n = 0
  · subst h0
    rw [show ((0 : Int) == 0) = true from rfl]
    k_steps
    have e : S "" = wordOf 0 := rfl
    rename Fr _ _ _ _ => F9
    have key : ∀ z : Str, z = wordOf 0 → ∀ (h' : Heap) (tk tv : Nat), s.heap.StaysIn h' → Q (.str z tv) { s with heap := h', toks := tk } := fun z ez h' tk tv k => by rw [ez]; exact h h' tk tv k
    exact key _ e _ _ _ F9.keep
  · rw [show (n == 0) = false by simpa using h0]
    k_steps
    rename Fr _ _ _ _ => F3
    rename News _ _ _ _ => N3
    refine isterm_any (X.keeps F3.keep) (T.keeps F3.keep) hh (by show A.depth + 1 + 5 < _; omega) (by show A.units + 3 + 100 < _; omega) fun h4 tk4 k4 => ?_
    have F4 := F3.keeps k4
    have N4 := N3.keeps k4
    clear F3 N3
    by_cases h1 : n < 256
    · rw [show decide (n < 256) = true from decide_eq_true h1]
      k_steps
      rename Fr _ _ _ _ => F5
      rename News _ _ _ _ => N5
      refine wpAny_ListComp_free (cl := [(S "number", s.heap.objs.size + 1)]) (keeps n) (fun v y => y = v) (by with_unfolding_all rfl) (by decide) rfl (by decide) (by kernel_rfl) ?_
      refine nameG_K (v := .ref 760) F5 X (topRead_of T) (by kernel_rfl) ?_ rfl rfl (by kernel_rfl) (by decide)
      have X5 := X.keeps F5.keep
      obtain ⟨hds, kvs, hdo, hfl⟩ := tab760 X5
      obtain ⟨o6, es6, ep6, ho6, hr6⟩ := id hdo
      have hat : Heap.DictAt (strKind pw w) _ 760 kvs ep6 := ⟨o6, es6, ho6, hr6⟩
      have hnd : (kvs.map (·.1)).Nodup := hr6.2.2.2.2
      refine wpAny_pyIter_dict hds hat ?_
      have hkl : kvs.length = 48 := flat_len hfl
      have h760 : 760 < h4.objs.size := Heap.lt_size ho6
      have hcell : h4.get? (s.heap.objs.size + 1) = some o' := N5.get (.head _)
      have hclt : s.heap.objs.size + 1 < h4.objs.size := Heap.lt_size hcell
      refine ⟨h4.objs.size, [h4.objs.size, 760], [h4.objs.size], kvs.length, _, _, rfl, Walks.dictKeys (show (A.deeper _).handled = none from hh) h4.objs.size 760 (Nat.ne_of_lt h760) kvs ep6, by rw [hkl]; decide, ⟨⟨_, Heap.get?_push_size _ rfl, rfl, rfl⟩, hat.extBut (b := h4.objs.size) (fun b o _ e => Heap.get?_push_of_some _ e) (Nat.ne_of_lt h760)⟩, ?_, ⟨?_, ?_⟩, ?_⟩
      · intro b hb
        show b < (h4.push _).objs.size
        rw [Heap.size_push]
        cases hb with
        | head => exact Nat.lt_succ_self _
        | tail _ hb => cases hb with
          | head => exact Nat.lt_succ_of_lt h760
          | tail _ hb => cases hb
      · rintro C i v s3 m3 E2 hC ⟨k, x, hx, hkv⟩ hns hm hkp htok
        obtain ⟨t3, rfl⟩ := Value.isStrOf_shape hkv
        have nw : ∀ b, b < h4.objs.size → b ∉ [h4.objs.size] := fun b hb hm => by rw [List.mem_singleton.mp hm] at hb; exact Nat.lt_irrefl _ hb
        have up : ∀ b o, h4.get? b = some o → s3.heap.get? b = some o := fun b o e => hkp b o (nw b (Heap.lt_size e)) (Heap.get?_push_of_some _ e)
        have F3 : Fr s.heap C s3.heap m3 := ⟨hns, fun b o e => up b o (F5.keep b o e), Nat.le_trans (Nat.le_trans F5.above (Nat.le_of_lt F5.ns.lt)) (Nat.le_trans (Nat.le_succ _) (by rw [Heap.size_push] at hC; exact hC))⟩
        obtain ⟨z, tz, hz, rfl⟩ := flat_get hfl hx
        have hopv : opv k = z := opv_get (k, z) (List.mem_of_getElem? hz)
        rw [List.forIn_cons]
        refine wpAny_bind ?_
        refine KFB.if_so rfl ?_
        refine wpAny_bind (wpAny_isTrue_Compare1 (Subscript_ ?_) ?_)
        · refine nameG_K (v := .ref 760) F3 X (topRead_of T) (by kernel_rfl) ?_ rfl rfl (by kernel_rfl) (by decide)
          refine wpAny_Name (wpAny_loadName_local rfl (by kernel_rfl) F3.ns hm ?_) (by decide)
          refine tab_tail (tab760 (X.keeps F3.keep)) ?_
          have hdo3 : s3.heap.DictOf (strKind pw w) 760 kvs := ⟨o6, es6, ep6, up _ _ ho6, hr6⟩
          refine wpAny_getItem_of (strKind_is pw w k t3) hdo3.mapOf (valueAt_of_get hnd hx) ?_
          refine wpAny_Name (wpAny_loadName_cell (c := s.heap.objs.size + 1) (v := .int n t) rfl (by kernel_rfl) (by kernel_rfl) ⟨o', up _ _ hcell, d1'⟩ ?_) (by decide)
          refine PyProof.Rows.eq_int (wpAny_truthy_bool ?_)
          refine wpAny_pure ?_
          dsimp only
          rw [List.forIn_nil]
          refine wpAny_pure ⟨?_, s3.heap, _, rfl, fun _ _ e => e⟩
          show (z == n) = keeps n (.str k t3)
          unfold keeps
          dsimp only
          rw [hopv]
        · rfl
      · rintro C i v s3 m3 E2 hC ⟨k, x, hx, hkv⟩ hpv hns hm hkp htok
        refine wpAny_Name (wpAny_loadName_local rfl (by kernel_rfl) hns hm ?_) (by decide)
        exact ⟨rfl, s3.heap, s3.toks, rfl, fun _ _ e => e⟩
      · intro D h' tk ys vs hD hl hpl hlen hP hF hk
        have up : ∀ b o, h4.get? b = some o → h'.get? b = some o := fun b o e => hk b o (fun hm => by rw [List.mem_singleton.mp hm] at e; exact absurd (Heap.lt_size e) (Nat.lt_irrefl _)) (Heap.get?_push_of_some _ e)
        have F9 := F5.keeps up
        have N9 := N5.keeps up
        have hvs : StrsAre vs (opsL.map (·.1)) := kdy_strs (by rw [hlen, hkl]; rfl) fun j v hv => by
          obtain ⟨k, x, hx, hkv⟩ := hP j v hv
          obtain ⟨z, tz, hz, _⟩ := flat_get hfl hx
          obtain ⟨t3, rfl⟩ := Value.isStrOf_shape hkv
          exact ⟨k, by rw [List.getElem?_map, hz]; rfl, t3, rfl⟩
        have hys : StrsAre ys.toList ((opsL.filter fun p => p.2 == n).map (·.1)) := by
          rw [paired_eq hF, ← ops_filter]
          exact filt_strs hvs
        refine spliced_none ?_
        refine join_list hl hys ?_ ?_
        · have h3 : ∀ y ∈ (opsL.filter fun p => p.2 == n).map (·.1), y.length ≤ 3 := fun y hy => by
            obtain ⟨p, hp, rfl⟩ := List.mem_map.mp hy
            exact ops_short p (List.mem_filter.mp hp).1
          have h4 := sum_le h3
          have h5 : ((opsL.filter fun p => p.2 == n).map (·.1)).length ≤ 48 := by
            rw [List.length_map]
            exact List.length_filter_le _ _
          have h6 : (Str.ofString "").length = 0 := rfl
          rw [h6]
          omega
        · intro t' k
          have e : Txt.join (S "") ((opsL.filter fun p => p.2 == n).map (·.1)) = wordOf n := by unfold wordOf; rw [if_neg h0, if_pos h1]
          have key : ∀ z : Str, z = wordOf n → ∀ (h' : Heap) (tk tv : Nat), s.heap.StaysIn h' → Q (.str z tv) { s with heap := h', toks := tk } := fun z ez h' tk tv k => by rw [ez]; exact h h' tk tv k
          exact key _ e _ _ _ F9.keep
    · rw [show decide (n < 256) = false from decide_eq_false h1]
      k_steps
      rename Fr _ _ _ _ => F5
      rename News _ _ _ _ => N5
      refine isnont_any (X.keeps F5.keep) (T.keeps F5.keep) hh (by show A.depth + 1 + 5 < _; omega) (by show A.units + 3 + 100 < _; omega) fun h6 tk6 k6 => ?_
      have F6 := F5.keeps k6
      have N6 := N5.keeps k6
      clear F5 N5
      rw [show decide (256 ≤ n) = true from decide_eq_true (by omega)]
      k_steps
      rename Fr _ _ _ _ => F9
      have e : S "n" ++ S (toString (n - 256)) = wordOf n := by unfold wordOf; rw [if_neg h0, if_neg h1]
      have key : ∀ z : Str, z = wordOf n → ∀ (h' : Heap) (tk tv : Nat), s.heap.StaysIn h' → Q (.str z tv) { s with heap := h', toks := tk } := fun z ez h' tk tv k => by rw [ez]; exact h h' tk tv k
      exact key _ e _ _ _ F9.keep
end
set_option maxRecDepth 100000
set_option maxHeartbeats 4000000
noncomputable def opP : List (PyData × PyData) := opsL.map fun p => (PyData.str p.1, PyData.int p.2)
structure NumOk (x : Str) (n : Int) : Prop where
  len : x.length ≤ 1000
  emp : (x == Str.ofString "") = true → n = 0
  pos : (x == Str.ofString "") = false → 0 < x.length
  num : (x == Str.ofString "") = false → (Txt.item x 0 == Str.ofString "n") = true → ∃ k, PySem.intText? (Txt.slice x (some 1) none) = some k ∧ (Txt.slice x (some 1) none).length ≤ 640 ∧ 256 + k = n
  op : (x == Str.ofString "") = false → (Txt.item x 0 == Str.ofString "n") = false → Spec.lookup (.str x) opP = some (.int n)
section
variable {w : World} {A : Around} {E' : Value → Shared → Prop} {s : Shared} {mean : ExcName → Option Value} {mg mb : Str → Option Value} {Q : Value → Shared → Prop}
theorem number_pos {x : Str} {n : Int} {t : Tok} (O : NumOk x n) (hx : 0 < x.length) (X : (K w.params).In s.heap) (T : Top qv (looseW qv lse) mean mg mb s.heap) (hh : A.handled = none) (hd : A.depth + 8 < recursionLimit) (hu : A.units + 200 < cLine)
   (h : ∀ h' tk tv, s.heap.StaysIn h' → Q (.int n tv) { s with heap := h', toks := tk }) : wpAny (model pw w) A (call (.ref 802) [.str x t]) Q E' s := by
  have hx2 := O.len
  have hfi := fill_it
  revert hfi
  k_fill
  intro hfi
  clear hfi
  refine any_def (args := ⟨[.str x t], []⟩) (binds := [(S "word", .str x t)]) X T (l802 _) (c802 _) (by omega) (BindsTo.of_eq rfl) (locs rfl) (fun h₁ F' N' => ?_) rfl rfl rfl (by decide)
  dsimp only [F802]
  k_steps
  · rename Fr _ _ _ _ => F9
    rename (x == Str.ofString "") = true => c1
    have e := O.emp c1
    have key : ∀ z : Int, z = n → ∀ (h' : Heap) (tk tv : Nat), s.heap.StaysIn h' → Q (.int z tv) { s with heap := h', toks := tk } := fun z ez h' tk tv k => by rw [ez]; exact h h' tk tv k
    exact key 0 e.symm _ _ _ F9.keep
  · rename Fr _ _ _ _ => F9
    rename (x == Str.ofString "") = false => c1
    rename (Txt.item x 0 == Str.ofString "n") = true => c2
    obtain ⟨k, e1, e2, e3⟩ := O.num c1 c2
    have key : ∀ z : Int, z = n → ∀ (h' : Heap) (tk tv : Nat), s.heap.StaysIn h' → Q (.int z tv) { s with heap := h', toks := tk } := fun z ez h' tk tv k => by rw [ez]; exact h h' tk tv k
    refine KIN.call_text e1 e2 ?_
    k_steps
    exact key _ e3 _ _ _ F9.keep
  · rename Fr _ _ _ _ => F9
    rename (x == Str.ofString "") = false => c1
    rename (Txt.item x 0 == Str.ofString "n") = false => c2
    rename PyProof.V.Flat _ _ => hv
    have e := O.op c1 c2
    have key : ∀ l : List (PyData × PyData), l = opP → ∀ v, PyProof.V.Flat v ((Spec.lookup (.str x) l).getD .none) → ∃ tv, v = .int n tv := fun l el v hv => by
      rw [el, e] at hv
      exact PyProof.V.Flat.int_inv hv
    obtain ⟨tv, rfl⟩ := key _ (by kernel_rfl) _ hv
    exact h _ _ _ F9.keep
theorem number_emp {n : Int} {t : Tok} (hn : n = 0) (X : (K w.params).In s.heap) (T : Top qv (looseW qv lse) mean mg mb s.heap) (hh : A.handled = none) (hd : A.depth + 8 < recursionLimit) (hu : A.units + 200 < cLine)
   (h : ∀ h' tk tv, s.heap.StaysIn h' → Q (.int n tv) { s with heap := h', toks := tk }) : wpAny (model pw w) A (call (.ref 802) [.str (S "") t]) Q E' s := by
  have hfi := fill_it
  revert hfi
  k_fill
  intro hfi
  clear hfi
  subst hn
  refine any_def (args := ⟨[.str (S "") t], []⟩) (binds := [(S "word", .str (S "") t)]) X T (l802 _) (c802 _) (by omega) (BindsTo.of_eq rfl) (locs rfl) (fun h₁ F' N' => ?_) rfl rfl rfl (by decide)
  dsimp only [F802]
  k_steps
  rename Fr _ _ _ _ => F9
  exact h _ _ _ F9.keep
theorem number_any {x : Str} {n : Int} {t : Tok} (O : NumOk x n) (X : (K w.params).In s.heap) (T : Top qv (looseW qv lse) mean mg mb s.heap) (hh : A.handled = none) (hd : A.depth + 8 < recursionLimit) (hu : A.units + 200 < cLine)
   (h : ∀ h' tk tv, s.heap.StaysIn h' → Q (.int n tv) { s with heap := h', toks := tk }) : wpAny (model pw w) A (call (.ref 802) [.str x t]) Q E' s := by
  by_cases c : (x == Str.ofString "") = true
  · obtain rfl := eq_of_beq c
    exact number_emp (O.emp c) X T hh hd hu h
  · exact number_pos O (O.pos (by simpa using c)) X T hh hd hu h
end
set_option maxRecDepth 100000
set_option maxHeartbeats 4000000
noncomputable def rowS : Str := S "( ) [ ] : , ; + - * / | & < > = . % { } == != <= >= ~ ^ << >> ** += -= *= /= %= &= |= ^= <<= >>= **= // //= @ @= -> ... := !"
noncomputable def rowL : List Str := Txt.split rowS (S " ")
noncomputable def signS : Str := S "%+,-./:=@"
noncomputable def bareOf (x : Str) : Bool := x.cps.toList.all fun c => Txt.contains signS (chS c)
noncomputable def toldOf (n : Int) : Str × Bool := if n = 0 then (S "", false) else if 255 < n then (S "n" ++ S (toString (n - 256)), true) else (rowL.getD (n - 7).toNat PySem.Str.empty, bareOf (rowL.getD (n - 7).toNat PySem.Str.empty))
noncomputable def sieve (v : Value) : Bool := match v with | .str x _ => !Txt.contains signS x | _ => false
theorem row_len : rowL.length = 48 := by decide +kernel
noncomputable def OksOk (l : List Str) : Prop := ∀ x ∈ l, PyData.strOk x = true
theorem st_canLay0 : ∀ ns : List Str, OksOk ns → PyData.canLayAll0 (ns.map PyData.str) = true
  | [], _ => rfl
  | a :: r, h => by simp [PyData.canLayAll0, PyData.canLay0, st_canLay0 r fun x hx => h x (.tail _ hx), h a (.head _)]
theorem st_depth : ∀ ns : List Str, PyData.depthAll (ns.map PyData.str) ≤ 1
  | [] => by simp [PyData.depthAll]
  | _ :: r => by
    have := st_depth r
    simp [PyData.depthAll, PyData.depth]
    omega
theorem st_shaped (ns : List Str) (hk : OksOk ns) : SeqAt.shaped (.list (ns.map PyData.str)) = true := by
  have := st_depth ns
  simp [SeqAt.shaped, PyData.canLay0, PyData.depth, st_canLay0 ns hk]
  omega
theorem st_sameAll : ∀ ns ms : List Str, PySem.Spec.sameAll (ns.map PyData.str) (ms.map PyData.str) = decide (ns = ms)
  | [], [] => by simp [PySem.Spec.sameAll]
  | [], _ :: _ => by simp [PySem.Spec.sameAll]
  | _ :: _, [] => by simp [PySem.Spec.sameAll]
  | a :: r, b :: t => by
    simp only [List.map_cons, PySem.Spec.sameAll, PySem.Spec.same, st_sameAll r t]
    by_cases h : a = b <;> by_cases h' : r = t <;> simp [h, h']
theorem st_same (ns ms : List Str) : PySem.Spec.same (.list (ns.map PyData.str)) (.list (ms.map PyData.str)) = decide (ns = ms) := by
  simp only [PySem.Spec.same]; exact st_sameAll ns ms
theorem st_carried : ∀ {vs : List Value} {ns : List Str}, StrsAre vs ns → CarriedAll vs (ns.map PyData.str)
  | _, _, .nil => .nil
  | _, _, .cons _ t r => .cons (.str _ t) (st_carried r)
section
variable {prog : Program} {w : World} {A : Around} {E : Value → Shared → Prop} {s : Shared} {a b : Addr} {xs ys : Array Value} {ns ms : List Str} {Q : Value → Shared → Prop}
theorem eq_strsK (ha : s.heap.IsList a xs) (hb : s.heap.IsList b ys) (hi : StrsAre xs.toList ns) (hj : StrsAre ys.toList ms) (ko : OksOk ns) (kp : OksOk ms) (hu : A.units + 64 < cLine) (h : Q (.bool (decide (ns = ms))) s) :
    wpAny (model prog w) A (compareOp .Eq (.ref a) (.ref b)) Q E s :=
  eq_dataH_same (reads_newData (ys := xs.toList) (by simpa using ha) (st_carried hi)) (reads_newData (ys := ys.toList) (by simpa using hb) (st_carried hj)) (st_shaped _ ko) (st_shaped _ kp) hu (SeqAt.noMix_of_shape (.list .str) rfl _ _ (list_map_has fun _ => rfl) (list_map_has fun _ => rfl)) (by rw [st_same]; exact h)
theorem ne_strsK (ha : s.heap.IsList a xs) (hb : s.heap.IsList b ys) (hi : StrsAre xs.toList ns) (hj : StrsAre ys.toList ms) (ko : OksOk ns) (kp : OksOk ms) (hu : A.units + 64 < cLine) (h : Q (.bool (!decide (ns = ms))) s) :
    wpAny (model prog w) A (compareOp .NotEq (.ref a) (.ref b)) Q E s :=
  ne_dataH_same (reads_newData (ys := xs.toList) (by simpa using ha) (st_carried hi)) (reads_newData (ys := ys.toList) (by simpa using hb) (st_carried hj)) (st_shaped _ ko) (st_shaped _ kp) hu (SeqAt.noMix_of_shape (.list .str) rfl _ _ (list_map_has fun _ => rfl) (list_map_has fun _ => rfl)) (by rw [st_same]; exact h)
end
theorem signs_strs {x : Str} {vs : List Value} (hl : vs.length = x.cps.size) (hP : ∀ j v, vs[j]? = some v → SignAt x j v) : StrsAre vs (x.cps.toList.map chS) := by
  refine kdy_strs (by rw [hl, List.length_map, Array.length_toList]) fun j v hv => ?_
  obtain ⟨c, u, hc, rfl⟩ := hP j v hv
  refine ⟨chS c, ?_, u, rfl⟩
  rw [List.getElem?_map, Array.getElem?_toList, hc]
  rfl
theorem sieve_strs {vs : List Value} {ks : List Str} (h : StrsAre vs ks) : StrsAre (vs.filter sieve) (ks.filter fun k => !Txt.contains signS k) := by
  induction h with
  | nil => exact .nil
  | cons y t _ ih =>
    rw [List.filter_cons, List.filter_cons]
    show StrsAre (if (!Txt.contains signS _) = true then _ else _) _
    split
    · exact .cons _ _ ih
    · exact ih
theorem sieve_bare (l : List Nat) : decide ((l.map chS).filter (fun k => !Txt.contains signS k) = []) = l.all fun c => Txt.contains signS (chS c) := by
  induction l with
  | nil => rfl
  | cons a l ih =>
    rw [List.map_cons, List.filter_cons, List.all_cons]
    cases Txt.contains signS (chS a)
    · rfl
    · exact ih
theorem strOk_ch {c : Nat} (h : c < 128) : PyData.strOk (chS c) = true := by
  simp [PyData.strOk, chS]
  omega
theorem row_short : ∀ k, (rowL.getD k PySem.Str.empty).length ≤ 3 ∧ ∀ c ∈ (rowL.getD k PySem.Str.empty).cps.toList, c < 128 := by
  intro k
  have h : ∀ x ∈ rowL, x.length ≤ 3 ∧ ∀ c ∈ x.cps.toList, c < 128 := by decide +kernel
  rw [List.getD_eq_getElem?_getD]
  cases e : rowL[k]? with
  | none => exact ⟨by decide, fun _ h => nomatch h⟩
  | some y => exact h y (List.mem_of_getElem? e)
section
variable {w : World} {A : Around} {E' : Value → Shared → Prop} {s : Shared} {mean : ExcName → Option Value} {mg mb : Str → Option Value} {Q : Value → Shared → Prop}
theorem told_any {n : Int} {t : Tok} (X : (K w.params).In s.heap) (T : Top qv (looseW qv lse) mean mg mb s.heap) (hh : A.handled = none) (hd : A.depth + 8 < recursionLimit) (hu : A.units + 200 < cLine) (hn : n = 0 ∨ (7 ≤ n ∧ n ≤ 54) ∨ (256 ≤ n ∧ n < 1256))
   (h : ∀ D h' tk tv, s.heap.StaysIn h' → s.heap.get? D = none → h'.get? D = some { cls := .type "tuple", data := .seq #[.str (toldOf n).1 tv, .bool (toldOf n).2] } → Q (.ref D) { s with heap := h', toks := tk }) : wpAny (model pw w) A (call (.ref 807) [.int n t]) Q E' s := by
  have hfi := fill_it
  revert hfi
  k_fill
  intro hfi
  clear hfi
  refine any_def (args := ⟨[.int n t], []⟩) (binds := [(S "number", .int n t)]) X T (l807 _) (c807 _) (by omega) (BindsTo.of_eq rfl) (locs rfl) (fun h₁ F' N' => ?_) rfl rfl rfl (by decide)
  dsimp only [F807]
  k_steps
  · rename Fr _ _ _ _ => F9
    rename News _ _ _ _ => N9

    have e : (S "", false) = toldOf n := by unfold toldOf; rw [if_pos (by assumption)]
    have key : ∀ z : Str × Bool, z = toldOf n → ∀ D h' tk tv, s.heap.StaysIn h' → s.heap.get? D = none → h'.get? D = some { cls := .type "tuple", data := .seq #[.str z.1 tv, .bool z.2] } → Q (.ref D) { s with heap := h', toks := tk } := fun z ez => by rw [ez]; exact h
    exact key _ e _ _ _ _ F9.keep (N9.fresh (.head _)) (N9.get (.head _))
  · rename Fr _ _ _ _ => F9
    rename News _ _ _ _ => N9
    have e : (S "n" ++ S (toString (n - 256)), true) = toldOf n := by unfold toldOf; rw [if_neg (by assumption), if_pos (by assumption)]
    have key : ∀ z : Str × Bool, z = toldOf n → ∀ D h' tk tv, s.heap.StaysIn h' → s.heap.get? D = none → h'.get? D = some { cls := .type "tuple", data := .seq #[.str z.1 tv, .bool z.2] } → Q (.ref D) { s with heap := h', toks := tk } := fun z ez => by rw [ez]; exact h
    exact key _ e _ _ _ _ F9.keep (N9.fresh (.head _)) (N9.get (.head _))
  · rename Fr _ _ _ _ => F9
    rename News _ _ _ _ => N9
    have e : toldOf n = (rowL.getD (n - 7).toNat PySem.Str.empty, bareOf (rowL.getD (n - 7).toNat PySem.Str.empty)) := by unfold toldOf; rw [if_neg (by assumption), if_neg (by assumption)]
    rename StrsAre _ _ => as
    rename List.map _ _ = _ => el
    rw [el] at as
    change StrsAre _ rowL at as
    refine KTb.item_list (ws := rowL) ⟨_, N9.get (.head _), rfl, _, rfl⟩ as (by omega) (by rw [row_len]; omega) (by omega) (fun t' _ => ?_)
    have hsh := row_short (n - 7).toNat
    generalize rowL.getD (n - 7).toNat PySem.Str.empty = x at e hsh
    iterate 8 walk1
    rename Fr _ _ _ _ => F5
    rename News _ _ _ _ => N5
    have hhA := hh
    refine wpAny_ListComp_free (cl := []) (sieve) (fun v y => y = v) (by with_unfolding_all rfl) (by decide) rfl (by decide) (by kernel_rfl) ?_
    refine wpAny_Name (wpAny_loadName_local (v := .str x t') rfl (by kernel_rfl) F5.ns (by rfl) ?_) (by decide)
    refine wpAny_pyIter_str fun o St Wk hst => ?_
    refine ⟨_, _, _, _, _, _, rfl, Wk _ hh, (show x.length ≤ sizeLine from Nat.le_trans hsh.1 (by decide)), hst, ?_, ⟨?_, ?_⟩, ?_⟩
    · intro b hb
      rw [List.mem_singleton.mp hb]
      show _ < (Heap.push _ _).objs.size
      rw [Heap.size_push]
      exact Nat.lt_succ_self _
    · rintro C i v s3 m3 E2 hC ⟨c, u, hc, rfl⟩ hns hm hkp htok
      rw [List.forIn_cons]
      refine wpAny_bind ?_
      refine KFB.if_so rfl ?_
      refine wpAny_bind (wpAny_isTrue_Compare1 ?_ rfl)
      refine wpAny_Name (wpAny_loadName_local rfl (by kernel_rfl) hns hm ?_) (by decide)
      refine wpAny_Constant_str ?_
      refine P.notIn_str ?_
      refine wpAny_truthy_bool ?_
      refine wpAny_pure ?_
      dsimp only
      rw [List.forIn_nil]
      refine wpAny_pure ⟨rfl, s3.heap, _, rfl, fun _ _ e => e⟩
    · rintro C i v s3 m3 E2 hC ⟨c, u, hc, rfl⟩ hpv hns hm hkp htok
      refine wpAny_Name (wpAny_loadName_local rfl (by kernel_rfl) hns hm ?_) (by decide)
      exact ⟨rfl, s3.heap, s3.toks, rfl, fun _ _ e => e⟩
    · intro D h' tk ys vs hD hl hpl hlen hP hF hk
      have up : ∀ b o, s.heap.get? b = some o → h'.get? b = some o := fun b o e => by
        have e5 := F5.keep b o e
        exact hk b o (fun hm => by rw [List.mem_singleton.mp hm] at e5; exact absurd (Heap.lt_size e5) (Nat.lt_irrefl _)) (Heap.get?_push_of_some _ e5)
      have hnone : s.heap.get? D = none := by
        cases e : s.heap.get? D with
        | none => rfl
        | some o2 => rw [Heap.get?_push_of_some _ (F5.keep D o2 e)] at hD; cases hD
      have F6 := F5.keeps fun b o e5 => hk b o (fun hm => by rw [List.mem_singleton.mp hm] at e5; exact absurd (Heap.lt_size e5) (Nat.lt_irrefl _)) (Heap.get?_push_of_some _ e5)
      have N6 := N5.keeps fun b o e5 => hk b o (fun hm => by rw [List.mem_singleton.mp hm] at e5; exact absurd (Heap.lt_size e5) (Nat.lt_irrefl _)) (Heap.get?_push_of_some _ e5)
      obtain ⟨kn, ho⟩ := hpl
      have N7 := N6.more F6 ho (fun _ _ e => by cases e) hnone
      have hys : StrsAre ys.toList ((x.cps.toList.map chS).filter fun k => !Txt.contains signS k) := by
        rw [paired_eq hF]
        exact sieve_strs (signs_strs hlen hP)
      clear F5 N5 N6 hk hst Wk
      iterate 3 walk1
      rename News _ _ _ _ => N8
      have hb := N8.get (.head _)
      refine eq_strsK (ms := []) ⟨_, N8.get (.tail _ (.head _)), rfl, _, rfl⟩ ⟨_, hb, rfl, _, rfl⟩ hys .nil ?_ ?_ ?_ ?_
      · intro y hy
        obtain ⟨c, hc, rfl⟩ := List.mem_map.mp (List.mem_filter.mp hy).1
        exact strOk_ch (hsh.2 c hc)
      · exact fun _ h => nomatch h
      · show A.units + 3 + 64 < _
        omega
      rw [sieve_bare]
      change wpAny _ _ _ _ _ _
      have e2 : (x.cps.toList.all fun c => Txt.contains signS (chS c)) = bareOf x := rfl
      rw [e2]
      generalize hb2 : bareOf x = bx at e
      k_steps
      rename Fr _ _ _ _ => F9
      rename News _ _ _ _ => N9
      have key : ∀ z : Str × Bool, toldOf n = z → ∀ D h' tk tv, s.heap.StaysIn h' → s.heap.get? D = none → h'.get? D = some { cls := .type "tuple", data := .seq #[.str z.1 tv, .bool z.2] } → Q (.ref D) { s with heap := h', toks := tk } := fun z ez => by rw [← ez]; exact h
      exact key _ e _ _ _ _ F9.keep (N9.fresh (.head _)) (N9.get (.head _))
end
set_option maxRecDepth 100000
set_option maxHeartbeats 4000000
theorem told_len {n : Int} (h : n = 0 ∨ (7 ≤ n ∧ n ≤ 54) ∨ (256 ≤ n ∧ n < 1256)) : (toldOf n).1.length ≤ 40 := by
  unfold toldOf
  split
  · decide
  split
  · show (S "n" ++ S (toString (n - 256))).length ≤ 40
    rw [Str.length_append]
    have := KT.len_num (n := n - 256) (by omega) (by omega)
    have e : (S "n").length = 1 := rfl
    change _ + (Str.ofString _).length ≤ _
    omega
  · exact Nat.le_trans (row_short _).1 (by decide)
theorem mT_upd {b x v : Value} {bv tv nv : Option Value} {base : Str → Option Value} :
   (fun y => if y = S "bare" then some b else if y = S "text" then some x else if y = S "number" then some v else (if y = S "bare" then bv else if y = S "text" then tv else if y = S "number" then nv else base y)) = (fun y => if y = S "bare" then some b else if y = S "text" then some x else if y = S "number" then some v else base y) := by
  funext y
  split
  · rfl
  split
  · rfl
  split <;> rfl
theorem swap3 {α : Type} (a b : α) (l : List α) : ∀ p ∈ l ++ [a, b], p ∈ a :: b :: l := fun p hp => by
  rcases List.mem_append.mp hp with h | h
  · exact .tail _ (.tail _ h)
  rcases List.mem_cons.mp h with rfl | h
  · exact .head _
  · rw [List.mem_singleton.mp h]
    exact .tail _ (.head _)
noncomputable def tokOf (posix : Bool) (alone : Str) (n : Int) : List Str :=
  if (toldOf n).2 then Txt.words (Txt.join (S "") ((toldOf n).1.cps.toList.map fun c => if Txt.contains alone (chS c) then S " " ++ chS c ++ S " " else chS c))
  else [if posix then (toldOf n).1 else S "'" ++ (toldOf n).1 ++ S "'"]
theorem ints_at {vs : List Value} {ns : List Int} {i : Nat} {v : Value} (h : IntsAre vs ns) (hv : vs[i]? = some v) : ∃ n tn, v = .int n tn ∧ ns[i]? = some n := by
  induction h generalizing i with
  | nil => cases hv
  | cons n t _ ih =>
    cases i with
    | zero => cases hv; exact ⟨n, t, rfl, rfl⟩
    | succ i => exact ih hv
theorem elt_strs {al : Str} {vs ys : List Value} {l : List Nat} (h : StrsAre vs (l.map chS)) (hp : Paired (fun v y => match v with | .str z _ => ∃ t, y = .str (if Txt.contains al z then S " " ++ z ++ S " " else z) t | _ => False) vs ys) :
   StrsAre ys (l.map fun c => if Txt.contains al (chS c) then S " " ++ chS c ++ S " " else chS c) := by
  induction l generalizing vs ys with
  | nil => cases h; cases hp; exact .nil
  | cons c l ih =>
    cases h with
    | cons _ t h =>
      cases hp with
      | cons a hp =>
        obtain ⟨t, rfl⟩ := a
        exact .cons _ _ (ih h hp)
noncomputable def mT (D a sz : Addr) (posix : Bool) (al : Str) (t : Tok) (nv tv bv : Option Value) : Str → Option Value := fun y => if y = S "bare" then bv else if y = S "text" then tv else if y = S "number" then nv else if y = Str.ofString "due" then some (.ref D) else bindL (envOfC (S "_law_tokens") F812.sc sz 812 (.ref 811)).kindOf [(S "numbers", .ref a), (S "posix", .bool posix), (S "alone", .str al t)] (fun _ => none) y
section
variable {w : World} {A : Around} {E' : Value → Shared → Prop} {s : Shared} {mean : ExcName → Option Value} {mg mb : Str → Option Value} {Q : Value → Shared → Prop}
theorem tokens_any {posix : Bool} {al : Str} {t : Tok} {a : Addr} {vs : Array Value} {ns : List Int} (X : (K w.params).In s.heap) (T : Top qv (looseW qv lse) mean mg mb s.heap) (hh : A.handled = none) (hd : A.depth + 18 < recursionLimit) (hu : A.units + 400 < cLine) (hl : s.heap.IsList a vs) (hi : IntsAre vs.toList ns)
   (hn : ∀ n ∈ ns, n = 0 ∨ (7 ≤ n ∧ n ≤ 54) ∨ (256 ≤ n ∧ n < 1256)) (hlen : ns.length ≤ 64) (hal : al.length ≤ 20) (hsz : (ns.flatMap (tokOf posix al)).length ≤ 1000)
   (h : ∀ D h' tk vs, s.heap.StaysIn h' → s.heap.get? D = none → h'.PlainList D vs → StrsAre vs.toList (ns.flatMap (tokOf posix al)) → Q (.ref D) { s with heap := h', toks := tk }) : wpAny (model pw w) A (call (.ref 812) [.ref a, .bool posix, .str al t]) Q E' s := by
  have hfi := fill_it
  revert hfi
  k_fill
  intro hfi
  clear hfi
  refine any_cells (args := ⟨[.ref a, .bool posix, .str al t], []⟩) (binds := [(S "numbers", .ref a), (S "posix", .bool posix), (S "alone", .str al t)]) X T (l812 _) (c812 _) (by omega) (BindsTo.of_eq rfl) (by kernel_rfl) (by decide) (fun h₁ tk cells F' N' Y => ?_) rfl rfl rfl
  have hY := CellsAre.one Y
  obtain ⟨o', hE', d1'⟩ := hY
  subst hE'
  clear Y
  dsimp only [F812]
  iterate 8 walk1
  rename Fr _ _ _ _ => F5
  rename News _ _ _ _ => N5
  refine wpAny_For ?_
  refine wpAny_Name (wpAny_loadName_local (v := .ref a) rfl (by kernel_rfl) F5.ns (by rfl) ?_) (by decide)
  refine wpAny_pyIter_list (hl.at fun o e => F5.keep _ o e) ?_
  rename_i _ D _ lD h'
  have hI : ∀ b o, s.heap.get? b = some o → b < s.heap.objs.size := fun b o e => Heap.lt_size e
  have hpush : ∀ b o, h'.get? b = some o → (h'.push { cls := .type "list_iterator", data := .fields #[.ref a, .int 0 0] }).get? b = some o := fun b o e => Heap.get?_push_of_some _ e
  have hab : a < s.heap.objs.size := by obtain ⟨o, ho, _⟩ := hl; exact hI _ _ ho
  have hIb : s.heap.objs.size < h'.objs.size := F5.ns.lt
  have hcb : s.heap.objs.size + 1 < h'.objs.size := Heap.lt_size (N5.get (.tail _ (.head _)))
  have hDb : D < h'.objs.size := Heap.lt_size (N5.get (.head _))
  refine codeAny_forLoop_frU (h₀ := s.heap) (n := vs.size) (Walks.list (show (A.deeper _).handled = none from hh) h'.objs.size a (Nat.ne_of_lt (Nat.lt_trans hab hIb)) vs) rfl rfl (show _ ∉ _ from ?_) ?_ (news := [(D, W.listOf #[] 0), (s.heap.objs.size + 1, o')]) ?_ ?_ (F5.keeps hpush) (N5.keeps hpush) 
    (fun i m news => ∃ nv tv bv items c, m = mT D a s.heap.objs.size posix al t nv tv bv ∧ news = [(D, { cls := .type "list", data := .seq items c }), (s.heap.objs.size + 1, o')] ∧ StrsAre items.toList ((ns.take i).flatMap (tokOf posix al))) ?_ ?_ ?_
  · intro h
    rcases List.mem_cons.mp h with h | h
    · exact absurd h (Nat.ne_of_lt hIb)
    · exact absurd (List.mem_singleton.mp h) (Nat.ne_of_gt hab)
  · intro b hb
    rw [List.mem_singleton.mp hb]
    exact Heap.get?_none_of_le (Nat.le_of_lt hIb)
  · intro p hp hm
    have hm := List.mem_singleton.mp hm
    rcases List.mem_cons.mp hp with rfl | hp
    · exact absurd hm (Nat.ne_of_lt hDb)
    · rw [List.mem_singleton.mp hp] at hm
      exact absurd hm (Nat.ne_of_lt hcb)
  · exact ⟨⟨_, Heap.get?_push_size _ rfl, rfl, rfl⟩, hl.at fun o e => hpush _ _ (F5.keep _ o e)⟩
  · refine ⟨none, none, none, #[], 0, ?_, rfl, .nil⟩
    funext y
    unfold mT
    by_cases c1 : y = S "bare"
    · subst c1; rfl
    · rw [if_neg c1]
      by_cases c2 : y = S "text"
      · subst c2; rfl
      · rw [if_neg c2]
        by_cases c3 : y = S "number"
        · subst c3; rfl
        · rw [if_neg c3]
  · rintro i v m₁ news₁ s₁ own hlt hP ⟨nv, tv, bv, items, c, rfl, rfl, hit⟩ hoff hsub hget hall hst F N
    have F0 := F
    have hpm : News s.heap s.heap.objs.size s₁.heap ((D, { cls := .type "list", data := .seq items c }) :: (s.heap.objs.size + 1, o') :: own) := N.perm fun p hp => by
      rcases List.mem_cons.mp hp with rfl | hp
      · exact List.mem_append_right _ (.head _)
      rcases List.mem_cons.mp hp with rfl | hp
      · exact List.mem_append_right _ (.tail _ (.head _))
      · exact List.mem_append_left _ hp
    have hro : ∀ q ∈ own, q.1 ≠ D := fun q hq e => by
      rcases List.mem_cons.mp (hsub q hq) with h | h
      · exact absurd (e.symm.trans h) (Nat.ne_of_lt hDb)
      · exact absurd (e.symm.trans (List.mem_singleton.mp h)) (Nat.ne_of_gt (Nat.lt_trans hab (Nat.lt_trans (Nat.lt_succ_self _) lD)))
    clear N
    dsimp only [mT] at F
    have hv : ∃ n tn, v = .int n tn ∧ ns[i]? = some n := ints_at hi (by rw [Array.getElem?_toList]; exact hP)
    obtain ⟨n, tn, rfl, hni⟩ := hv
    have hnr := hn n (List.mem_of_getElem? hni)
    have N := hpm
    clear hpm
    k_steps
    refine told_any (X.keeps F.keep) (T.keeps F.keep) hh (by show A.depth + 1 + 8 < _; omega) (by show A.units + 3 + 200 < _; omega) hnr fun D2 h2 tk2 tv2 k2 hn2 ho2 => ?_
    have F2 := F.keeps k2
    have N2 := (N.keeps k2).more F2 ho2 (fun _ _ e => by cases e) (by
      cases e : s.heap.get? D2 with
      | none => rfl
      | some o2 => rw [F.keep D2 o2 e] at hn2; cases hn2)
    clear F
    have hro' := hro
    have htl := told_len hnr
    obtain ⟨⟨x, bx⟩, htold⟩ : ∃ z, toldOf n = z := ⟨_, rfl⟩
    rw [htold] at N2 ho2 htl
    dsimp only at N2 ho2 htl
    have N3 := N.keeps k2
    clear N
    refine unpackN_ F2 N3 (News.isTup N2 (.head _)) hh rfl rfl ?_
    intro h5 F5' N5'
    clear N2 N3 F2 ho2
    have htake : ∀ j, ((ns.take j).flatMap (tokOf posix al)).length ≤ 1000 := fun j => by
      have e2 : (ns.take j).flatMap (tokOf posix al) ++ (ns.drop j).flatMap (tokOf posix al) = ns.flatMap (tokOf posix al) := by rw [← List.flatMap_append, List.take_append_drop]
      have e3 := congrArg List.length e2
      rw [List.length_append] at e3
      omega
    have hk0 : items.size ≤ 1000 := by
      have e1 : items.size = ((ns.take i).flatMap (tokOf posix al)).length := by rw [← hit.length]; simp
      rw [e1]
      exact htake i
    have hstep : (ns.take (i + 1)).flatMap (tokOf posix al) = (ns.take i).flatMap (tokOf posix al) ++ tokOf posix al n := by
      rw [List.take_add_one, hni, List.flatMap_append]
      simp
    have hwn : ∀ oD : Obj, ∀ p ∈ [(D, oD), (s.heap.objs.size + 1, o')], p.1 ∉ [h'.objs.size] := fun oD p hp hm => by
      have hm := List.mem_singleton.mp hm
      rcases List.mem_cons.mp hp with rfl | hp
      · exact absurd hm (Nat.ne_of_lt hDb)
      · rw [List.mem_singleton.mp hp] at hm
        exact absurd hm (Nat.ne_of_lt hcb)
    cases bx
    · have htk : ∀ z : Str, z = (if posix then x else S "'" ++ x ++ S "'") → tokOf posix al n = [z] := fun z ez => by
        unfold tokOf
        rw [htold, ez]
        rfl
      k_steps
      all_goals rename Fr _ _ _ _ => F9
      all_goals rename News _ _ _ _ => N9
      · have e1 := htk x (by rw [if_pos (by assumption)])
        refine LoopStepU.intro (news₂ := [(D, { cls := .type "list", data := .seq (items.push _) _ }), (s.heap.objs.size + 1, o')]) F9 (N9.perm (swap3 _ _ _)) ?_ ⟨_, _, _, _, _, mT_upd, rfl, ?_⟩
        · exact hwn _
        · rw [hstep, e1]
          rw [Array.toList_push]; exact hit.append' (.cons _ _ .nil)
      · have e1 := htk (Str.ofString "'" ++ x ++ Str.ofString "'") (by rw [if_neg (by simp [*])])
        refine LoopStepU.intro (news₂ := [(D, { cls := .type "list", data := .seq (items.push _) _ }), (s.heap.objs.size + 1, o')]) F9 (N9.perm (swap3 _ _ _)) ?_ ⟨_, _, _, _, _, mT_upd, rfl, ?_⟩
        · exact hwn _
        · rw [hstep, e1]
          rw [Array.toList_push]; exact hit.append' (.cons _ _ .nil)
    · iterate 27 walk1
      rename Fr _ _ _ _ => F6
      rename News _ _ _ _ => N6
      clear F5' N5'
      have hcell := N6.get (.tail _ (.head _))
      refine wpAny_ListComp_free (cl := [(S "alone", s.heap.objs.size + 1)]) (fun _ => true) (fun v y => match v with | .str z _ => ∃ t, y = .str (if Txt.contains al z then S " " ++ z ++ S " " else z) t | _ => False) (by with_unfolding_all rfl) (by decide) rfl (by decide) (by kernel_rfl) ?_
      refine wpAny_Name (wpAny_loadName_local (v := .str x tv2) rfl (by kernel_rfl) F6.ns (by rfl) ?_) (by decide)
      refine wpAny_pyIter_str fun o St Wk hst => ?_
      refine ⟨_, _, _, _, _, _, rfl, Wk _ hh, (show x.length ≤ sizeLine from Nat.le_trans htl (by decide)), hst, ?_, ⟨?_, ?_⟩, ?_⟩
      · intro b hb
        rw [List.mem_singleton.mp hb]
        show _ < (Heap.push _ _).objs.size
        rw [Heap.size_push]
        exact Nat.lt_succ_self _
      · rintro C i v s3 m3 E2 hC ⟨c, u, hc, rfl⟩ hns hm hkp htok
        rw [List.forIn_nil]
        exact wpAny_pure ⟨rfl, s3.heap, _, rfl, fun _ _ e => e⟩
      · rintro C i v s3 m3 E2 hC ⟨c, u, hc, rfl⟩ hpv hns hm hkp htok
        have hcl : s3.heap.get? (s.heap.objs.size + 1) = some o' := hkp _ _ (fun hm => by
          have hm := List.mem_singleton.mp hm
          have := Heap.lt_size hcell
          rw [hm] at this
          exact absurd this (Nat.lt_irrefl _)) (Heap.get?_push_of_some _ hcell)
        refine wpAny_IfExp (wpAny_isTrue_Compare1 ?_ rfl)
        refine wpAny_Name (wpAny_loadName_local rfl (by kernel_rfl) hns hm ?_) (by decide)
        refine wpAny_Name (wpAny_loadName_cell (c := s.heap.objs.size + 1) (v := .str al t) rfl (by kernel_rfl) (by kernel_rfl) ⟨o', hcl, d1'⟩ ?_) (by decide)
        refine SB.contains (wpAny_truthy_bool ?_)
        have h1c : (Str.mk #[c]).length = 1 := rfl
        have h1s : (Str.ofString " ").length = 1 := rfl
        cases hcc : Txt.contains al ⟨#[c]⟩
        · rw [if_neg (by decide)]
          refine wpAny_Name (wpAny_loadName_local rfl (by kernel_rfl) hns hm ?_) (by decide)
          refine ⟨?_, s3.heap, _, rfl, fun _ _ e => e⟩
          show ∃ t, _
          rw [hcc]
          exact ⟨_, rfl⟩
        · rw [if_pos rfl]
          refine wpAny_BinOp (wpAny_BinOp (wpAny_Constant_str ?_))
          refine wpAny_Name (wpAny_loadName_local rfl (by kernel_rfl) hns hm ?_) (by decide)
          refine SB.add (fun ta ka => ?_) (by rw [h1s, h1c]; decide)
          refine wpAny_Constant_str ?_
          refine SB.add (fun tb kb => ?_) (by rw [Str.length_append, h1s, h1c]; decide)
          refine ⟨?_, s3.heap, _, rfl, fun _ _ e => e⟩
          show ∃ t, _
          rw [hcc]
          exact ⟨_, rfl⟩
      · intro Dc hc tkc ys vs hD hlc hpl hlenc hP hF hk
        have hup := fun b o (e5 : _ = some o) => hk b o (fun hm => by rw [List.mem_singleton.mp hm] at e5; exact absurd (Heap.lt_size e5) (Nat.lt_irrefl _)) (Heap.get?_push_of_some _ e5)
        have F7 := F6.keeps hup
        have N7 := N6.keeps hup
        have hys : StrsAre ys.toList (x.cps.toList.map fun c => if Txt.contains al (chS c) then S " " ++ chS c ++ S " " else chS c) := by
          rw [show vs.filter (fun _ => true) = vs from List.filter_eq_self.mpr fun _ _ => rfl] at hF
          exact elt_strs (signs_strs hlenc hP) hF
        clear F6 N6 hk hst Wk hup
        have h3 : ∀ y ∈ (x.cps.toList.map fun c => if Txt.contains al (chS c) then S " " ++ chS c ++ S " " else chS c), y.length ≤ 3 := fun y hy => by
          obtain ⟨c, _, rfl⟩ := List.mem_map.mp hy
          have h1c : (chS c).length = 1 := rfl
          have h1s : (S " ").length = 1 := rfl
          split
          · rw [Str.length_append, Str.length_append, h1c, h1s]; decide
          · rw [h1c]; decide
        refine spliced_none ?_
        refine join_list hlc hys ?_ ?_
        · have h4 := sum_le h3
          rw [List.length_map, Array.length_toList] at h4 ⊢
          have h6 : (Str.ofString "").length = 0 := rfl
          rw [h6]
          have h7 : x.cps.size ≤ 40 := htl
          have h8 : (1000 : Nat) ≤ sizeLine := by decide
          omega
        · intro t' kj
          have hjl : (Txt.join (S "") (x.cps.toList.map fun c => if Txt.contains al (chS c) then S " " ++ chS c ++ S " " else chS c)).length ≤ 200 := by
            unfold Txt.join
            rw [StrLaws.glued_eq_join]
            refine Nat.le_trans (StrLaws.join_length_le _ _) ?_
            have h4 := sum_le h3
            rw [List.length_map, Array.length_toList] at h4 ⊢
            have h6 : (S "").length = 0 := rfl
            rw [h6]
            have h7 : x.cps.size ≤ 40 := htl
            omega
          have htk : ∀ z : Str, z = Txt.join (S "") (x.cps.toList.map fun c => if Txt.contains al (chS c) then S " " ++ chS c ++ S " " else chS c) → tokOf posix al n = Txt.words z := fun z ez => by
            unfold tokOf
            rw [htold, ez]
            rfl
          have htk := htk _ rfl
          change wpAny _ _ (getMethod (.str (Txt.join (S "") (x.cps.toList.map fun c => if Txt.contains al (chS c) then S " " ++ chS c ++ S " " else chS c)) t') _ _) _ _ _
          generalize Txt.join (S "") (x.cps.toList.map fun c => if Txt.contains al (chS c) then S " " ++ chS c ++ S " " else chS c) = y at htk hjl ⊢
          have hDc : D < hc.objs.size := Heap.lt_size (N7.get (.head _))
          k_steps
          rename Fr _ _ _ _ => F8
          rename News _ _ _ _ => N8
          rename StrsAre _ _ => as
          rename List.map _ _ = _ => el
          rw [el] at as
          refine extend_in (own := [(hc.objs.size, _)]) (ys := items.toList) (n := c) F8 N8 ?_ ?_ (N8.get (.head _)) (fun h9 n9 F9 N9 => ?_) ?_
          · intro p hp
            rw [List.mem_singleton.mp hp]
            exact Nat.ne_of_gt hDc
          · intro p hp
            rcases List.mem_cons.mp hp with rfl | hp
            · exact Nat.ne_of_lt lD
            · exact hro p hp
          · k_steps
            refine LoopStepU.intro (news₂ := [(D, { cls := .type "list", data := .seq (items.toList ++ _).toArray n9 }), (s.heap.objs.size + 1, o')]) F9 (N9.perm fun p hp => .tail _ (swap3 _ _ _ p hp)) ?_ ⟨_, _, _, _, _, mT_upd, rfl, ?_⟩
            · exact hwn _
            · rw [hstep, htk]
              simp only []
              exact hit.append' as
          · have e5 := htake (i + 1)
            rw [hstep, htk, List.length_append, ← hit.length, ← as.length] at e5
            have h8 : (1000 : Nat) ≤ sizeLine := by decide
            rw [List.size_toArray]
            omega
  · rintro h9 tk9 m9 news9 F9 N9 hw9 ⟨nv, tv, bv, items, c, rfl, rfl, hit⟩
    have hv : vs.size = ns.length := by have := hi.length; simpa using this
    rw [hv, List.take_length] at hit
    have F10 : Fr s.heap s.heap.objs.size h9 (fun y => mT D a s.heap.objs.size posix al t nv tv bv y) := F9
    have N10 : News s.heap s.heap.objs.size h9 [(D, { cls := .type "list", data := .seq items c }), (s.heap.objs.size + 1, o')] := N9
    clear F9 N9
    dsimp only [mT] at F10
    show wpAny _ _ (execs _ _) _ _ _
    k_steps
    rename Fr _ _ _ _ => F9
    rename News _ _ _ _ => N9
    exact h _ _ _ _ F9.keep (N9.fresh (.head _)) ⟨_, N9.get (.head _)⟩ hit
end
set_option maxRecDepth 100000
set_option maxHeartbeats 4000000
structure ReadOk (buf : Str) (ns : List Int) (px : Bool) : Prop where
  len : buf.length ≤ 10000
  nl : ns.length ≤ 64
  rng : ∀ n ∈ ns, n = 0 ∨ (7 ≤ n ∧ n ≤ 54) ∨ (256 ≤ n ∧ n < 1256)
  t0 : Toks (cfg px (S "") (wcOf px) (S "") true) .sp buf.cps.toList (ns.flatMap (tokOf px (S "")))
  t1 : Toks (cfg px (S "#") (trOf marks (wcOf px)) marks false) .sp buf.cps.toList (ns.flatMap (tokOf px (S "")))
  t2 : Toks (cfg px (S "#") (trOf marksT (wcOf px)) marksT false) .sp buf.cps.toList (ns.flatMap (tokOf px (S "%+,:@")))
  t3 : Toks (cfg px (S "#") (wcOf px) (S "") false) .sp buf.cps.toList (ns.flatMap (tokOf px (S "%+,-./:=@")))
  l0 : (ns.flatMap (tokOf px (S ""))).length ≤ 1000
  l2 : (ns.flatMap (tokOf px (S "%+,:@"))).length ≤ 1000
  l3 : (ns.flatMap (tokOf px (S "%+,-./:=@"))).length ≤ 1000
  o0 : OksOk (ns.flatMap (tokOf px (S "")))
  o2 : OksOk (ns.flatMap (tokOf px (S "%+,:@")))
  o3 : OksOk (ns.flatMap (tokOf px (S "%+,-./:=@")))
theorem none_up {h h' : Heap} {D : Addr} (k : h.StaysIn h') (e : h'.get? D = none) : h.get? D = none := by
  cases e2 : h.get? D with
  | none => rfl
  | some o => rw [k D o e2] at e; cases e
theorem pick_p {P : Params} {l : Lx} {x : Sx} {st : St} {tst ttok tp : Tok} {p : Nat} {q q1 q2 q3 : Addr × Obj} {more tl : List (Addr × Obj)} (h : ∀ y ∈ tl, y ∈ more) : ∀ y ∈ q :: tl, y ∈ lexL P l x st tst ttok tp p (q :: q1 :: q2 :: q3 :: more) := fun y hy => by
  cases hy with
  | head => exact .tail _ (.tail _ (.tail _ (.tail _ (.head _))))
  | tail _ hy => exact .tail _ (.tail _ (.tail _ (.tail _ (.tail _ (.tail _ (.tail _ (.tail _ (h y hy))))))))
theorem pick_0 {P : Params} {l : Lx} {x : Sx} {st : St} {tst ttok tp : Tok} {p : Nat} {q q1 q2 : Addr × Obj} {more tl : List (Addr × Obj)} (h : ∀ y ∈ tl, y ∈ more) : ∀ y ∈ q :: tl, y ∈ lexL P l x st tst ttok tp p (q :: q1 :: q2 :: more) := fun y hy => by
  cases hy with
  | head => exact .tail _ (.tail _ (.tail _ (.tail _ (.head _))))
  | tail _ hy => exact .tail _ (.tail _ (.tail _ (.tail _ (.tail _ (.tail _ (.tail _ (h y hy)))))))
section
variable {w : World} {A₀ : Around} {base h₀ : Heap} {outer : List Env} {mean : ExcName → Option Value} {mg mb : Str → Option Value} {cn : Str} {cs : Scope} {L a : Addr} {ccd : Value} {dp un : Nat} {gd : Option (List Code)} {m : Str → Option Value} {E' : Value → Shared → Prop} {Q : Value → Shared → Prop} {s : Shared} {rest : List (Addr × Obj)}
theorem t_readers {buf : Str} {tb : Tok} {px : Bool} {ns : List Int} {na : Addr} {vs : Array Value} {c : Nat}
   (G : Cx w A₀ base h₀ outer mean mg mb cs dp un 30) (XB : (K w.params).In base) (TB : Top qv (looseW qv lse) mean mg mb base) (F : Fr h₀ L s.heap m) (N : News h₀ L s.heap ((na, lisO vs c) :: rest)) (R : ReadOk buf ns px) (hi : IntsAre vs.toList ns)
   (h : ∀ h' tk, base.StaysIn h' → h₀.UpToSlots h' → Fr (refresh h₀ h') L h' m → News (refresh h₀ h') L h' ((na, lisO vs c) :: rest) → Q (.bool true) { s with heap := h', toks := tk }) :
   wpAny (model pw w) (aT dp un gd cn cs L a ccd outer) (call (.ref 819) [.str buf tb, .ref na, .bool px]) Q E' s := by
  obtain ⟨B, X, T, hk, room, hun⟩ := G
  have hfi := fill_it
  revert hfi
  k_fill
  intro hfi
  clear hfi
  refine wpAny_call ?_
  refine code_raw (args := ⟨[.str buf tb, .ref na, .bool px], []⟩) (binds := [(S "line", .str buf tb), (S "numbers", .ref na), (S "posix", .bool px)]) B F X N T rfl rfl hk (l819 _) (c819 _) (by dsimp only [aT]; omega) (BindsTo.of_eq rfl) (locs rfl) ?_ rfl rfl rfl (by decide)
  intro g' L' h1 FG' F1 N1 B' X' T' st'
  show wpAny (model pw w) (aT (dp + 1) (un + 3) gd (S "_law_readers") F819.sc L' 819 (.ref 818) (envOf cn cs L a ccd :: outer)) (execs F819.b (envOf (S "_law_readers") F819.sc L' 819 (.ref 818))) _ _ _
  have G' : Cx w (aT dp un gd cn cs L a ccd outer) base g' (envOf cn cs L a ccd :: outer) mean mg mb F819.sc (dp + 1) (un + 3) 28 := ⟨B', X', T', rfl, by omega, by omega⟩
  have B0 := B
  have hno : ∀ q ∈ (na, lisO vs c) :: rest, q.1 ≠ L' ∧ g'.get? q.1 = none := fun q hq => (N1 q hq).2
  clear B X T F N hk B'
  dsimp only [F819]
  k_steps
  rename Fr _ _ _ _ => F2
  rename News _ _ _ _ => N2
  refine tokens_any (X'.keeps F2.keep) (T'.keeps F2.keep) rfl (by show dp + 1 + 18 < _; omega) (by show un + 3 + 400 < _; omega) ⟨_, N2.get (.head _), rfl, _, rfl⟩ hi R.rng R.nl (by decide) R.l0 fun W0 h3 tk3 ws0 k3 hn3 ho3 hs0 => ?_
  obtain ⟨c3, ho3⟩ := ho3
  have F3 := F2.keeps k3
  have N3 := (N2.keeps k3).more F3 ho3 (fun _ _ e => by cases e) (none_up F2.keep hn3)
  clear F2 N2
  k_steps
  rename Fr _ _ _ _ => F4
  rename News _ _ _ _ => N4
  refine t_split (ts := ns.flatMap (tokOf px (S ""))) (px := px) (buf := buf) (tb := tb) (args := ⟨[.str buf tb, .bool false, .bool px], []⟩) ⟨G'.B, G'.X, G'.T, G'.hk, by omega, by omega⟩ F4 N4 R.len (binds_K (X'.keeps F4.keep) rfl (by k_is) rfl rfl rfl) R.t0 R.l0 fun D h5 tk5 it5 c5 k5 u5 F5 N5 hs5 => ?_
  clear F4 N4
  have G5 := cx_refresh G' XB TB k5 u5
  have X5 := G5.X
  have T5 := G5.T
  clear X' T' G'
  walk1
  refine eq_strsK ⟨_, N5.get (.head _), rfl, _, rfl⟩ ⟨_, N5.get (.tail _ (.head _)), rfl, _, rfl⟩ hs5 hs0 R.o0 R.o0 (by show un + 3 + 64 < _; omega) ?_
  rw [decide_eq_true rfl]
  k_steps
  rename Fr _ _ _ _ => F6
  rename News _ _ _ _ => N6

  refine t_newP (mk := marks) (px := px) (tb := tb) (args := ⟨[.str buf tb, .none, .bool px, .str marks _], []⟩) ⟨G5.B, G5.X, G5.T, G5.hk, by omega, by omega⟩ F6 N6 R.len (mid_s (by decide) (by decide)) (by decide +kernel) (by decide +kernel) (by decide +kernel) (by decide +kernel) (by decide +kernel) (fun x h' X => binds_K X rfl (by k_is) rfl rfl rfl) fun l x h7 tk7 tst ttok tp pc M F7 N7 => ?_
  clear F6 N6
  k_steps
  rename Fr _ _ _ _ => F8
  rename News _ _ _ _ => N8
  refine call_list (p := 0) (ts := ns.flatMap (tokOf px (S ""))) (toks_congr M.px.symm M.com.symm M.wc.symm M.pc.symm M.wsp.symm (by rw [List.drop_zero, M.buf]; exact R.t1)) (Nat.zero_le _) ⟨G5.B, G5.X, G5.T, G5.hk, by omega, by omega⟩ M.sok M.gok F8 N8 R.l0 ?_
  intro D9 h9 tk9 tst9 ttok9 tp9 p9 st9 it9 c9 k9 u9 F9 N9' hs9
  have N9 := N9'.perm (pick_p (tl := (W0, lisO ws0 c3) :: (na, lisO vs c) :: rest) (fun p hp => .tail _ hp))
  clear F8 N8 M N9'
  have G9 := cx_refresh G5 XB TB k9 u9
  have X9 := G9.X
  have T9 := G9.T
  clear X5 T5
  walk1
  refine eq_strsK ⟨_, N9.get (.head _), rfl, _, rfl⟩ ⟨_, N9.get (.tail _ (.head _)), rfl, _, rfl⟩ hs9 hs0 R.o0 R.o0 (by show un + 3 + 64 < _; omega) ?_
  rw [decide_eq_true rfl]
  k_steps
  rename Fr _ _ _ _ => F6
  rename News _ _ _ _ => N6
  refine t_newP (mk := marksT) (px := px) (tb := tb) (args := ⟨[.str buf tb, .none, .bool px, .bool true], []⟩) ⟨G9.B, G9.X, G9.T, G9.hk, by omega, by omega⟩ F6 N6 R.len mid_t (by decide +kernel) (by decide +kernel) (by decide +kernel) (by decide +kernel) (by decide +kernel) (fun x h' X => binds_K X rfl (by k_is) rfl rfl rfl) fun l x h7 tk7 tst ttok tp pc M F7 N7 => ?_
  clear F6 N6
  k_steps
  rename Fr _ _ _ _ => F8
  rename News _ _ _ _ => N8
  refine call_list (p := 0) (ts := ns.flatMap (tokOf px (S "%+,:@"))) (toks_congr M.px.symm M.com.symm M.wc.symm M.pc.symm M.wsp.symm (by rw [List.drop_zero, M.buf]; exact R.t2)) (Nat.zero_le _) ⟨G9.B, G9.X, G9.T, G9.hk, by omega, by omega⟩ M.sok M.gok F8 N8 R.l2 ?_
  intro D10 h10 tk10 tst10 ttok10 tp10 p10 st10 it10 c10 k10 u10 F10 N10' hs10
  have N10 := N10'.perm (pick_p (tl := (na, lisO vs c) :: rest) (fun p hp => .tail _ (.tail _ hp)))
  clear F8 N8 M N10'
  have G10 := cx_refresh G9 XB TB k10 u10
  have X10 := G10.X
  have T10 := G10.T
  clear X9 T9
  k_steps
  rename Fr _ _ _ _ => F2
  rename News _ _ _ _ => N2
  refine tokens_any (X10.keeps F2.keep) (T10.keeps F2.keep) rfl (by show dp + 1 + 18 < _; omega) (by show un + 3 + 400 < _; omega) ⟨_, N2.get (.tail _ (.head _)), rfl, _, rfl⟩ hi R.rng R.nl (by decide) R.l2 fun W1 h3 tk3 ws1 k3 hn3 ho3 hs1 => ?_
  obtain ⟨c31, ho31⟩ := ho3
  have F3 := F2.keeps k3
  have N3 := (N2.keeps k3).more F3 ho31 (fun _ _ e => by cases e) (none_up F2.keep hn3)
  clear F2 N2
  refine eq_strsK ⟨_, N3.get (.tail _ (.head _)), rfl, _, rfl⟩ ⟨_, N3.get (.head _), rfl, _, rfl⟩ hs10 hs1 R.o2 R.o2 (by show un + 3 + 64 < _; omega) ?_
  rw [decide_eq_true rfl]
  k_steps
  rename Fr _ _ _ _ => F6
  rename News _ _ _ _ => N6
  refine t_new0 (px := px) (tb := tb) (args := ⟨[.str buf tb, .none, .bool px], []⟩) ⟨G10.B, G10.X, G10.T, G10.hk, by omega, by omega⟩ F6 N6 R.len (fun x h' X => binds_K X rfl (by k_is) rfl rfl rfl) fun l x h7 tk7 tst ttok tp M F7 N7 => ?_
  clear F6 N6
  k_steps
  rename Fr _ _ _ _ => F8
  rename News _ _ _ _ => N8
  refine call_list (p := 0) (ts := ns.flatMap (tokOf px (S "%+,-./:=@"))) (toks_congr M.px.symm M.com.symm M.wc.symm M.pc.symm M.wsp.symm (by rw [List.drop_zero, M.buf]; exact R.t3)) (Nat.zero_le _) ⟨G10.B, G10.X, G10.T, G10.hk, by omega, by omega⟩ M.sok M.gok F8 N8 R.l3 ?_
  intro D11 h11 tk11 tst11 ttok11 tp11 p11 st11 it11 c11 k11 u11 F11 N11' hs11
  have N11 := N11'.perm (pick_0 (tl := (na, lisO vs c) :: rest) (fun p hp => .tail _ (.tail _ hp)))
  clear F8 N8 M N11'
  have G11 := cx_refresh G10 XB TB k11 u11
  have X11 := G11.X
  have T11 := G11.T
  clear X10 T10
  k_steps
  rename Fr _ _ _ _ => F2
  rename News _ _ _ _ => N2
  refine tokens_any (X11.keeps F2.keep) (T11.keeps F2.keep) rfl (by show dp + 1 + 18 < _; omega) (by show un + 3 + 400 < _; omega) ⟨_, N2.get (.tail _ (.head _)), rfl, _, rfl⟩ hi R.rng R.nl (by decide) R.l3 fun W2 h12 tk12 ws2 k12 hn12 ho12 hs2 => ?_
  obtain ⟨c32, ho32⟩ := ho12
  have F3 := F2.keeps k12
  have N3 := (N2.keeps k12).more F3 ho32 (fun _ _ e => by cases e) (none_up F2.keep hn12)
  clear F2 N2
  refine eq_strsK ⟨_, N3.get (.tail _ (.head _)), rfl, _, rfl⟩ ⟨_, N3.get (.head _), rfl, _, rfl⟩ hs11 hs2 R.o3 R.o3 (by show un + 3 + 64 < _; omega) ?_
  rw [decide_eq_true rfl]
  k_steps
  have ufin := rf_trans u5 (rf_trans u9 (rf_trans u10 (rf_trans u11 (Heap.UpToSlots.of_keeps F3.keep))))
  have kfin : base.StaysIn h12 := fun b o e => F3.keep b o (G11.B.stays b o e)
  obtain ⟨F20, N20, B20, u20⟩ := rf_back (h := h12) (g₂ := h12) (m' := m) B0 FG' st' kfin ufin (rf_news fun q hq => ⟨(N3 q (.tail _ (.tail _ hq))).1, hno q hq⟩)
  exact h _ _ kfin u20 F20 N20
end
set_option maxRecDepth 100000
set_option maxHeartbeats 4000000
noncomputable def tabs7 : List (Addr × Addr) := [(750, 746)]
theorem tabIn_law (P : Params) : tabIn (K P) (S "law") = some (823, 821) := by kernel_rfl
theorem recs_law : ∃ r, recsOf qv = [r] ∧ r.name = S "law" := ⟨_, rfl, rfl⟩
theorem owns_law : ownsOf qv = [] := rfl
section
variable {w : World} {mean : ExcName → Option Value} {mg mb : Str → Option Value} {h₁ : Heap}
theorem ghost_top7 (hT : TabsAt tabs7 h₁) (X : (K w.params).In h₁) (T : Top qv (looseW qv lse) mean mg mb h₁) : Top qv (looseW qv lse) mean mg mb (ghostOf h₁ tabs7) where
  g := ghost_ns hT T.g
  b := ghost_ns hT T.b
  nolimit := let ⟨mc, a, r⟩ := T.nolimit; ⟨mc, ghost_ns hT a, r⟩
  nodigits := let ⟨mc, a, r⟩ := T.nodigits; ⟨mc, ghost_ns hT a, r⟩
  fn := fun d hd => by
    obtain ⟨a, o, pm, code, doc, e1, e2, e3, c, oc, vs, t, r1, r2, r3, r4⟩ := T.fn d hd
    refine ⟨a, o, pm, code, doc, e1, ghost_get hT e2 (fun q => by rw [q] at e3; cases e3), e3, c, oc, vs, t, r1, ghost_get hT r2 (fun q => ?_), r3, r4⟩
    rw [q] at r3
    cases r3
    cases r4
  own := fun o ho => by rw [owns_law] at ho; cases ho
  const := T.const
  free := T.free
  builtins := T.builtins
  tab := fun d hd => by
    obtain ⟨a, o, fd, c, P, e1, e2, e3, e4, e5, e6⟩ := T.tab d hd
    obtain ⟨r, hr, hn⟩ := recs_law
    have hd2 := hd
    rw [hr] at hd2
    obtain rfl := List.mem_singleton.mp hd2
    have hf : (recsOf qv).find? (fun e => e.name == S "law") = some d := by
      rw [hr, List.find?_cons_of_pos (by rw [hn]; exact beq_self_eq_true _)]
    obtain ⟨⟨oc, vs, file, tf, flags, tg, inF, text, tt, c1, c2, c3, c4, c5, c6, c7, c8, c9, c10⟩, hP⟩ := tab_of T X hf (tabIn_law _)
    have hC : CodeHd (ghostOf h₁ tabs7) 823 821 := ⟨oc, vs, file, tf, flags, tg, inF, text, tt, ghost_get hT c1 (fun q => by rw [q] at c2; cases c2), c2, c3, c4, c5, c6, c7, c8, c9, c10⟩
    have hP2 : (ghostOf h₁ tabs7).get? 821 = some (tabObj #[]) := ghost_ne hP (by decide)
    refine ⟨a, o, fd, 823, 821, e1, ghost_get hT e2 (fun q => by rw [q] at e3; cases e3), e3, ?_, hC.code hP2 trivial, hC.tab hP2⟩
    rw [hn] at e1
    exact law_code X T.g (tabIn_law _) e1 e2 e3
  bmain := let ⟨bm, ob, a1, a2, a3, a4, r⟩ := T.bmain; ⟨bm, ob, a1, a2, ghost_get hT a3 (fun q => by rw [q] at a4; cases a4), a4, r⟩
  seer := fun e => by
    have z := T.seer e
    exact ⟨let ⟨mc, a, b⟩ := z.statics; ⟨mc, ghost_ns hT a, b⟩, let ⟨mc, a, b⟩ := z.mods; ⟨mc, ghost_ns hT a, b⟩, let ⟨mc, a, b⟩ := z.imp; ⟨mc, ghost_ns hT a, b⟩,
      let ⟨mg, bm, ob, a, b, c, d, e⟩ := z.main; ⟨mg, bm, ob, ghost_ns hT a, b, ghost_get hT c (fun q => by rw [q] at d; cases d), d, e⟩⟩
end
set_option maxRecDepth 100000
set_option maxHeartbeats 4000000
noncomputable def partOf (xs : List Int) : List Int := if xs = [] then [0, 28, 3, 180, 84, 23] else xs.take 8
structure LawOk (ns : List Int) : Prop where
  q : ∀ n ∈ ns, QOk (wordOf n)
  j : JoinOk (S " ") ((ns.map wordOf).map quoteOf) = true
  told : Txt.join (S " ") ((ns.map wordOf).map quoteOf) = Txt.join (S " ") (ns.flatMap (tokOf false (S "")))
  sp : Toks (cfg true (S "") (wcOf true) (S "") true) .sp (Txt.join (S " ") ((ns.map wordOf).map quoteOf)).cps.toList (ns.map wordOf)
  num : ∀ n ∈ ns, NumOk (wordOf n) n
  rt : ReadOk (Txt.join (S " ") ((ns.map wordOf).map quoteOf)) ns true
  rf : ReadOk (Txt.join (S " ") ((ns.map wordOf).map quoteOf)) ns false
  wt : ((ns.flatMap (tokOf false (S ""))).map (·.length)).sum ≤ 10000
theorem ints_map {ns : List Int} : ∀ {vs ys : List Value}, IntsAre vs ns → Paired (fun v y => match v with | .int z _ => ∃ t, y = .int (symOf z) t | _ => False) vs ys → IntsAre ys (ns.map symOf) := by
  induction ns with
  | nil => intro vs ys h hp; cases h; cases hp; exact .nil
  | cons n ns ih =>
    intro vs ys h hp
    cases h with
    | cons _ t h =>
      cases hp with
      | cons h1 hp =>
        obtain ⟨t1, rfl⟩ := h1
        exact .cons _ _ (ih h hp)
theorem words_map {ns : List Int} : ∀ {vs ys : List Value}, IntsAre vs ns → Paired (fun v y => match v with | .int z _ => ∃ t, y = .str (wordOf z) t | _ => False) vs ys → StrsAre ys (ns.map wordOf) := by
  induction ns with
  | nil => intro vs ys h hp; cases h; cases hp; exact .nil
  | cons n ns ih =>
    intro vs ys h hp
    cases h with
    | cons _ t h =>
      cases hp with
      | cons h1 hp =>
        obtain ⟨t1, rfl⟩ := h1
        exact .cons _ _ (ih h hp)
theorem NumOk.uniq {x : Str} {n k : Int} (O : NumOk x n) (O' : NumOk x k) : n = k := by
  by_cases c : (x == Str.ofString "") = true
  · rw [O.emp c, O'.emp c]
  have c : (x == Str.ofString "") = false := by simpa using c
  by_cases d : (Txt.item x 0 == Str.ofString "n") = true
  · obtain ⟨a, h1, _, h2⟩ := O.num c d
    obtain ⟨b, h3, _, h4⟩ := O'.num c d
    rw [h1] at h3
    cases h3
    rw [← h2, ← h4]
  have d : (Txt.item x 0 == Str.ofString "n") = false := by simpa using d
  have h1 := O.op c d
  rw [O'.op c d] at h1
  cases h1
  rfl
theorem nums_map {ns : List Int} : ∀ {vs ys : List Value}, (∀ n ∈ ns, NumOk (wordOf n) n) → StrsAre vs (ns.map wordOf) → Paired (fun v y => match v with | .str x _ => ∃ n t, y = .int n t ∧ NumOk x n | _ => False) vs ys → IntsAre ys ns := by
  induction ns with
  | nil => intro vs ys _ h hp; cases h; cases hp; exact .nil
  | cons n ns ih =>
    intro vs ys ho h hp
    cases h with
    | cons _ t h =>
      cases hp with
      | cons h1 hp =>
        obtain ⟨k, t1, rfl, hk⟩ := h1
        rw [NumOk.uniq hk (ho n (.head _))]
        exact .cons _ _ (ih (fun m hm => ho m (.tail _ hm)) h hp)
theorem strs_at {vs : List Value} {ns : List Int} {i : Nat} {v : Value} (h : StrsAre vs (ns.map wordOf)) (hv : vs[i]? = some v) : ∃ n tn, v = .str (wordOf n) tn ∧ n ∈ ns := by
  induction ns generalizing vs i with
  | nil => cases h; cases hv
  | cons n ns ih =>
    cases h with
    | cons _ t h =>
      cases i with
      | zero => cases hv; exact ⟨n, t, rfl, .head _⟩
      | succ i =>
        obtain ⟨k, tk, e, hm⟩ := ih h hv
        exact ⟨k, tk, e, .tail _ hm⟩
theorem noTabs_K (P : Params) : noTabs (K P) = true := by kernel_rfl
section
variable {w : World} {E' : Value → Shared → Prop} {s : Shared} {mean : ExcName → Option Value} {mg mb : Str → Option Value} {Q : Flow → Shared → Prop} {h₀ : Heap} {L a P : Addr} {items : Array Value} {part : List Int}
theorem law_tail2 {D : Addr} {ys : Array Value} {kn : Nat} {ns : List Int} {h' : Heap} {tk : Nat} (G : Cx w callerA h₀ h₀ [] mean mg mb F824.sc (2 + claimMargin) 7 40) (F : Fr h₀ L h' (fun z => if z = Str.ofString "numbers" then some (.ref D) else if z = Str.ofString "part" then some (.ref P) else List.lookup z [(S "script", .ref a)].reverse)) (N : News h₀ L h' [(D, lisO ys kn), (746, tabO #[])]) (hD7 : D ≠ 746)
   (hb : AllBare s.gens) (hi : IntsAre ys.toList ns) (hlen : ns.length ≤ 8) (O : LawOk ns)
   (h : ∀ s' ps, h₀.StaysIn s'.heap → s'.heap.get? 746 = some (tabO ps) → AllBare s'.gens → s'.os = s.os → Q (.ret (.bool true)) s') :
   wpAny (model pw w) (aT (2 + claimMargin) 7 (some []) (S "law") F824.sc L 824 (.ref 823) []) (execs (F824.b.drop 2) (envOf (S "law") F824.sc L 824 (.ref 823))) Q E' { s with heap := h', toks := tk } := by
  have X := G.X
  have T := G.T
  have XB := G.X
  have TB := G.T
  have hfi := fill_it
  revert hfi
  k_fill
  intro hfi
  clear hfi
  dsimp only [F824, List.drop]
  iterate 6 walk1
  have hlD : h'.IsList D ys := ⟨_, N.get (.head _), rfl, _, rfl⟩
  have hDlt : D < h'.objs.size := Heap.lt_size (N.get (.head _))
  have hsz : ys.size = ns.length := by have := hi.length; simpa using this
  refine wpAny_ListComp_free (cl := []) (fun _ => true) (fun v y => match v with | .int z _ => ∃ t, y = .str (wordOf z) t | _ => False) (by with_unfolding_all rfl) (by decide) rfl (by decide) (by kernel_rfl) ?_
  refine wpAny_Name (wpAny_loadName_local (v := .ref D) rfl (by kernel_rfl) F.ns (by rfl) ?_) (by decide)
  refine wpAny_pyIter_list hlD ?_
  refine ⟨h'.objs.size, [h'.objs.size, D], [h'.objs.size], ys.size, _, _, rfl, Walks.list rfl _ _ (Nat.ne_of_lt hDlt) ys, by rw [hsz]; exact Nat.le_trans hlen (by decide), ⟨⟨_, Heap.get?_push_size _ rfl, rfl, rfl⟩, hlD.at fun o e => Heap.get?_push_of_some _ e⟩, ?_, ⟨?_, ?_⟩, ?_⟩
  · intro b hb
    show b < (h'.push _).objs.size
    rw [Heap.size_push]
    cases hb with
    | head => exact Nat.lt_succ_self _
    | tail _ hb => cases hb with
      | head => exact Nat.lt_succ_of_lt hDlt
      | tail _ hb => cases hb
  · rintro C i v s3 m3 E2 hC hP3 hns hm hkp htok
    rw [List.forIn_nil]
    exact wpAny_pure ⟨rfl, s3.heap, _, rfl, fun _ _ e => e⟩
  · rintro C i v s3 m3 E2 hC hP3 hpv hns hm hkp htok
    obtain ⟨z, tz, rfl, hz⟩ := ints_at hi (by rw [Array.getElem?_toList]; exact hP3)
    have nw : ∀ b, b < h'.objs.size → b ∉ [h'.objs.size] := fun b hb hm => by rw [List.mem_singleton.mp hm] at hb; exact Nat.lt_irrefl _ hb
    have up : ∀ b o, h'.get? b = some o → s3.heap.get? b = some o := fun b o e => hkp b o (nw b (Heap.lt_size e)) (Heap.get?_push_of_some _ e)
    have F3 : Fr h₀ C s3.heap m3 := ⟨hns, fun b o e => up b o (F.keep b o e), Nat.le_trans (Nat.le_trans F.above (Nat.le_of_lt F.ns.lt)) (Nat.le_trans (Nat.le_succ _) (by rw [Heap.size_push] at hC; exact hC))⟩
    refine Call_ (nameG_K (v := .ref 795) F3 X (topRead_of T) (by kernel_rfl) ?_ rfl rfl (by kernel_rfl) (by decide))
    refine callWith_def (o := k795 w.params) (fd := _) rfl ?_
    have X3 := X.keeps F3.keep
    refine spliced_more (wpAny_Name (wpAny_loadName_local rfl (by kernel_rfl) hns hm ?_) (by decide))
    refine spliced_none ⟨X3 795 _ (by kernel_rfl), ?_⟩
    have T3 := T.keeps F3.keep
    have hzr := O.rt.rng z (List.mem_of_getElem? hz)
    refine wpAny_mono (word_any (Q := fun v s4 => (∃ t, v = .str (wordOf z) t) ∧ Keeps s3 s4) X3 T3 rfl (by show 2 + claimMargin + 8 < _; decide) (by show 7 + 200 < _; decide) (by omega) fun h' tk' tv' k' => ⟨⟨_, rfl⟩, h', tk', rfl, k'⟩) (fun v s4 q => q) (fun _ _ q => q)
  intro D2 h2 tk2 ws vs hD hl hpl hl2 hP hF hk
  have up : ∀ b o, h'.get? b = some o → h2.get? b = some o := fun b o e => hk b o (fun hm => by rw [List.mem_singleton.mp hm] at e; exact absurd (Heap.lt_size e) (Nat.lt_irrefl _)) (Heap.get?_push_of_some _ e)
  have F2 := F.keeps up
  obtain ⟨kw, hkw⟩ := hpl
  have hD0 : h'.get? D2 = none := none_up (fun b o e => Heap.get?_push_of_some _ e) hD
  have hD2 : D2 ≠ 746 := fun e => by rw [e, N.get (.tail _ (.head _))] at hD0; cases hD0
  have N2 := (N.keeps up).more F2 hkw (fun _ _ e => by cases e) (none_up F.keep hD0)
  have hws : StrsAre ws.toList (ns.map wordOf) := by
    rw [show vs.filter (fun _ => true) = vs from List.filter_eq_self.mpr fun _ _ => rfl] at hF
    refine words_map (vs := vs) ?_ hF
    have e : vs = ys.toList := List.ext_getElem? fun j => by
      cases e1 : vs[j]? with
      | some v => rw [Array.getElem?_toList, hP j v e1]
      | none =>
        rw [List.getElem?_eq_none_iff] at e1
        exact (List.getElem?_eq_none (by rw [Array.length_toList]; omega)).symm
    rw [e]
    exact hi
  clear F N hF hP hk up hl hl2 hD hlD hDlt hsz hD0 hkw
  refine spliced_none ⟨X.keeps F2.keep, ?_⟩
  refine t_join (D := D2) (rest := [(D, lisO ys kn)]) (items := ws) (c := kw) (ts := ns.map wordOf) ⟨G.B, G.X, G.T, rfl, by decide, by decide⟩ F2 (N2.perm fun p hp => ?_) hb hws (fun x hx => ?_) (fun q hq => by rw [List.mem_singleton.mp hq]; exact hD7) hD2 O.j (by rw [List.length_map]; omega) ?_
  · rcases List.mem_cons.mp hp with rfl | hp
    · exact .head _
    rcases List.mem_cons.mp hp with rfl | hp
    · exact .tail _ (.tail _ (.head _))
    rw [List.mem_singleton.mp hp]
    exact .tail _ (.head _)
  · obtain ⟨n, hn, rfl⟩ := List.mem_map.mp hx
    exact O.q n hn
  intro s3 tv ps F3 N3 hb3 hos
  have N4 := N3.perm (news' := [(D, lisO ys kn), (746, tabO ps)]) fun p hp => by
    rcases List.mem_cons.mp hp with rfl | hp
    · exact .tail _ (.tail _ (.head _))
    rw [List.mem_singleton.mp hp]
    exact .tail _ (.head _)
  clear N3 N2 F2
  k_steps
  rename Fr _ _ _ _ => F5
  rename News _ _ _ _ => N5
  refine tokens_any (X.keeps F5.keep) (T.keeps F5.keep) rfl (by show 2 + claimMargin + 18 < _; decide) (by show 7 + 400 < _; decide) ⟨_, N5.get (.head _), rfl, _, rfl⟩ hi O.rf.rng O.rf.nl (by decide) O.rf.l0 fun W0 h6 tk6 ws0 k6 hn6 ho6 hs6 => ?_
  obtain ⟨c6, ho6⟩ := ho6
  have F6 := F5.keeps k6
  have N6 := (N5.keeps k6).more F6 ho6 (fun _ _ e => by cases e) (none_up F5.keep hn6)
  clear F5 N5 k6 hn6 ho6
  refine spliced_none ?_
  refine join_list ⟨_, N6.get (.head _), rfl, _, rfl⟩ hs6 ?_ ?_
  · have h1 : (Str.ofString " ").length = 1 := rfl
    rw [h1]
    exact Nat.le_trans (Nat.add_le_add O.wt (Nat.mul_le_mul O.rf.l0 (Nat.le_refl 1))) (by decide)
  intro tj kj
  rw [← O.told]
  iterate 2 walk1
  have hne : (Txt.join (S " ") (List.map quoteOf (List.map wordOf ns)) != Txt.join (S " ") (List.map quoteOf (List.map wordOf ns))) = false := by simp
  rw [hne, if_neg (by decide)]
  clear hne
  rename Fr _ _ _ _ => F7
  rename News _ _ _ _ => N7
  have N8 := N7.perm (news' := [(D, lisO ys kn), (746, tabO ps)]) fun p hp => .tail _ hp
  clear N7
  iterate 4 walk1
  refine wpAny_ListComp_free (cl := []) (fun _ => true) (fun v y => match v with | .str x _ => ∃ n t, y = .int n t ∧ NumOk x n | _ => False) (by with_unfolding_all rfl) (by decide) rfl (by decide) (by kernel_rfl) ?_
  iterate 7 walk1
  obtain ⟨line, hline⟩ : ∃ z, z = Txt.join (S " ") (List.map quoteOf (List.map wordOf ns)) := ⟨_, rfl⟩
  rw [← hline] at F7 ⊢
  have Osp := O.sp
  have Ort := O.rt
  have Orf := O.rf
  rw [← hline] at Osp Ort Orf
  refine t_split (ts := ns.map wordOf) (px := true) (buf := line) (tb := tv) (args := ⟨[.str line tv], []⟩) ⟨G.B, G.X, G.T, rfl, by decide, by decide⟩ F7 N8 Ort.len (binds_K (X.keeps F7.keep) rfl (by k_is) rfl rfl rfl) Osp (by rw [List.length_map]; omega) fun D3 h8 tk8 it8 c8 k8 u8 F8 N9 hs8 => ?_
  have G8 := cx_refresh G XB TB k8 u8
  have X8 := G8.X
  have T8 := G8.T
  clear F7 N8
  have hlD : h8.IsList D3 it8 := ⟨_, N9.get (.head _), rfl, _, rfl⟩
  have hDlt : D3 < h8.objs.size := Heap.lt_size (N9.get (.head _))
  have hsz : it8.size = ns.length := by have := PyProof.Rows.StrsAre.length hs8; simpa using this
  refine wpAny_pyIter_list hlD ?_
  refine ⟨h8.objs.size, [h8.objs.size, D3], [h8.objs.size], it8.size, _, _, rfl, Walks.list rfl _ _ (Nat.ne_of_lt hDlt) it8, by rw [hsz]; exact Nat.le_trans hlen (by decide), ⟨⟨_, Heap.get?_push_size _ rfl, rfl, rfl⟩, hlD.at fun o e => Heap.get?_push_of_some _ e⟩, ?_, ⟨?_, ?_⟩, ?_⟩
  · intro b hb
    show b < (h8.push _).objs.size
    rw [Heap.size_push]
    cases hb with
    | head => exact Nat.lt_succ_self _
    | tail _ hb => cases hb with
      | head => exact Nat.lt_succ_of_lt hDlt
      | tail _ hb => cases hb
  · rintro C i v s3 m3 E2 hC hP3 hns hm hkp htok
    rw [List.forIn_nil]
    exact wpAny_pure ⟨rfl, s3.heap, _, rfl, fun _ _ e => e⟩
  · rintro C i v s3 m3 E2 hC hP3 hpv hns hm hkp htok
    obtain ⟨z, tz, rfl, hz⟩ := strs_at hs8 (by rw [Array.getElem?_toList]; exact hP3)
    have nw : ∀ b, b < h8.objs.size → b ∉ [h8.objs.size] := fun b hb hm => by rw [List.mem_singleton.mp hm] at hb; exact Nat.lt_irrefl _ hb
    have up : ∀ b o, h8.get? b = some o → s3.heap.get? b = some o := fun b o e => hkp b o (nw b (Heap.lt_size e)) (Heap.get?_push_of_some _ e)
    have F3 : Fr (refresh h₀ h8) C s3.heap m3 := ⟨hns, fun b o e => up b o (F8.keep b o e), Nat.le_trans (Nat.le_trans F8.above (Nat.le_of_lt F8.ns.lt)) (Nat.le_trans (Nat.le_succ _) (by rw [Heap.size_push] at hC; exact hC))⟩
    refine Call_ (nameG_K (v := .ref 802) F3 X8 (topRead_of T8) (by kernel_rfl) ?_ rfl rfl (by kernel_rfl) (by decide))
    refine callWith_def (o := k802 w.params) (fd := _) rfl ?_
    have X3 := X8.keeps F3.keep
    refine spliced_more (wpAny_Name (wpAny_loadName_local rfl (by kernel_rfl) hns hm ?_) (by decide))
    refine spliced_none ⟨X3 802 _ (by kernel_rfl), ?_⟩
    have T3 := T8.keeps F3.keep
    have On := O.num z hz
    refine wpAny_mono (number_any (Q := fun v s4 => (∃ n t, v = .int n t ∧ NumOk (wordOf z) n) ∧ Keeps s3 s4) On X3 T3 rfl (by show 2 + claimMargin + 8 < _; decide) (by show 7 + 200 < _; decide) fun h' tk' tv' k' => ⟨⟨_, _, rfl, On⟩, h', tk', rfl, k'⟩) (fun v s4 q => q) (fun _ _ q => q)
  intro D4 h9 tk9 ks vs4 hD4 hl4 hpl4 hl24 hP4 hF4 hk4
  have up : ∀ b o, h8.get? b = some o → h9.get? b = some o := fun b o e => hk4 b o (fun hm => by rw [List.mem_singleton.mp hm] at e; exact absurd (Heap.lt_size e) (Nat.lt_irrefl _)) (Heap.get?_push_of_some _ e)
  have F9 := F8.keeps up
  obtain ⟨kw4, hkw4⟩ := hpl4
  have hD0 : h8.get? D4 = none := none_up (fun b o e => Heap.get?_push_of_some _ e) hD4
  have N10 := (N9.keeps up).more F9 hkw4 (fun _ _ e => by cases e) (none_up F8.keep hD0)
  have hks : IntsAre ks.toList ns := by
    rw [show vs4.filter (fun _ => true) = vs4 from List.filter_eq_self.mpr fun _ _ => rfl] at hF4
    refine nums_map (vs := vs4) O.num ?_ hF4
    have e : vs4 = it8.toList := List.ext_getElem? fun j => by
      cases e1 : vs4[j]? with
      | some v => rw [Array.getElem?_toList, hP4 j v e1]
      | none =>
        rw [List.getElem?_eq_none_iff] at e1
        exact (List.getElem?_eq_none (by rw [Array.length_toList]; omega)).symm
    rw [e]
    exact hs8
  clear F8 N9 hF4 hP4 hk4 up hl4 hl24 hD4 hlD hDlt hsz hD0 hkw4
  walk1
  have hA : h9.IsList D4 ks.toList.toArray := by rw [Array.toArray_toList]; exact ⟨_, N10.get (.head _), rfl, _, rfl⟩
  have hB : h9.IsList D ys.toList.toArray := by rw [Array.toArray_toList]; exact ⟨_, N10.get (.tail _ (.tail _ (.head _))), rfl, _, rfl⟩
  refine ne_intsK hA hks hB hi (by show 7 + 64 < _; decide) ?_
  rw [show (!decide (ns = ns)) = false by simp]
  clear hA hB
  have N11 := N10.perm (news' := [(D, lisO ys kn), (746, tabO ps)]) fun p hp => .tail _ (.tail _ hp)
  clear N10
  k_steps
  rename Fr _ _ _ _ => F12
  rename News _ _ _ _ => N12
  refine t_readers (px := true) (buf := line) (tb := tv) (ns := ns) (na := D) (vs := ys) (c := kn) (rest := [(746, tabO ps)]) ⟨G8.B, G8.X, G8.T, rfl, by decide, by decide⟩ XB TB F12 N12 Ort hi fun h13 tk13 k13 u13 F13 N13 => ?_
  clear F12 N12
  have G13 := cx_refresh G8 XB TB k13 u13
  have X13 := G13.X
  have T13 := G13.T
  clear X8 T8
  k_steps
  rename Fr _ _ _ _ => F14
  rename News _ _ _ _ => N14
  refine t_readers (px := false) (buf := line) (tb := tv) (ns := ns) (na := D) (vs := ys) (c := kn) (rest := [(746, tabO ps)]) ⟨G13.B, G13.X, G13.T, rfl, by decide, by decide⟩ XB TB F14 N14 Orf hi fun h15 tk15 k15 u15 F15 N15 => ?_
  clear F14 N14
  have G15 := cx_refresh G13 XB TB k15 u15
  have X15 := G15.X
  have T15 := G15.T
  clear X13 T13
  k_steps
  exact h _ ps k15 (N15.get (.tail _ (.head _))) hb3 hos
theorem law_tail (G : Cx w callerA h₀ h₀ [] mean mg mb F824.sc (2 + claimMargin) 7 40) (F : Fr h₀ L s.heap (fun y => if y = Str.ofString "part" then some (.ref P) else List.lookup y [(S "script", .ref a)].reverse)) (N : News h₀ L s.heap [(P, lisO items 0), (746, tabO #[])])
   (hb : AllBare s.gens) (hi : IntsAre items.toList part) (hlen : part.length ≤ 8) (O : LawOk (part.map symOf))
   (h : ∀ s' ps, h₀.StaysIn s'.heap → s'.heap.get? 746 = some (tabO ps) → AllBare s'.gens → s'.os = s.os → Q (.ret (.bool true)) s') :
   wpAny (model pw w) (aT (2 + claimMargin) 7 (some []) (S "law") F824.sc L 824 (.ref 823) []) (execs F824.b.tail (envOf (S "law") F824.sc L 824 (.ref 823))) Q E' s := by
  have X := G.X
  have T := G.T
  have hfi := fill_it
  revert hfi
  k_fill
  intro hfi
  clear hfi
  dsimp only [F824, List.tail]
  iterate 1 walk1
  refine wpAny_Assign_ListComp_free (cl := []) (fun _ => true) (fun v y => match v with | .int z _ => ∃ t, y = .int (symOf z) t | _ => False) (by with_unfolding_all rfl) (by with_unfolding_all rfl) (by decide) rfl (by decide) (by kernel_rfl) (by kernel_rfl) rfl ?_
  refine wpAny_Name (wpAny_loadName_local (v := .ref P) rfl (by kernel_rfl) F.ns (by rfl) ?_) (by decide)
  have hlP : s.heap.IsList P items := ⟨_, N.get (.head _), rfl, _, rfl⟩
  have hPlt : P < s.heap.objs.size := Heap.lt_size (N.get (.head _))
  refine wpAny_pyIter_list hlP ?_
  have hsz : items.size = part.length := by have := hi.length; simpa using this
  have F1 := F.push ({ cls := .type "list_iterator", data := .fields #[.ref P, .int 0 0] } : Obj)
  refine ⟨s.heap.objs.size, [s.heap.objs.size, P], [s.heap.objs.size], items.size, _, _, _, rfl, Walks.list rfl _ _ (Nat.ne_of_lt hPlt) items, by rw [hsz]; exact Nat.le_trans hlen (by decide), ⟨⟨_, Heap.get?_push_size _ rfl, rfl, rfl⟩, hlP.at fun o e => Heap.get?_push_of_some _ e⟩, ?_, ?_, F1.ns, ⟨?_, ?_⟩, ?_⟩
  · intro b hb
    show b < (s.heap.push _).objs.size
    rw [Heap.size_push]
    cases hb with
    | head => exact Nat.lt_succ_self _
    | tail _ hb => cases hb with
      | head => exact Nat.lt_succ_of_lt hPlt
      | tail _ hb => cases hb
  · intro hm
    exact absurd (List.mem_singleton.mp hm) (Nat.ne_of_lt F.ns.lt)
  · rintro C i v s3 m3 E2 hC hP3 hns hm hkp htok
    rw [List.forIn_nil]
    exact wpAny_pure ⟨rfl, s3.heap, _, rfl, fun _ _ e => e⟩
  · rintro C i v s3 m3 E2 hC hP3 hpv hns hm hkp htok
    obtain ⟨z, tz, rfl, hz⟩ := ints_at hi (by rw [Array.getElem?_toList]; exact hP3)
    have st3 : h₀.StaysIn s3.heap := fun b o e => hkp b o (fun hm => by
      rw [List.mem_singleton.mp hm] at e
      exact absurd (Nat.lt_of_lt_of_le (Heap.lt_size e) (Nat.le_of_lt (Nat.lt_of_le_of_lt F.above F.ns.lt))) (Nat.lt_irrefl _)) (Heap.get?_push_of_some _ (F.keep b o e))
    have F3 : Fr h₀ C s3.heap m3 := ⟨hns, st3, Nat.le_trans (Nat.le_trans F.above (Nat.le_of_lt F.ns.lt)) (Nat.le_trans (Nat.le_succ _) (by rw [Heap.size_push] at hC; exact hC))⟩
    refine Call_ (nameG_K (v := .ref 790) F3 X (topRead_of T) (by kernel_rfl) ?_ rfl rfl (by kernel_rfl) (by decide))
    refine callWith_def (o := k790 w.params) (fd := _) rfl ?_
    have X3 := X.keeps st3
    refine spliced_more (wpAny_Name (wpAny_loadName_local rfl (by kernel_rfl) hns hm ?_) (by decide))
    refine spliced_none ⟨X3 790 _ (by kernel_rfl), ?_⟩
    have T3 := T.keeps st3
    refine wpAny_mono (symbol_any (Q := fun v s4 => (∃ t, v = .int (symOf z) t) ∧ Keeps s3 s4) X3 T3 rfl (by show 2 + claimMargin + 5 < _; decide) (by show 7 + 100 < _; decide) fun h' tk' tv' k' => ⟨⟨_, rfl⟩, h', tk', rfl, k'⟩) (fun v s4 q => q) (fun _ _ q => q)
  · intro D h' tk ys vs hD hl hpl hl2 hP hF hn hk
    have hup : ∀ b o, b ≠ L → s.heap.get? b = some o → h'.get? b = some o := fun b o hb e => hk b o hb (fun hm => by rw [List.mem_singleton.mp hm] at e; exact absurd (Heap.lt_size e) (Nat.lt_irrefl _)) (Heap.get?_push_of_some _ e)
    have hL0 : ∀ b o, h₀.get? b = some o → b ≠ L := fun b o e hb => absurd (Nat.lt_of_lt_of_le (Heap.lt_size e) F.above) (by rw [hb]; exact Nat.lt_irrefl _)
    have F2 : Fr h₀ L h' (fun z => if z = Str.ofString "numbers" then some (.ref D) else if z = Str.ofString "part" then some (.ref P) else List.lookup z [(S "script", .ref a)].reverse) := ⟨hn, fun b o e => hup b o (hL0 b o e) (F.keep b o e), F.above⟩
    have hDs : s.heap.get? D = none := none_up (fun b o e => Heap.get?_push_of_some _ e) hD
    have h746 : s.heap.get? 746 = some (tabO #[]) := N.get (.tail _ (.head _))
    have hD7 : D ≠ 746 := fun e => by rw [e, h746] at hDs; cases hDs
    obtain ⟨kn, hkn⟩ := hpl
    have N1 : News h₀ L h' [(746, tabO #[])] := fun p hp => by
      have hq := N p (.tail _ hp)
      exact ⟨hup _ _ hq.2.1 hq.1, hq.2⟩
    have N2 := N1.more F2 hkn (fun _ _ e => by cases e) (none_up F.keep hDs)
    have hi2 : IntsAre ys.toList (part.map symOf) := by
      rw [show vs.filter (fun _ => true) = vs from List.filter_eq_self.mpr fun _ _ => rfl] at hF
      refine ints_map (vs := vs) ?_ hF
      have e : vs = items.toList := List.ext_getElem? fun j => by
        cases e1 : vs[j]? with
        | some v => rw [Array.getElem?_toList, hP j v e1]
        | none =>
          rw [List.getElem?_eq_none_iff] at e1
          exact (List.getElem?_eq_none (by rw [Array.length_toList]; omega)).symm
      rw [e]
      exact hi
    have hlen2 : (part.map symOf).length ≤ 8 := by rw [List.length_map]; exact hlen
    clear hF hP hn hk hup hl hl2 hD hDs h746 N1 F1 hlP hPlt hsz F N hi hkn hL0
    show wpAny _ _ (execs _ _) _ _ _
    revert hi2 hlen2 O
    generalize part.map symOf = ns
    intro O hi2 hlen2
    exact law_tail2 G F2 N2 hD7 hb hi2 hlen2 O h
end
set_option maxRecDepth 100000
set_option maxHeartbeats 4000000
section
variable {w : World} {E' : Value → Shared → Prop} {s : Shared} {mean : ExcName → Option Value} {mg mb : Str → Option Value} {Q : Value → Shared → Prop}
theorem two_news {h₀ h : Heap} {L P l : Addr} {o1 o2 : Obj} (N : News h₀ L h ((P, o1) :: (l, o2) :: ([] ++ tabNews tabs7))) : News h₀ L h [(P, o1), (746, tabO #[])] := N.perm fun p hp => by
  rcases List.mem_cons.mp hp with rfl | hp
  · exact .head _
  rw [List.mem_singleton.mp hp]
  exact .tail _ (.tail _ (.head _))
theorem law_walk {a : Addr} {vs : Array Value} {xs : List Int} (hT : TabsAt tabs7 s.heap) (X : (K w.params).In s.heap) (T : Top qv (looseW qv lse) mean mg mb s.heap) (hg : AllBare s.gens) (hl : s.heap.IsList a vs) (hi : IntsAre vs.toList xs) (hxs : xs.length ≤ 63)
   (O : LawOk ((partOf xs).map symOf))
   (h : ∀ s' ps, (ghostOf s.heap tabs7).StaysIn s'.heap → s'.heap.get? 746 = some (tabO ps) → AllBare s'.gens → s'.os = s.os → Q (.bool true) s') : wpAny (model pw w) callerA (call (.ref 824) [.ref a]) Q E' s := by
  have hfi := fill_it
  revert hfi
  k_fill
  intro hfi
  clear hfi
  refine any_def (args := ⟨[.ref a], []⟩) (binds := [(S "script", .ref a)]) X T (l824 _) (c824 _) (by decide) (BindsTo.of_eq rfl) (locs rfl) (fun h₁ F0 N0 => ?_) rfl rfl rfl (by decide)
  have F1 := ghost_fr hT F0
  have N1 := ghost_news hT F0 N0
  have X1 := ghost_K hT X (noTabs_K _)
  have T1 := ghost_top7 hT X T
  have hl1 := ghost_list hT hl
  have G : Cx w callerA (ghostOf s.heap tabs7) (ghostOf s.heap tabs7) [] mean mg mb F824.sc (2 + claimMargin) 7 40 := ⟨below_caller _, X1, T1, rfl, by decide, by decide⟩
  generalize hL : s.heap.objs.size = L at F1 N1
  clear F0 N0
  show wpAny (model pw w) (aT (2 + claimMargin) 7 (some []) (S "law") F824.sc L 824 (.ref 823) []) (execs F824.b (envOf (S "law") F824.sc L 824 (.ref 823))) _ _ _
  obtain ⟨tl, htl⟩ : ∃ tl, tl = F824.b.tail := ⟨_, rfl⟩
  have eb : F824.b = F824.b.head (by decide) :: tl := by rw [htl]; rfl
  rw [eb]
  dsimp only [F824, List.head]
  k_steps
  all_goals rename Fr _ _ _ _ => F2
  all_goals rename News _ _ _ _ => N2
  · rename decide (xs = []) = true => hx
    have hx := of_decide_eq_true hx
    unfold partOf at O
    rw [if_pos hx] at O
    rw [htl]
    refine law_tail (items := #[.int 0 _, .int 28 _, .int 3 _, .int 180 _, .int 84 _, .int 23 _]) G F2 (two_news N2) hg (.cons _ _ (.cons _ _ (.cons _ _ (.cons _ _ (.cons _ _ (.cons _ _ .nil)))))) (by decide) O (fun s' ps k h7 hb ho => ?_)
    exact h s' ps k h7 hb ho
  · rename decide (xs = []) = false => hx
    have hx := of_decide_eq_false hx
    unfold partOf at O
    rw [if_neg hx] at O
    rename IntsAre _ (List.take 8 xs) => hI
    rw [htl]
    refine law_tail (items := _) G F2 (two_news N2) hg (by rw [List.toList_toArray]; exact hI) (by rw [List.length_take]; omega) O (fun s' ps k h7 hb ho => ?_)
    exact h s' ps k h7 hb ho
end
set_option maxRecDepth 100000
set_option maxHeartbeats 4000000
theorem inC_dec (x : Str) (c : Nat) : inC x (chS c) = decide (c ∈ x.cps.toList) := StrLaws.found_one x c
noncomputable def run (l : Lx) : St → Str → Bool → List Nat → Option (List Str × St × Str × Bool)
  | s, tok, q, [] => some ([], s, tok, q)
  | s, tok, q, c :: cs => if eqC (chS c) (S "\n") then none else
    match stepc l s tok q c with
    | none => none
    | some (true, s', tok', q') => if isEof l q' tok' then none else match run l s' (S "") false cs with
      | none => none
      | some (o, r) => some (tok' :: o, r)
    | some (false, s', tok', q') => run l s' tok' q' cs
structure Mk where
  com : Nat
  wc : Nat
  pc : Nat
  px : Bool
  wsp : Bool
/-- the set of the signs below 128 of a text, as a number -/
noncomputable def maskOf (x : Str) : Nat := (List.range 128).foldl (fun a c => if c ∈ x.cps.toList then a ||| (1 <<< c) else a) 0
structure Mk.Is (m : Mk) (l : Lx) : Prop where
  px : l.px = m.px
  wsp : l.wsp = m.wsp
  com : ∀ c, c < 128 → inC l.com (chS c) = m.com.testBit c
  wc : ∀ c, c < 128 → inC l.wc (chS c) = m.wc.testBit c
  pc : ∀ c, c < 128 → inC l.pc (chS c) = m.pc.testBit c
noncomputable def ws4 : Nat := 4294977024
theorem ws_is : ∀ c, c < 128 → inC (S " \t\r\n") (chS c) = ws4.testBit c := by decide +kernel
theorem esc_is : ∀ c, c < 128 → inC (S "\\") (chS c) = (c == 92) := by decide +kernel
theorem quo_is : ∀ c, c < 128 → inC (S "'\"") (chS c) = (c == 39 || c == 34) := by decide +kernel
theorem apo_is : ∀ c, c < 128 → eqC (chS c) (S "'") = (c == 39) := by decide +kernel
theorem nl_is : ∀ c, c < 128 → eqC (chS c) (S "\n") = (c == 10) := by decide +kernel
noncomputable def stepM (m : Mk) (s : St) (tok : Str) (q : Bool) (c : Nat) : Option (Bool × St × Str × Bool) :=
  match s with
  | .nn => some (true, .nn, S "", q)
  | .sp =>
    if ws4.testBit c then some (nonE tok || (m.px && q), .sp, tok, q)
    else if m.com.testBit c then none
    else if c == 92 then none
    else if m.wc.testBit c then some (false, .aa, chS c, q)
    else if m.pc.testBit c then some (false, .cc, chS c, q)
    else if c == 39 || c == 34 then (if c == 39 then some (false, .qt, if m.px then tok else chS c, q) else none)
    else if m.wsp then some (false, .aa, chS c, q) else some (true, .sp, chS c, q)
  | .qt =>
    if c == 92 then none
    else if c == 39 then (if m.px then some (false, .aa, tok, true) else some (true, .sp, tok ++ chS c, true))
    else some (false, .qt, tok ++ chS c, true)
  | .aa =>
    if ws4.testBit c then some (nonE tok || (m.px && q), .sp, tok, q)
    else if m.com.testBit c then none
    else if c == 92 then none
    else if c == 39 || c == 34 then none
    else if m.wc.testBit c || (m.wsp && !m.pc.testBit c) then some (false, .aa, tok ++ chS c, q) else none
  | .cc =>
    if ws4.testBit c then some (nonE tok || (m.px && q), .sp, tok, q)
    else if m.com.testBit c then none
    else if m.pc.testBit c then some (false, .cc, tok ++ chS c, q) else none
theorem step_eq {m : Mk} {l : Lx} (I : m.Is l) {s : St} {tok : Str} {q : Bool} {c : Nat} (hc : c < 128) : stepc l s tok q c = stepM m s tok q c := by
  unfold stepc stepM
  cases s <;> first
    | rfl
    | (simp only [I.px, I.wsp, I.com c hc, I.wc c hc, I.pc c hc, ws_is c hc, esc_is c hc, quo_is c hc, apo_is c hc]; done)
    | (simp only [I.px, I.wsp, I.com c hc, I.wc c hc, I.pc c hc, ws_is c hc, esc_is c hc, quo_is c hc, apo_is c hc]; rfl)
noncomputable def eofM (px q : Bool) (tok : Str) : Bool := eqC tok (S "") && !(px && q)
noncomputable def runM (m : Mk) : St → Str → Bool → List Nat → Option (List Str × St × Str × Bool)
  | s, tok, q, [] => some ([], s, tok, q)
  | s, tok, q, c :: cs => if c == 10 || Nat.ble 128 c then none else
    match stepM m s tok q c with
    | none => none
    | some (true, s', tok', q') => if eofM m.px q' tok' then none else match runM m s' (S "") false cs with
      | none => none
      | some (o, r) => some (tok' :: o, r)
    | some (false, s', tok', q') => runM m s' tok' q' cs
theorem run_eq {m : Mk} {l : Lx} (I : m.Is l) : ∀ (cs : List Nat) {s : St} {tok : Str} {q : Bool} {r}, runM m s tok q cs = some r → run l s tok q cs = some r
  | [], s, tok, q, r, h => h
  | c :: cs, s, tok, q, r, h => by
    unfold runM at h
    unfold run
    by_cases h1 : (c == 10 || Nat.ble 128 c) = true
    · rw [if_pos h1] at h; cases h
    rw [if_neg h1] at h
    simp only [Bool.or_eq_true, Nat.ble_eq, not_or, Bool.not_eq_true] at h1
    have hc : c < 128 := by omega
    rw [nl_is c hc, h1.1, if_neg (by decide), step_eq I hc]
    revert h
    cases stepM m s tok q c with
    | none => intro h; cases h
    | some x =>
      obtain ⟨b, s', tok', q'⟩ := x
      cases b with
      | false => exact fun h => run_eq I cs h
      | true =>
        dsimp only
        intro h
        have e : isEof l q' tok' = eofM m.px q' tok' := by unfold isEof eofM; rw [I.px]
        rw [e]
        revert h
        cases eofM m.px q' tok' with
        | true => intro h; cases h
        | false =>
          rw [if_neg (by decide), if_neg (by decide)]
          intro h
          cases e2 : runM m s' (S "") false cs with
          | none => rw [e2] at h; cases h
          | some y =>
            rw [e2] at h
            rw [run_eq I cs e2]
            exact h
theorem run_app {l : Lx} : ∀ (cs : List Nat) {s : St} {tok : Str} {q : Bool} {o s' tok' q' ds o2 r}, run l s tok q cs = some (o, s', tok', q') → run l s' tok' q' ds = some (o2, r) → run l s tok q (cs ++ ds) = some (o ++ o2, r)
  | [], s, tok, q, o, s', tok', q', ds, o2, r, h, h2 => by cases h; exact h2
  | c :: cs, s, tok, q, o, s', tok', q', ds, o2, r, h, h2 => by
    rw [List.cons_append]
    unfold run at h ⊢
    by_cases h1 : eqC (chS c) (S "\n") = true
    · rw [if_pos h1] at h; cases h
    rw [if_neg h1] at h ⊢
    revert h
    cases stepc l s tok q c with
    | none => intro h; cases h
    | some x =>
      obtain ⟨b, s1, tok1, q1⟩ := x
      cases b with
      | false => exact fun h => run_app cs h h2
      | true =>
        dsimp only
        cases isEof l q1 tok1 with
        | true => intro h; cases h
        | false =>
          rw [if_neg (by decide), if_neg (by decide)]
          intro h
          cases e2 : run l s1 (S "") false cs with
          | none => rw [e2] at h; cases h
          | some y =>
            obtain ⟨oy, ry⟩ := y
            rw [e2] at h
            cases h
            rw [run_app cs e2 h2]
            rfl
/-- the tokens from the midst of one -/
noncomputable def TK (l : Lx) (s : St) (tok : Str) (q : Bool) (cs : List Nat) (ts : List Str) : Prop :=
  ∃ s1 tok1 q1 cs1, lexGo l s tok q cs = some (s1, tok1, q1, cs1) ∧ ((isEof l q1 tok1 = true ∧ ts = []) ∨ (isEof l q1 tok1 = false ∧ ∃ ts', ts = tok1 :: ts' ∧ Toks l s1 cs1 ts'))
theorem TK.toks {l : Lx} {s : St} {cs : List Nat} {ts : List Str} (h : TK l s (S "") false cs ts) : Toks l s cs ts := by
  obtain ⟨s1, tok1, q1, cs1, h1, ⟨h2, rfl⟩ | ⟨h2, ts', rfl, h3⟩⟩ := h
  · exact .stop h1 h2
  · exact .tok h1 h2 h3
theorem go_cons {l : Lx} {s : St} {tok : Str} {q : Bool} {c : Nat} {cs : List Nat} : lexGo l s tok q (c :: cs) = if eqC (chS c) (S "\n") then none else match stepc l s tok q c with | none => none | some (true, s', tok', q') => some (s', tok', q', cs) | some (false, s', tok', q') => lexGo l s' tok' q' cs := by cases s <;> rfl
theorem run_TK {l : Lx} : ∀ (cs : List Nat) {s : St} {tok : Str} {q : Bool} {o s' tok' q' ds ts}, run l s tok q cs = some (o, s', tok', q') → TK l s' tok' q' ds ts → TK l s tok q (cs ++ ds) (o ++ ts)
  | [], s, tok, q, o, s', tok', q', ds, ts, h, h2 => by cases h; exact h2
  | c :: cs, s, tok, q, o, s', tok', q', ds, ts, h, h2 => by
    rw [List.cons_append]
    unfold run at h
    unfold TK
    rw [go_cons]
    by_cases h1 : eqC (chS c) (S "\n") = true
    · rw [if_pos h1] at h; cases h
    rw [if_neg h1] at h ⊢
    revert h
    cases stepc l s tok q c with
    | none => intro h; cases h
    | some x =>
      obtain ⟨b, s1, tok1, q1⟩ := x
      cases b with
      | false => exact fun h => run_TK cs h h2
      | true =>
        dsimp only
        cases e1 : isEof l q1 tok1 with
        | true => intro h; cases h
        | false =>
          rw [if_neg (by decide)]
          intro h
          cases e2 : run l s1 (S "") false cs with
          | none => rw [e2] at h; cases h
          | some y =>
            obtain ⟨oy, ry⟩ := y
            rw [e2] at h
            cases h
            exact ⟨s1, tok1, q1, cs ++ ds, rfl, .inr ⟨e1, _, rfl, (run_TK cs e2 h2).toks⟩⟩
noncomputable def endOf : St → Bool
  | .sp | .aa | .cc => true
  | _ => false
structure Wk (l : Lx) (w : List Nat) (outs : List Str) : Prop where
  last : ∃ o s tok q, run l .sp (S "") false w = some (o, s, tok, q) ∧ endOf s = true ∧ (if isEof l q tok then o else o ++ [tok]) = outs
  mid : run l .sp (S "") false (w ++ [32]) = some (outs, .sp, S "", false)
theorem isEof_0 {l : Lx} : isEof l false (S "") = true := by
  unfold isEof
  rw [Bool.and_false]
  decide +kernel
theorem TK_end {l : Lx} {s : St} {tok : Str} {q : Bool} (hs : endOf s = true) : TK l s tok q [] (if isEof l q tok then [] else [tok]) := by
  have e : lexGo l s tok q [] = some (.nn, tok, q, []) := by cases s <;> first | rfl | cases hs
  refine ⟨_, _, _, _, e, ?_⟩
  cases h : isEof l q tok with
  | true => exact .inl ⟨rfl, rfl⟩
  | false => exact .inr ⟨rfl, [], rfl, .stop rfl isEof_0⟩
noncomputable def lineOf : List (List Nat) → List Nat
  | [] => []
  | [w] => w
  | w :: ws => w ++ [32] ++ lineOf ws
theorem line_toks {l : Lx} {α : Type} (f : α → List Nat) (g : α → List Str) : ∀ (ns : List α), (∀ n ∈ ns, Wk l (f n) (g n)) → TK l .sp (S "") false (lineOf (ns.map f)) (ns.flatMap g)
  | [], _ => TK_end (s := .sp) (tok := S "") (q := false) rfl |> fun h => by rw [isEof_0] at h; exact h
  | [n], h => by
    obtain ⟨o, s, tok, q, h1, h2, h3⟩ := (h n (.head _)).last
    have := run_TK _ h1 (TK_end (tok := tok) (q := q) h2)
    rw [List.append_nil] at this
    have e : [n].flatMap g = g n := by simp
    rw [e, ← h3]
    show TK l .sp (S "") false (f n) _
    cases hh : isEof l q tok with
    | true => rw [hh] at this; simpa using this
    | false => rw [hh] at this; exact this
  | n :: n2 :: ns, h => by
    have ih := line_toks f g (n2 :: ns) fun k hk => h k (.tail _ hk)
    exact run_TK _ (h n (.head _)).mid ih
theorem line_join (sep : Str) (hs : sep.cps.toList = [32]) : ∀ ws : List Str, (Str.join sep ws).cps.toList = lineOf (ws.map fun w => w.cps.toList)
  | [] => rfl
  | [w] => rfl
  | w :: w2 :: ws => by
    have ih := line_join sep hs (w2 :: ws)
    show ((w.cps ++ sep.cps) ++ (Str.join sep (w2 :: ws)).cps).toList = _
    rw [Array.toList_append, Array.toList_append, ih, hs]
    rfl

noncomputable def mW : Nat := 10633823849912963253799171395480977408
noncomputable def mWm : Nat := 10633823849912963263022543432335753216
noncomputable def mWt : Nat := 95704415580147579131172288988142632960
noncomputable def mP : Nat := 159507359526376345797258900911803072512
noncomputable def mPt : Nat := 21267647932558653972801984813235961856
noncomputable def mH : Nat := 34359738368
noncomputable def Ms (x : Str) (m : Nat) : Prop := ∀ c, c < 128 → inC x (chS c) = m.testBit c
theorem ms_of {x : Str} {m : Nat} (l : List Nat) (hl : x.cps.toList = l) (h : ((List.range 128).all fun c => l.elem c == m.testBit c) = true) : Ms x m := fun c hc => by
  rw [inC_dec, hl]
  have := List.all_eq_true.mp h c (List.mem_range.mpr hc)
  rw [← eq_of_beq this, List.elem_eq_contains]
  exact (List.contains_eq_mem c l).symm
noncomputable def lW : List Nat := (S "abcdfeghijklmnopqrstuvwxyzABCDEFGHIJKLMNOPQRSTUVWXYZ0123456789_").cps.toList
theorem ms_e : Ms (S "") 0 := ms_of [] (by decide +kernel) (by decide +kernel)
theorem ms_h : Ms (S "#") mH := ms_of [35] (by decide +kernel) (by decide +kernel)
theorem ms_p : Ms marks mP := ms_of _ rfl (by decide +kernel)
theorem ms_pt : Ms marksT mPt := ms_of _ rfl (by decide +kernel)
theorem ms_w (px : Bool) : Ms (wcOf px) mW := by cases px <;> exact ms_of _ rfl (by decide +kernel)
theorem ms_wm (px : Bool) : Ms (trOf marks (wcOf px)) mWm := by cases px <;> exact ms_of _ rfl (by decide +kernel)
theorem ms_wt (px : Bool) : Ms (trOf marksT (wcOf px)) mWt := by cases px <;> exact ms_of _ rfl (by decide +kernel)
noncomputable def mk0 (px : Bool) : Mk := ⟨0, mW, 0, px, true⟩
noncomputable def mk1 (px : Bool) : Mk := ⟨mH, mWm, mP, px, false⟩
noncomputable def mk2 (px : Bool) : Mk := ⟨mH, mWt, mPt, px, false⟩
noncomputable def mk3 (px : Bool) : Mk := ⟨mH, mW, 0, px, false⟩
theorem is0 (px : Bool) : (mk0 px).Is (cfg px (S "") (wcOf px) (S "") true) := ⟨rfl, rfl, ms_e, ms_w px, ms_e⟩
theorem is1 (px : Bool) : (mk1 px).Is (cfg px (S "#") (trOf marks (wcOf px)) marks false) := ⟨rfl, rfl, ms_h, ms_wm px, ms_p⟩
theorem is2 (px : Bool) : (mk2 px).Is (cfg px (S "#") (trOf marksT (wcOf px)) marksT false) := ⟨rfl, rfl, ms_h, ms_wt px, ms_pt⟩
theorem is3 (px : Bool) : (mk3 px).Is (cfg px (S "#") (wcOf px) (S "") false) := ⟨rfl, rfl, ms_h, ms_w px, ms_e⟩
noncomputable def okEnd (px : Bool) (outs : List Str) : Option (List Str × St × Str × Bool) → Bool
  | some (o, s, tok, q) => endOf s && (if eofM px q tok then o else o ++ [tok]) == outs
  | none => false
noncomputable def okSp (outs : List Str) : Option (List Str × St × Str × Bool) → Bool
  | some (o, .sp, tok, q) => tok == S "" && !q && o == outs
  | _ => false
noncomputable def chk (m : Mk) (w : List Nat) (outs : List Str) : Bool := okEnd m.px outs (runM m .sp (S "") false w) && okSp outs (runM m .sp (S "") false (w ++ [32]))
theorem wk_of {m : Mk} {l : Lx} (I : m.Is l) {w : List Nat} {outs : List Str} (h : chk m w outs = true) : Wk l w outs := by
  unfold chk at h
  rw [Bool.and_eq_true] at h
  obtain ⟨h1, h2⟩ := h
  constructor
  · cases e : runM m .sp (S "") false w with
    | none => rw [e] at h1; cases h1
    | some r =>
      obtain ⟨o, s, tok, q⟩ := r
      rw [e] at h1
      unfold okEnd at h1
      rw [Bool.and_eq_true] at h1
      refine ⟨o, s, tok, q, run_eq I w e, h1.1, ?_⟩
      have e2 : isEof l q tok = eofM m.px q tok := by unfold isEof eofM; rw [I.px]
      rw [e2]
      exact eq_of_beq h1.2
  · cases e : runM m .sp (S "") false (w ++ [32]) with
    | none => rw [e] at h2; cases h2
    | some r =>
      obtain ⟨o, s, tok, q⟩ := r
      rw [e] at h2
      cases s with
      | sp =>
        unfold okSp at h2
        simp only [Bool.and_eq_true, Bool.not_eq_true'] at h2
        obtain ⟨⟨h3, h4⟩, h5⟩ := h2
        rw [run_eq I _ e, eq_of_beq h3, h4, eq_of_beq h5]
      | _ => cases h2
noncomputable def tokensOk (ts : List Str) : Bool := decide (ts.length ≤ 8) && ts.all fun t => PyData.strOk t
noncomputable def opsN : List Int := 0 :: (List.range 48).map fun (i : Nat) => 7 + (i : Int)
noncomputable def al1 : Str := S "%+,:@"
noncomputable def al2 : Str := S "%+,-./:=@"
noncomputable def rdOk (px : Bool) (n : Int) : Bool :=
  chk (mk0 px) (quoteOf (wordOf n)).cps.toList (tokOf px (S "") n) && chk (mk1 px) (quoteOf (wordOf n)).cps.toList (tokOf px (S "") n)
   && chk (mk2 px) (quoteOf (wordOf n)).cps.toList (tokOf px (S "%+,:@") n) && chk (mk3 px) (quoteOf (wordOf n)).cps.toList (tokOf px (S "%+,-./:=@") n)
   && tokensOk (tokOf px (S "") n) && tokensOk (tokOf px (S "%+,:@") n) && tokensOk (tokOf px (S "%+,-./:=@") n)
theorem rd_t : (opsN.all fun n => rdOk true n) = true := by decide +kernel
theorem rd_f : (opsN.all fun n => rdOk false n) = true := by decide +kernel
set_option maxRecDepth 100000
set_option maxHeartbeats 4000000
/-- the text of a nonterminal: n and figures -/
structure Wd (x : Str) : Prop where
  chars : ∃ ds, x.cps.toList = 110 :: ds ∧ (∀ c ∈ ds, 48 ≤ c ∧ c ≤ 57) ∧ ds.length ≤ 10
noncomputable def wdC (c : Nat) : Prop := c = 110 ∨ (48 ≤ c ∧ c ≤ 57)
theorem wdC_cases {p : Nat → Prop} (h0 : p 48) (h1 : p 49) (h2 : p 50) (h3 : p 51) (h4 : p 52) (h5 : p 53) (h6 : p 54) (h7 : p 55) (h8 : p 56) (h9 : p 57) (hn : p 110) : ∀ c, wdC c → p c := fun c hc => by
  have h : c = 48 ∨ c = 49 ∨ c = 50 ∨ c = 51 ∨ c = 52 ∨ c = 53 ∨ c = 54 ∨ c = 55 ∨ c = 56 ∨ c = 57 ∨ c = 110 := by unfold wdC at hc; omega
  rcases h with rfl | rfl | rfl | rfl | rfl | rfl | rfl | rfl | rfl | rfl | rfl <;> assumption
theorem Wd.all {x : Str} (W : Wd x) : ∀ c ∈ x.cps.toList, wdC c := fun c hc => by
  obtain ⟨ds, h1, h2, _⟩ := W.chars
  rw [h1] at hc
  cases hc with
  | head => exact .inl rfl
  | tail _ hc => exact .inr (h2 c hc)
theorem Wd.len {x : Str} (W : Wd x) : 1 ≤ x.length ∧ x.length ≤ 11 := by
  obtain ⟨ds, h1, h2, h3⟩ := W.chars
  have e : x.length = x.cps.toList.length := by simp [Str.length]
  rw [e, h1, List.length_cons]
  omega
theorem sre_no : ∀ c, wdC c → ∀ seen, ∃ seen', Sre.inSet sreCode c sreCode.size 5 true seen = .ok (false, seen') :=
  wdC_cases (fun _ => ⟨_, rfl⟩) (fun _ => ⟨_, rfl⟩) (fun _ => ⟨_, rfl⟩) (fun _ => ⟨_, rfl⟩) (fun _ => ⟨_, rfl⟩) (fun _ => ⟨_, rfl⟩) (fun _ => ⟨_, rfl⟩) (fun _ => ⟨_, rfl⟩) (fun _ => ⟨_, rfl⟩) (fun _ => ⟨_, rfl⟩) (fun _ => ⟨_, rfl⟩)
theorem adm_no {x : Str} (h : ∀ c ∈ x.cps.toList, wdC c) (m : Sre.M) (hc : m.code = sreCode) (ht : m.text = x.cps) (hl : m.lim = x.cps.size) : ∀ fuel s seen, ∃ seen', m.admitted fuel s seen = .ok (none, seen')
  | 0, s, seen => ⟨seen, rfl⟩
  | fuel + 1, s, seen => by
    unfold Sre.M.admitted
    by_cases hs : s ≥ m.lim
    · rw [if_pos hs]; exact ⟨_, rfl⟩
    rw [if_neg hs, hc, ht]
    have hlt : s < x.cps.size := by omega
    obtain ⟨seen', e⟩ := sre_no (x.cps.getD s 0) (h _ (by rw [Array.getD_eq_getD_getElem?, Array.getElem?_eq_getElem hlt]; exact Array.mem_toList_iff.mpr (Array.getElem_mem hlt))) seen
    rw [e]
    exact adm_no h m hc ht hl fuel (s + 1) seen'
theorem Wd.found {x : Str} (W : Wd x) : sreFound x = some false := by
  obtain ⟨m, e, hc, ht, hl, hf, ho⟩ : ∃ m : Sre.M, Sre.forSearch sreCode x.cps 0 0 x.cps.size false = m.attemptFrom 0 true ∧ m.code = sreCode ∧ m.text = x.cps ∧ m.lim = x.cps.size ∧ m.frames = [] ∧ m.outcome = none := by
    unfold Sre.forSearch
    rw [if_neg (by
      have h1 : (Sre.header sreCode).1 = 1 := by decide +kernel
      have h : 1 ≤ x.cps.size := W.len.1
      rw [h1]
      simp
      intro h0
      rw [h0] at h
      exact absurd h (by decide))]
    exact ⟨_, rfl, rfl, rfl, rfl, rfl, rfl⟩
  unfold sreFound sreM
  rw [e]
  unfold Sre.M.attemptFrom
  have hfs : m.hasFirstSet = true := by unfold Sre.M.hasFirstSet; rw [hc]; decide +kernel
  rw [hfs, if_neg (by decide)]
  obtain ⟨seen', e2⟩ := adm_no W.all m hc ht hl (m.lim + 1 - 0) 0 m.seen
  rw [e2]
  obtain ⟨⟩ := m
  dsimp only at hf ho
  subst hf ho
  rfl
theorem Wd.quote {x : Str} (W : Wd x) : quoteOf x = x := by
  unfold quoteOf
  rw [if_neg (by have := W.len.1; omega), if_pos W.found]
theorem Wd.qok {x : Str} (W : Wd x) : QOk x := ⟨by have := W.len.2; omega, .inr ⟨_, W.found⟩, fun h => by rw [W.found] at h; cases h⟩
theorem str_eq {x y : Str} (h : x.cps.toList = y.cps.toList) : x = y := by
  cases x; cases y
  congr
  exact Array.toList_inj.mp h
theorem join0 : ∀ l : List Nat, (Str.join (S "") (l.map chS)).cps.toList = l
  | [] => rfl
  | [c] => rfl
  | c :: d :: l => by
    have ih := join0 (d :: l)
    show (((chS c).cps ++ (S "").cps) ++ (Str.join (S "") ((d :: l).map chS)).cps).toList = _
    rw [Array.toList_append, Array.toList_append, ih]
    rfl
theorem no_space : ∀ c, wdC c → Unicode.isSpace c = false := wdC_cases rfl rfl rfl rfl rfl rfl rfl rfl rfl rfl rfl
theorem sw_go (s : Str) (limit : Nat) (hl : 0 < limit) (h : ∀ i, i < s.length → Unicode.isSpace (s.cps.getD i 0) = false) : ∀ (k cur b : Nat), cur + k ≤ s.length →
    (forIn (List.range' cur k) ((none, #[], some b) : StrLaws.SwSt) (StrLaws.swBody s limit)).run = (none, #[], some b)
  | 0, cur, b, _ => rfl
  | k + 1, cur, b, hk => by
    rw [List.range'_succ, List.forIn_cons]
    have e : StrLaws.swBody s limit cur (none, #[], some b) = pure (ForInStep.yield (none, #[], some b)) := by
      unfold StrLaws.swBody
      rw [if_neg (by simp; omega), h cur (by omega)]
    rw [e]
    exact sw_go s limit hl h k (cur + 1) b (by omega)
theorem words_one {x : Str} (h0 : 1 ≤ x.length) (h : ∀ i, i < x.length → Unicode.isSpace (x.cps.getD i 0) = false) : Txt.words x = [x] := by
  unfold Txt.words
  rw [if_pos]
  have e : Builtin.Str.spaceWords x (x.length + 1) = [(0, x.length)] := by
    rw [StrLaws.sw_eq]
    obtain ⟨k, hk⟩ : ∃ k, x.length = k + 1 := ⟨x.length - 1, by omega⟩
    have e1 : StrLaws.swBody x (x.length + 1) 0 (none, #[], none) = pure (ForInStep.yield (none, #[], some 0)) := by
      unfold StrLaws.swBody
      rw [if_neg (by simp), h 0 (by omega)]
    have e2 : (forIn (List.range' 0 x.length) ((none, #[], none) : StrLaws.SwSt) (StrLaws.swBody x (x.length + 1))).run = (none, #[], some 0) := by
      have hr : List.range' 0 x.length = 0 :: List.range' 1 k := by rw [hk, List.range'_succ]
      rw [hr, List.forIn_cons, e1]
      exact sw_go x _ (by omega) h k 1 0 (by omega)
    rw [e2]
    rfl
  rw [e]
  exact beq_self_eq_true _
theorem getD_mem {x : Str} {i : Nat} (h : i < x.length) : x.cps.getD i 0 ∈ x.cps.toList := by
  have h : i < x.cps.size := h
  rw [Array.getD_eq_getD_getElem?, Array.getElem?_eq_getElem h]
  exact Array.mem_toList_iff.mpr (Array.getElem_mem h)
theorem Wd.words {x : Str} (W : Wd x) : Txt.words x = [x] := words_one W.len.1 fun i hi => no_space _ (W.all _ (getD_mem hi))
theorem Wd.alone {x al : Str} (W : Wd x) (ha : ∀ c, wdC c → Txt.contains al (chS c) = false) : Txt.words (Txt.join (S "") (x.cps.toList.map fun c => if Txt.contains al (chS c) then S " " ++ chS c ++ S " " else chS c)) = [x] := by
  have e : (x.cps.toList.map fun c => if Txt.contains al (chS c) then S " " ++ chS c ++ S " " else chS c) = x.cps.toList.map chS := by
    refine List.map_congr_left fun c hc => ?_
    rw [ha c (W.all c hc)]
    rfl
  rw [e]
  have e2 : Txt.join (S "") (x.cps.toList.map chS) = x := str_eq ((congrArg (fun y : Str => y.cps.toList) (StrLaws.glued_eq_join (S "") (x.cps.toList.map chS))).trans (join0 _))
  rw [e2]
  exact W.words
theorem al_0 : ∀ c, wdC c → Txt.contains (S "") (chS c) = false := wdC_cases (by kernel_rfl) (by kernel_rfl) (by kernel_rfl) (by kernel_rfl) (by kernel_rfl) (by kernel_rfl) (by kernel_rfl) (by kernel_rfl) (by kernel_rfl) (by kernel_rfl) (by kernel_rfl)
theorem al_1 : ∀ c, wdC c → Txt.contains (S "%+,:@") (chS c) = false := wdC_cases (by kernel_rfl) (by kernel_rfl) (by kernel_rfl) (by kernel_rfl) (by kernel_rfl) (by kernel_rfl) (by kernel_rfl) (by kernel_rfl) (by kernel_rfl) (by kernel_rfl) (by kernel_rfl)
theorem al_2 : ∀ c, wdC c → Txt.contains (S "%+,-./:=@") (chS c) = false := wdC_cases (by kernel_rfl) (by kernel_rfl) (by kernel_rfl) (by kernel_rfl) (by kernel_rfl) (by kernel_rfl) (by kernel_rfl) (by kernel_rfl) (by kernel_rfl) (by kernel_rfl) (by kernel_rfl)
/-- the masks suit words of n and figures -/
noncomputable def Mk.word (m : Mk) : Bool := [48, 49, 50, 51, 52, 53, 54, 55, 56, 57, 110].all fun c => !m.com.testBit c && m.wc.testBit c
theorem Mk.word_at {m : Mk} (h : m.word = true) : ∀ c, wdC c → m.com.testBit c = false ∧ m.wc.testBit c = true := fun c hc => by
  have := List.all_eq_true.mp h c (wdC_cases (p := fun c => c ∈ [48, 49, 50, 51, 52, 53, 54, 55, 56, 57, 110]) (by decide) (by decide) (by decide) (by decide) (by decide) (by decide) (by decide) (by decide) (by decide) (by decide) (by decide) c hc)
  simpa using this
theorem wd_plain : ∀ c, wdC c → ws4.testBit c = false ∧ (c == 92) = false ∧ (c == 39 || c == 34) = false ∧ (c == 10 || Nat.ble 128 c) = false := wdC_cases (by decide) (by decide) (by decide) (by decide) (by decide) (by decide) (by decide) (by decide) (by decide) (by decide) (by decide)
theorem run_aa {m : Mk} (h : m.word = true) : ∀ (cs : List Nat) (tok : Str) (q : Bool), (∀ c ∈ cs, wdC c) → runM m .aa tok q cs = some ([], .aa, ⟨tok.cps ++ cs.toArray⟩, q)
  | [], tok, q, _ => by
    show some ([], St.aa, tok, q) = _
    congr
  | c :: cs, tok, q, hc => by
    have ih := run_aa h cs (tok ++ chS c) q fun d hd => hc d (.tail _ hd)
    obtain ⟨h1, h2⟩ := m.word_at h c (hc c (.head _))
    obtain ⟨h3, h4, h5, h6⟩ := wd_plain c (hc c (.head _))
    unfold runM
    rw [h6, if_neg (by decide)]
    unfold stepM
    dsimp only
    rw [h3, h1, h4, h5, h2]
    show runM m .aa (tok ++ chS c) q cs = _
    rw [ih]
    congr 4
    refine congrArg Str.mk ?_
    show (tok.cps ++ #[c]) ++ cs.toArray = tok.cps ++ (c :: cs).toArray
    simp
theorem Wd.run {x : Str} (W : Wd x) {m : Mk} (h : m.word = true) : runM m .sp (S "") false x.cps.toList = some ([], .aa, x, false) := by
  obtain ⟨ds, e, hd, _⟩ := W.chars
  rw [e]
  obtain ⟨h1, h2⟩ := m.word_at h 110 (.inl rfl)
  unfold runM
  rw [if_neg (by decide)]
  unfold stepM
  dsimp only
  rw [if_neg (by decide), h1, if_neg (by decide), if_neg (by decide), h2, if_pos rfl]
  dsimp only
  rw [run_aa h ds (chS 110) false fun c hc => .inr (hd c hc)]
  congr 4
  refine str_eq ?_
  show ((chS 110).cps ++ ds.toArray).toList = _
  rw [e, Array.toList_append]
  rfl
theorem Wd.wk {x : Str} (W : Wd x) {m : Mk} {l : Lx} (I : m.Is l) (h : m.word = true) : Wk l x.cps.toList [x] := by
  have e := run_eq I _ (W.run h)
  have hne : eqC x (S "") = false := by
    cases h : eqC x (S "") with
    | false => rfl
    | true =>
      have h1 := W.len.1
      rw [eq_of_beq h] at h1
      exact absurd h1 (by decide)
  have hE : isEof l false x = false := by unfold isEof; rw [hne]; rfl
  refine ⟨⟨[], .aa, x, false, e, rfl, by rw [hE]; rfl⟩, ?_⟩
  refine run_app _ e (o2 := [x]) ?_
  have e2 : runM m .aa x false [32] = some ([x], .sp, S "", false) := by
    unfold runM
    rw [if_neg (by decide)]
    unfold stepM
    dsimp only
    have h32 : ws4.testBit 32 = true := by decide
    rw [h32, if_pos rfl]
    have hn : nonE x = true := by
      unfold nonE
      have := W.len.1
      simp
      omega
    rw [hn]
    have hM : eofM m.px false x = false := by unfold eofM; rw [hne]; rfl
    rw [Bool.true_or]
    dsimp only
    rw [hM]
    rfl
  exact run_eq I _ e2
set_option maxRecDepth 100000
set_option maxHeartbeats 4000000
theorem symOf_rng (x : Int) : symOf x = 0 ∨ (7 ≤ symOf x ∧ symOf x ≤ 54) ∨ (256 ≤ symOf x ∧ symOf x < 1256) := by
  unfold symOf
  have h1 : ∀ z : Int, 0 ≤ z.fmod 48 ∧ z.fmod 48 < 48 := fun z => ⟨Int.fmod_nonneg_of_pos z (by decide), Int.fmod_lt_of_pos z (by decide)⟩
  have h2 : ∀ z : Int, 0 ≤ z.fmod 1000 ∧ z.fmod 1000 < 1000 := fun z => ⟨Int.fmod_nonneg_of_pos z (by decide), Int.fmod_lt_of_pos z (by decide)⟩
  split
  · have := h1 (x.fdiv 4)
    omega
  split
  · exact .inl rfl
  · have := h2 (x.fdiv 16)
    omega
/-- the texts of one number: what the walk asks of each -/
structure RdOk (px : Bool) (n : Int) : Prop where
  w0 : Wk (cfg px (S "") (wcOf px) (S "") true) (quoteOf (wordOf n)).cps.toList (tokOf px (S "") n)
  w1 : Wk (cfg px (S "#") (trOf marks (wcOf px)) marks false) (quoteOf (wordOf n)).cps.toList (tokOf px (S "") n)
  w2 : Wk (cfg px (S "#") (trOf marksT (wcOf px)) marksT false) (quoteOf (wordOf n)).cps.toList (tokOf px (S "%+,:@") n)
  w3 : Wk (cfg px (S "#") (wcOf px) (S "") false) (quoteOf (wordOf n)).cps.toList (tokOf px (S "%+,-./:=@") n)
  k0 : tokensOk (tokOf px (S "") n) = true
  k2 : tokensOk (tokOf px (S "%+,:@") n) = true
  k3 : tokensOk (tokOf px (S "%+,-./:=@") n) = true
theorem rd_of {px : Bool} {n : Int} (h : rdOk px n = true) : RdOk px n := by
  unfold rdOk at h
  simp only [Bool.and_eq_true] at h
  obtain ⟨⟨⟨⟨⟨⟨h0, h1⟩, h2⟩, h3⟩, h4⟩, h5⟩, h6⟩ := h
  exact ⟨wk_of (is0 px) h0, wk_of (is1 px) h1, wk_of (is2 px) h2, wk_of (is3 px) h3, h4, h5, h6⟩
structure NOk (n : Int) : Prop where
  rt : RdOk true n
  rf : RdOk false n
  q : QOk (wordOf n)
  ql : (quoteOf (wordOf n)).length ≤ 20
  tf : tokOf false (S "") n = [quoteOf (wordOf n)]
  tt : tokOf true (S "") n = [wordOf n]
  num : NumOk (wordOf n) n
noncomputable def opOk (n : Int) : Bool :=
  decide ((wordOf n).length ≤ 3) && (match sreFound (wordOf n) with | none => false | some false => true | some true => Txt.replace (wordOf n) (S "'") (S "'\"'\"'") == wordOf n)
   && decide ((quoteOf (wordOf n)).length ≤ 20) && tokOf false (S "") n == [quoteOf (wordOf n)] && tokOf true (S "") n == [wordOf n]
   && (if wordOf n == Str.ofString "" then n == 0 else decide (0 < (wordOf n).length) && !(Txt.item (wordOf n) 0 == Str.ofString "n") && (match Spec.lookup (.str (wordOf n)) opP with | some (.int k) => k == n | _ => false))
theorem op_t : (opsN.all fun n => opOk n) = true := by decide +kernel
theorem num_ops {n : Int} {x : Str} (hl : x.length ≤ 3) (h : (if x == Str.ofString "" then n == 0 else decide (0 < x.length) && !(Txt.item x 0 == Str.ofString "n") && (match Spec.lookup (.str x) opP with | some (.int k) => k == n | _ => false)) = true) : NumOk x n := by
  by_cases c : (x == Str.ofString "") = true
  · rw [if_pos c] at h
    have h := eq_of_beq h
    exact ⟨by omega, fun _ => h, fun e => (by rw [c] at e; cases e), fun e => (by rw [c] at e; cases e), fun e => (by rw [c] at e; cases e)⟩
  · rw [if_neg c] at h
    simp only [Bool.and_eq_true, decide_eq_true_eq, Bool.not_eq_true'] at h
    obtain ⟨⟨h1, h2⟩, h3⟩ := h
    refine ⟨by omega, fun e => absurd e c, fun _ => h1, fun _ e => (by rw [h2] at e; cases e), fun _ _ => ?_⟩
    revert h3
    cases Spec.lookup (.str x) opP with
    | none => intro h3; cases h3
    | some d =>
      cases d with
      | int k => intro h3; rw [eq_of_beq h3]
      | _ => intro h3; cases h3
theorem nok_op {n : Int} (h : n ∈ opsN) : NOk n := by
  have h1 := rd_of (List.all_eq_true.mp rd_t n h)
  have h2 := rd_of (List.all_eq_true.mp rd_f n h)
  have h3 := List.all_eq_true.mp op_t n h
  unfold opOk at h3
  simp only [Bool.and_eq_true, decide_eq_true_eq] at h3
  obtain ⟨⟨⟨⟨⟨a, b⟩, c⟩, d⟩, e⟩, f⟩ := h3
  refine ⟨h1, h2, ⟨by omega, ?_, ?_⟩, c, eq_of_beq d, eq_of_beq e, num_ops a f⟩
  · cases hs : sreFound (wordOf n) with
    | none => rw [hs] at b; cases b
    | some z => exact .inr ⟨_, rfl⟩
  · intro hs
    rw [hs] at b
    exact eq_of_beq b
theorem ops_in {n : Int} (h : n = 0 ∨ (7 ≤ n ∧ n ≤ 54)) : n ∈ opsN := by
  rcases h with rfl | h
  · exact .head _
  · refine .tail _ (List.mem_map.mpr ⟨(n - 7).toNat, List.mem_range.mpr (by omega), by omega⟩)
theorem wd_of {n : Int} (h0 : 256 ≤ n) (h1 : n < 1256) : Wd (wordOf n) ∧ wordOf n = S "n" ++ S (toString (n - 256)) := by
  have e : wordOf n = S "n" ++ S (toString (n - 256)) := by unfold wordOf; rw [if_neg (by omega), if_neg (by omega)]
  refine ⟨⟨(S (toString (n - 256))).cps.toList, ?_, ?_, ?_⟩, e⟩
  · rw [e]
    show ((S "n").cps ++ (S (toString (n - 256))).cps).toList = _
    rw [Array.toList_append]
    rfl
  · obtain ⟨m, hm⟩ := Int.eq_ofNat_of_zero_le (show 0 ≤ n - 256 by omega)
    intro c hc
    rw [hm] at hc
    have hc' : c ∈ (Nat.toDigits 10 m).map Char.toNat := by rw [← PySem.W.KIN.signs_num]; exact hc
    obtain ⟨ch, hch, e⟩ := List.mem_map.mp hc'
    have r := digit_range (Nat.isDigit_of_mem_toDigits (by decide) (by decide) hch)
    rw [← e]
    exact r
  · have := PySem.W.KT.len_num (n := n - 256) (by omega) (by omega)
    have e2 : (S (toString (n - 256))).cps.toList.length = (Str.ofString (toString (n - 256))).length := by simp [Str.length]
    rw [e2]
    exact this
theorem Wd.toks {x : Str} (W : Wd x) : tokensOk [x] = true := by
  unfold tokensOk
  have h : PyData.strOk x = true := by
    unfold PyData.strOk
    rw [Array.all_eq_true']
    intro c hc
    have := W.all c (Array.mem_toList_iff.mpr hc)
    unfold wdC at this
    simp
    omega
  simp [h]
theorem nok_wd {n : Int} (h0 : 256 ≤ n) (h1 : n < 1256) : NOk n := by
  obtain ⟨W, e⟩ := wd_of h0 h1
  have ht : toldOf n = (wordOf n, true) := by unfold toldOf; rw [if_neg (by omega), if_pos (by omega), e]
  have tok : ∀ px al, (∀ c, wdC c → Txt.contains al (chS c) = false) → tokOf px al n = [wordOf n] := fun px al ha => by
    unfold tokOf
    rw [ht, if_pos rfl]
    exact W.alone ha
  have hm0 : ∀ px, (mk0 px).word = true := fun px => by cases px <;> decide +kernel
  have hm1 : ∀ px, (mk1 px).word = true := fun px => by cases px <;> decide +kernel
  have hm2 : ∀ px, (mk2 px).word = true := fun px => by cases px <;> decide +kernel
  have hm3 : ∀ px, (mk3 px).word = true := fun px => by cases px <;> decide +kernel
  have rd : ∀ px, RdOk px n := fun px => by
    constructor
    · rw [W.quote, tok px _ al_0]; exact W.wk (is0 px) (hm0 px)
    · rw [W.quote, tok px _ al_0]; exact W.wk (is1 px) (hm1 px)
    · rw [W.quote, tok px _ al_1]; exact W.wk (is2 px) (hm2 px)
    · rw [W.quote, tok px _ al_2]; exact W.wk (is3 px) (hm3 px)
    · rw [tok px _ al_0]; exact W.toks
    · rw [tok px _ al_1]; exact W.toks
    · rw [tok px _ al_2]; exact W.toks
  refine ⟨rd true, rd false, W.qok, by rw [W.quote]; have := W.len.2; omega, by rw [W.quote]; exact tok false _ al_0, tok true _ al_0, ?_⟩
  have hl := W.len
  have hitem : Txt.item (wordOf n) 0 = Str.ofString "n" := by
    obtain ⟨ds, hd, _⟩ := W.chars
    obtain ⟨k, hk⟩ : ∃ k, (wordOf n).cps.size = k + 1 := ⟨(wordOf n).cps.size - 1, by have : 1 ≤ (wordOf n).cps.size := hl.1; omega⟩
    have hc : Txt.charAt (wordOf n) 0 = some 110 := by
      unfold Txt.charAt seqIndex?
      have h3 : (wordOf n).length = k + 1 := hk
      rw [h3]
      have h4 : (wordOf n).cps[0]? = some 110 := by rw [← Array.getElem?_toList, hd]; rfl
      simp
      exact h4
    unfold Txt.item
    rw [hc]
    rfl
  have hslice : Txt.slice (wordOf n) (some 1) none = Str.ofString (toString (n - 256)) := by
    rw [slice_from_eq (b := ((wordOf n).length : Int)) (by decide) (by omega) rfl]
    refine str_eq ?_
    show (((wordOf n).cps.toList.drop 1).take _) = _
    have e2 : (wordOf n).cps.toList = 110 :: (S (toString (n - 256))).cps.toList := by
      rw [e]
      show ((S "n").cps ++ (S (toString (n - 256))).cps).toList = _
      rw [Array.toList_append]
      rfl
    have e3 : (wordOf n).length = (wordOf n).cps.toList.length := by simp [Str.length]
    rw [e3, e2]
    show List.take _ (S (toString (n - 256))).cps.toList = (S (toString (n - 256))).cps.toList
    exact List.take_of_length_le (by rw [List.length_cons]; omega)
  refine ⟨by omega, fun c => ?_, fun _ => by omega, fun _ _ => ⟨n - 256, ?_, ?_, by omega⟩, fun _ d => ?_⟩
  · have := eq_of_beq c
    rw [this] at hl
    exact absurd hl.1 (by decide)
  · rw [hslice]
    exact PySem.W.KIN.num_reads (by omega) (by omega)
  · rw [hslice]
    have := PySem.W.KT.len_num (n := n - 256) (by omega) (by omega)
    omega
  · rw [hitem] at d
    simp at d
theorem nok {n : Int} (h : n = 0 ∨ (7 ≤ n ∧ n ≤ 54) ∨ (256 ≤ n ∧ n < 1256)) : NOk n := by
  rcases h with h | h | h
  · exact nok_op (ops_in (.inl h))
  · exact nok_op (ops_in (.inr h))
  · exact nok_wd h.1 h.2
theorem sum_bound {α : Type} (f : α → Nat) (k : Nat) : ∀ l : List α, (∀ x ∈ l, f x ≤ k) → (l.map f).sum ≤ l.length * k
  | [], _ => by simp
  | x :: l, h => by
    have ih := sum_bound f k l fun y hy => h y (.tail _ hy)
    have := h x (.head _)
    rw [List.map_cons, List.sum_cons, List.length_cons, Nat.succ_mul]
    omega
theorem flat_bound {α β : Type} (f : α → List β) (k : Nat) : ∀ l : List α, (∀ x ∈ l, (f x).length ≤ k) → (l.flatMap f).length ≤ l.length * k
  | [], _ => by simp
  | x :: l, h => by
    have ih := flat_bound f k l fun y hy => h y (.tail _ hy)
    have := h x (.head _)
    rw [List.flatMap_cons, List.length_append, List.length_cons, Nat.succ_mul]
    omega
theorem oks_flat {f : Int → List Str} {ns : List Int} (h : ∀ n ∈ ns, tokensOk (f n) = true) : OksOk (ns.flatMap f) := fun x hx => by
  obtain ⟨n, hn, hx⟩ := List.mem_flatMap.mp hx
  have := h n hn
  unfold tokensOk at this
  rw [Bool.and_eq_true] at this
  exact List.all_eq_true.mp this.2 x hx
theorem len_flat {f : Int → List Str} {ns : List Int} (hl : ns.length ≤ 8) (h : ∀ n ∈ ns, tokensOk (f n) = true) : (ns.flatMap f).length ≤ 1000 := by
  have := flat_bound f 8 ns fun n hn => by
    have := h n hn
    unfold tokensOk at this
    rw [Bool.and_eq_true, decide_eq_true_eq] at this
    exact this.1
  have h2 : ns.length * 8 ≤ 8 * 8 := Nat.mul_le_mul hl (Nat.le_refl 8)
  omega
theorem flat_one {f : Int → List Str} {g : Int → Str} {ns : List Int} (h : ∀ n ∈ ns, f n = [g n]) : ns.flatMap f = ns.map g := by
  induction ns with
  | nil => rfl
  | cons n ns ih =>
    rw [List.flatMap_cons, h n (.head _), ih fun m hm => h m (.tail _ hm)]
    rfl
theorem law_ok {ns : List Int} (hl : ns.length ≤ 8) (hr : ∀ n ∈ ns, n = 0 ∨ (7 ≤ n ∧ n ≤ 54) ∨ (256 ≤ n ∧ n < 1256)) : LawOk ns := by
  have O : ∀ n ∈ ns, NOk n := fun n hn => nok (hr n hn)
  have hmm : (ns.map wordOf).map quoteOf = ns.map fun n => quoteOf (wordOf n) := List.map_map
  have hline : (Txt.join (S " ") ((ns.map wordOf).map quoteOf)).cps.toList = lineOf (ns.map fun n => (quoteOf (wordOf n)).cps.toList) := by
    show (Builtin.Str.glued (S " ") _).cps.toList = _
    rw [StrLaws.glued_eq_join, line_join (S " ") rfl, hmm, List.map_map]
    rfl
  have hTK : ∀ (l : Lx) (g : Int → List Str), (∀ n ∈ ns, Wk l (quoteOf (wordOf n)).cps.toList (g n)) → Toks l .sp (Txt.join (S " ") ((ns.map wordOf).map quoteOf)).cps.toList (ns.flatMap g) := fun l g h => by
    rw [hline]
    exact (line_toks _ g ns h).toks
  have hsum : (((ns.map wordOf).map quoteOf).map (·.length)).sum ≤ 8 * 20 := by
    rw [hmm, List.map_map]
    refine Nat.le_trans (sum_bound _ 20 ns fun n hn => (O n hn).ql) (Nat.mul_le_mul hl (Nat.le_refl _))
  have hlen : (Txt.join (S " ") ((ns.map wordOf).map quoteOf)).length ≤ 10000 := by
    show (Builtin.Str.glued (S " ") _).length ≤ _
    rw [StrLaws.glued_eq_join]
    have := StrLaws.join_length_le (S " ") ((ns.map wordOf).map quoteOf)
    have h1 : (S " ").length = 1 := rfl
    rw [h1, List.length_map, List.length_map] at this
    omega
  have hf : ns.flatMap (tokOf false (S "")) = (ns.map wordOf).map quoteOf := by rw [hmm]; exact flat_one fun n hn => (O n hn).tf
  have ht : ns.flatMap (tokOf true (S "")) = ns.map wordOf := flat_one fun n hn => (O n hn).tt
  have rd : ∀ px, (∀ n ∈ ns, RdOk px n) → ReadOk (Txt.join (S " ") ((ns.map wordOf).map quoteOf)) ns px := fun px R =>
    { len := hlen
      nl := by omega
      rng := hr
      t0 := hTK _ _ fun n hn => (R n hn).w0
      t1 := hTK _ _ fun n hn => (R n hn).w1
      t2 := hTK _ _ fun n hn => (R n hn).w2
      t3 := hTK _ _ fun n hn => (R n hn).w3
      l0 := len_flat hl fun n hn => (R n hn).k0
      l2 := len_flat hl fun n hn => (R n hn).k2
      l3 := len_flat hl fun n hn => (R n hn).k3
      o0 := oks_flat fun n hn => (R n hn).k0
      o2 := oks_flat fun n hn => (R n hn).k2
      o3 := oks_flat fun n hn => (R n hn).k3 }
  exact
    { q := fun n hn => (O n hn).q
      j := joinOk_of_weight (by rw [List.length_map, List.length_map]; omega) (by decide)
      told := by rw [hf]
      sp := by
        have := (rd true fun n hn => (O n hn).rt).t0
        rw [ht] at this
        exact this
      num := fun n hn => (O n hn).num
      rt := rd true fun n hn => (O n hn).rt
      rf := rd false fun n hn => (O n hn).rf
      wt := by rw [hf]; omega }
theorem part_len (xs : List Int) : (partOf xs).length ≤ 8 := by
  unfold partOf
  split
  · decide
  · rw [List.length_take]; omega
theorem law_holds (xs : List Int) : LawOk ((partOf xs).map symOf) := law_ok (by rw [List.length_map]; exact part_len xs) fun n hn => by
  obtain ⟨x, _, rfl⟩ := List.mem_map.mp hn
  exact symOf_rng x
set_option maxRecDepth 100000
set_option maxHeartbeats 4000000
theorem K746 (P : Params) : (K P).lookup 746 = none := by kernel_rfl
theorem K_of0 {P : Params} {h : Heap} (X : (K0 P).In h) : (K P).In h := fun a o e => by
  refine X a o ?_
  unfold K0
  rw [List.lookup_cons]
  cases c : (a == nat_lit 746) with
  | true =>
    rw [eq_of_beq c, K746] at e
    cases e
  | false => exact e
theorem tabs_at {P : Params} {h : Heap} (X : (K P).In h) (h746 : h.get? 746 = some (tabO #[])) : TabsAt tabs7 h := fun q hq => by
  rw [List.mem_singleton.mp hq]
  have o750 := X 750 _ (by kernel_rfl : _ = some (p750 P))
  have hcode : h.IsCode 750 746 #[] := ⟨_, _, _, _, _, _, _, _, _, _, o750, rfl, rfl, rfl, rfl, rfl, rfl, h746, rfl, trivial, by decide⟩
  have htab : h.TableAt 750 746 #[] := ⟨⟨_, _, o750, rfl, rfl, rfl⟩, h746⟩
  exact ⟨.of hcode htab, h746⟩
theorem old_of {h h' : Heap} {ps : Array Value} (hT : TabsAt tabs7 h) (k : (ghostOf h tabs7).StaysIn h') (h7 : h'.get? 746 = some (tabO ps)) : OldK h h' where
  old := fun b o e => by
    by_cases hb : b = 746
    · subst hb
      have e2 := (hT _ (.head _)).2
      rw [e] at e2
      cases e2
      exact .inr (.inl ⟨((hT _ (.head _)).1.tab (hT _ (.head _)).2).isCodeTable, rfl, #[], ps, rfl, by rw [Array.empty_append]; exact h7⟩)
    · exact .inl (k b o (ghost_ne e fun hm => hb (List.mem_singleton.mp hm)))
  there := fun b o e => by
    by_cases hb : b = 746
    · subst hb
      exact ⟨_, h7⟩
    · exact ⟨o, k b o (ghost_ne e fun hm => hb (List.mem_singleton.mp hm))⟩
theorem law_call : WalkO qv lse (XL qv []) (Hook.says hkK) rw1.row.toRowW dRec [] (fun f vs => PySem.call f vs) := by
  intro w s₀ s₁ mg mb G Y fa o pm cd doc dV kV ho hd hcd hD hmg hg args vals as hpre hlay hrd hwl hlo
  have X0 : (K0 w.params).In s₁.heap := kIn_of Y
  have X := K_of0 X0
  have h746 : s₁.heap.get? 746 = some (tabO #[]) := X0 746 _ (by kernel_rfl : _ = some (p746 w.params))
  refine Ground.open G ?_
  intro T B D TE TW
  have hfa := mg_of (n := S "law") (v := .ref 824) X T.g (by kernel_rfl)
  wrow_args hpre hlay hrd hwl hlo
  have hn : dRec.name = S "law" := by kernel_rfl
  rw [hn, hfa] at hmg
  cases hmg
  rename Heap.IsList _ _ _ => hL
  rename IntsAre _ _ => hI
  rename ¬ ((63 : Nat) : Int) < _ => hC
  have hT := tabs_at X h746
  refine law_walk hT X T (.of_eq hg) hL (by rw [List.toList_toArray]; exact hI) (by omega) (law_holds _) fun s' ps k h7 hb hos => ?_
  refine ⟨.inl ⟨_, _, [], rfl, fun _ => rfl, ReadsW.bool true, ?_, fun _ => ⟨List.nodup_nil, fun _ hm => (nomatch hm)⟩⟩, old_of hT k h7, hos, hb⟩
  first | rfl | wrow_post
theorem law_ends : PySem.Challenge.rw_ox0135_01.Holds := holds_law hd_said fun said => headed said law_call
end
end Mine
theorem PySem.Challenge.cw_ox0135_01_holds : PySem.Challenge.rw_ox0135_01.Holds := by
  exact Mine.law_ends
