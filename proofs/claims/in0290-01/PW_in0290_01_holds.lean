import PyProof.Rows.All
import Wide.All
import OpenK.AllK
import Wide.FinOn
import PySem.Challenge.RW_in0290_01
set_option Elab.async false
section
open PySem PySem.W PyProof.Rows
set_option linter.unusedVariables false
set_option maxRecDepth 100000
set_option maxHeartbeats 8000000
namespace Mine
noncomputable abbrev pw := PySem.Challenge.pw_in0290_01
/-- the statements of the program's top, and those of its classes -/
noncomputable def pass0 : Stmt := .Pass ⟨0, 0, 0, 0⟩
noncomputable def tp (i : Nat) : Stmt := (pw.main.body[i]?).getD pass0
noncomputable def inCls (s : Stmt) (j : Nat) : Stmt := match s with
  | .ClassDef _ _ _ b .. => (b[j]?).getD pass0
  | _ => pass0
noncomputable def mp (i j : Nat) : Stmt := inCls (tp i) j
noncomputable def pa (s : Stmt) : Arguments := match s with
  | .FunctionDef _ p .. => p
  | _ => ⟨[], [], none, [], [], none, []⟩
noncomputable def bo (s : Stmt) : List Stmt := match s with
  | .FunctionDef _ _ b .. => b
  | _ => []
noncomputable def sc (s : Stmt) : Scope := match s with
  | .FunctionDef (scope := c) .. => c
  | _ => { kind := .function, names := [], isGenerator := false, isCoroutine := false }
noncomputable abbrev vS (s : String) (n : Nat) : Value := .str (Str.ofString s) n
noncomputable abbrev dE (P : Params) (s : String) (n : Nat) (v : Value) : DictEntry := ⟨PyData.keyHash P (Str.ofString s), .str (Str.ofString s) n, v⟩
noncomputable abbrev fd (n q : Str) (s : Stmt) := FuncData.mk n q (pa s) (.stmts (bo s)) (sc s)
/-- the objects of the heap while the program's top runs -/
noncomputable def ob1 (P : Params) : Obj := .mk (.type "dict") none (.dict #[dE P "builtins" 162 (.ref 4), dE P "__main__" 163 (.ref 5), dE P "_sre" 244 (.ref 12)] 3) #[]
noncomputable def ob2 (P : Params) : Obj := .mk .none none (.dict #[dE P "\x69mport.loaded._sre" 183 (.bool true), dE P "class._frozen_importlib.BuiltinImporter" 185 (.ref 14), dE P "watched.\x69mport" 206 (.ref 18), dE P "class._frozen_importlib.ModuleSpec" 216 (.ref 22), dE P "sys.modules.booked-epoch" 245 (.int 3 0), dE P "\x69mport.later-laid._sre" 270 (.bool true), dE P "watched.library" 272 (.ref 27), dE P "watched.library-objects" 0 (vS "\x0c" 0), dE P "watched.library-deep._sre" 273 (.str ⟨#[4, 0, 0, 11, 4, 0, 0, 11, 4, 0, 0, 3, 4, 0, 0, 11, 8, 4, 100, 105, 99, 116, 2]⟩ 0)] 9) #[]
noncomputable def ob3 (P : Params) : Obj := .mk (.type "dict") none (.dict #[dE P "__name__" 165 (vS "__main__" 164), dE P "__doc__" 166 .none, dE P "__package__" 167 .none, dE P "__loader__" 168 (.builtin "__main__.__loader__#opaque"), dE P "__spec__" 169 .none, dE P "__annotations__" 170 (.ref 6), dE P "__builtins__" 171 (.ref 4), dE P "__file__" 173 (vS "/claim/cut.py" 172), dE P "__cached__" 174 .none, dE P "_sre" 275 (.ref 12)] 10) #[]
noncomputable def ob11 (P : Params) : Obj := .mk (.type "dict") none (.dict #[dE P "__name__" 247 (vS "_sre" 246), dE P "__doc__" 248 .none, dE P "__package__" 250 (vS "" 249), dE P "__loader__" 251 (.builtin "off-the-table:_sre.__loader__:shared#opaque"), dE P "__spec__" 252 (.builtin "off-the-table:_sre.__spec__:shared#opaque"), dE P "compile" 253 (.builtin "_sre.compile"), dE P "template" 254 (.builtin "off-the-table:_sre.template:shared#opaque"), dE P "getcodesize" 255 (.builtin "off-the-table:_sre.getcodesize:shared#opaque"), dE P "ascii_iscased" 256 (.builtin "off-the-table:_sre.ascii_iscased:shared#opaque"), dE P "unicode_iscased" 257 (.builtin "off-the-table:_sre.unicode_iscased:shared#opaque"), dE P "ascii_tolower" 258 (.builtin "off-the-table:_sre.ascii_tolower:shared#opaque"), dE P "unicode_tolower" 259 (.builtin "off-the-table:_sre.unicode_tolower:shared#opaque"), dE P "MAGIC" 261 (.int 20230612 260), dE P "CODESIZE" 263 (.int 4 262), dE P "MAXREPEAT" 265 (.int 4294967295 264), dE P "MAXGROUPS" 267 (.int 1073741823 266), dE P "copyright" 269 (vS " SRE 2.2.2 Copyright (c) 1997-2002 by Secret Labs AB " 268)] 17) #[]
noncomputable def ob12 (P : Params) : Obj := .mk (.type "module") (some 11) .plain #[]
noncomputable def ob13 (P : Params) : Obj := .mk (.type "dict") none (.dict #[dE P "__module__" 189 (vS "_frozen_importlib" 186), dE P "__firstlineno__" 190 (.int 971 187), dE P "__doc__" 191 (.builtin "_frozen_importlib.BuiltinImporter.__doc__:str#opaque"), dE P "_ORIGIN" 192 (vS "built-in" 188), dE P "find_spec" 193 (.builtin "_frozen_importlib.BuiltinImporter.find_spec#opaque"), dE P "create_module" 194 (.builtin "_frozen_importlib.BuiltinImporter.create_module#opaque"), dE P "exec_module" 195 (.builtin "_frozen_importlib.BuiltinImporter.exec_module#opaque"), dE P "get_code" 196 (.builtin "_frozen_importlib.BuiltinImporter.get_code#opaque"), dE P "get_source" 197 (.builtin "_frozen_importlib.BuiltinImporter.get_source#opaque"), dE P "is_package" 198 (.builtin "_frozen_importlib.BuiltinImporter.is_package#opaque"), dE P "load_module" 199 (.builtin "_frozen_importlib.BuiltinImporter.load_module#opaque"), dE P "__static_attributes__" 200 (.ref 15), dE P "__dict__" 202 (.ref 16), dE P "__weakref__" 204 (.ref 17)] 14) #[]
noncomputable def ob14 (P : Params) : Obj := .mk (.type "type") none (.cls (.mk "BuiltinImporter" [.type "object"] [.ref 14, .type "object"] 13 "BuiltinImporter" true [] [] false none false)) #[]
noncomputable def ob15 (P : Params) : Obj := .mk (.type "getset_descriptor") none (.fields #[vS "__dict__" 201, .ref 14, .builtin "function.__dict__", .builtin "function.__dict__#set"]) #[]
noncomputable def ob16 (P : Params) : Obj := .mk (.type "getset_descriptor") none (.fields #[vS "__weakref__" 203, .ref 14, .builtin "ExceptionGroup.__weakref__", .none]) #[]
noncomputable def ob17 (P : Params) : Obj := .mk .none none (.seq #[.int 13 0, .str ⟨#[6, 189, 10, 95, 95, 109, 111, 100, 117, 108, 101, 95, 95, 6, 186, 17, 95, 102, 114, 111, 122, 101, 110, 95, 105, 109, 112, 111, 114, 116, 108, 105, 98, 6, 190, 15, 95, 95, 102, 105, 114, 115, 116, 108, 105, 110, 101, 110, 111, 95, 95, 4, 187, 0, 971, 6, 191, 7, 95, 95, 100, 111, 99, 95, 95, 9, 52, 95, 102, 114, 111, 122, 101, 110, 95, 105, 109, 112, 111, 114, 116, 108, 105, 98, 46, 66, 117, 105, 108, 116, 105, 110, 73, 109, 112, 111, 114, 116, 101, 114, 46, 95, 95, 100, 111, 99, 95, 95, 58, 115, 116, 114, 35, 111, 112, 97, 113, 117, 101, 6, 192, 7, 95, 79, 82, 73, 71, 73, 78, 6, 188, 8, 98, 117, 105, 108, 116, 45, 105, 110, 6, 193, 9, 102, 105, 110, 100, 95, 115, 112, 101, 99, 9, 50, 95, 102, 114, 111, 122, 101, 110, 95, 105, 109, 112, 111, 114, 116, 108, 105, 98, 46, 66, 117, 105, 108, 116, 105, 110, 73, 109, 112, 111, 114, 116, 101, 114, 46, 102, 105, 110, 100, 95, 115, 112, 101, 99, 35, 111, 112, 97, 113, 117, 101, 6, 194, 13, 99, 114, 101, 97, 116, 101, 95, 109, 111, 100, 117, 108, 101, 9, 54, 95, 102, 114, 111, 122, 101, 110, 95, 105, 109, 112, 111, 114, 116, 108, 105, 98, 46, 66, 117, 105, 108, 116, 105, 110, 73, 109, 112, 111, 114, 116, 101, 114, 46, 99, 114, 101, 97, 116, 101, 95, 109, 111, 100, 117, 108, 101, 35, 111, 112, 97, 113, 117, 101, 6, 195, 11, 101, 120, 101, 99, 95, 109, 111, 100, 117, 108, 101, 9, 52, 95, 102, 114, 111, 122, 101, 110, 95, 105, 109, 112, 111, 114, 116, 108, 105, 98, 46, 66, 117, 105, 108, 116, 105, 110, 73, 109, 112, 111, 114, 116, 101, 114, 46, 101, 120, 101, 99, 95, 109, 111, 100, 117, 108, 101, 35, 111, 112, 97, 113, 117, 101, 6, 196, 8, 103, 101, 116, 95, 99, 111, 100, 101, 9, 49, 95, 102, 114, 111, 122, 101, 110, 95, 105, 109, 112, 111, 114, 116, 108, 105, 98, 46, 66, 117, 105, 108, 116, 105, 110, 73, 109, 112, 111, 114, 116, 101, 114, 46, 103, 101, 116, 95, 99, 111, 100, 101, 35, 111, 112, 97, 113, 117, 101, 6, 197, 10, 103, 101, 116, 95, 115, 111, 117, 114, 99, 101, 9, 51, 95, 102, 114, 111, 122, 101, 110, 95, 105, 109, 112, 111, 114, 116, 108, 105, 98, 46, 66, 117, 105, 108, 116, 105, 110, 73, 109, 112, 111, 114, 116, 101, 114, 46, 103, 101, 116, 95, 115, 111, 117, 114, 99, 101, 35, 111, 112, 97, 113, 117, 101, 6, 198, 10, 105, 115, 95, 112, 97, 99, 107, 97, 103, 101, 9, 51, 95, 102, 114, 111, 122, 101, 110, 95, 105, 109, 112, 111, 114, 116, 108, 105, 98, 46, 66, 117, 105, 108, 116, 105, 110, 73, 109, 112, 111, 114, 116, 101, 114, 46, 105, 115, 95, 112, 97, 99, 107, 97, 103, 101, 35, 111, 112, 97, 113, 117, 101, 6, 199, 11, 108, 111, 97, 100, 95, 109, 111, 100, 117, 108, 101, 9, 52, 95, 102, 114, 111, 122, 101, 110, 95, 105, 109, 112, 111, 114, 116, 108, 105, 98, 46, 66, 117, 105, 108, 116, 105, 110, 73, 109, 112, 111, 114, 116, 101, 114, 46, 108, 111, 97, 100, 95, 109, 111, 100, 117, 108, 101, 35, 111, 112, 97, 113, 117, 101, 6, 200, 21, 95, 95, 115, 116, 97, 116, 105, 99, 95, 97, 116, 116, 114, 105, 98, 117, 116, 101, 115, 95, 95, 4, 0, 0, 15, 6, 202, 8, 95, 95, 100, 105, 99, 116, 95, 95, 4, 0, 0, 16, 6, 204, 11, 95, 95, 119, 101, 97, 107, 114, 101, 102, 95, 95, 4, 0, 0, 17]⟩ 0, .bool true, .bool true, vS "" 205, .int 21 0, .str ⟨#[6, 227, 10, 95, 95, 109, 111, 100, 117, 108, 101, 95, 95, 6, 217, 17, 95, 102, 114, 111, 122, 101, 110, 95, 105, 109, 112, 111, 114, 116, 108, 105, 98, 6, 228, 15, 95, 95, 102, 105, 114, 115, 116, 108, 105, 110, 101, 110, 111, 95, 95, 4, 218, 0, 562, 6, 229, 7, 95, 95, 100, 111, 99, 95, 95, 9, 47, 95, 102, 114, 111, 122, 101, 110, 95, 105, 109, 112, 111, 114, 116, 108, 105, 98, 46, 77, 111, 100, 117, 108, 101, 83, 112, 101, 99, 46, 95, 95, 100, 111, 99, 95, 95, 58, 115, 116, 114, 35, 111, 112, 97, 113, 117, 101, 6, 230, 8, 95, 95, 105, 110, 105, 116, 95, 95, 9, 44, 95, 102, 114, 111, 122, 101, 110, 95, 105, 109, 112, 111, 114, 116, 108, 105, 98, 46, 77, 111, 100, 117, 108, 101, 83, 112, 101, 99, 46, 95, 95, 105, 110, 105, 116, 95, 95, 35, 111, 112, 97, 113, 117, 101, 6, 231, 8, 95, 95, 114, 101, 112, 114, 95, 95, 9, 44, 95, 102, 114, 111, 122, 101, 110, 95, 105, 109, 112, 111, 114, 116, 108, 105, 98, 46, 77, 111, 100, 117, 108, 101, 83, 112, 101, 99, 46, 95, 95, 114, 101, 112, 114, 95, 95, 35, 111, 112, 97, 113, 117, 101, 6, 232, 6, 95, 95, 101, 113, 95, 95, 9, 42, 95, 102, 114, 111, 122, 101, 110, 95, 105, 109, 112, 111, 114, 116, 108, 105, 98, 46, 77, 111, 100, 117, 108, 101, 83, 112, 101, 99, 46, 95, 95, 101, 113, 95, 95, 35, 111, 112, 97, 113, 117, 101, 6, 233, 6, 99, 97, 99, 104, 101, 100, 9, 42, 95, 102, 114, 111, 122, 101, 110, 95, 105, 109, 112, 111, 114, 116, 108, 105, 98, 46, 77, 111, 100, 117, 108, 101, 83, 112, 101, 99, 46, 99, 97, 99, 104, 101, 100, 35, 111, 112, 97, 113, 117, 101, 6, 234, 6, 112, 97, 114, 101, 110, 116, 9, 42, 95, 102, 114, 111, 122, 101, 110, 95, 105, 109, 112, 111, 114, 116, 108, 105, 98, 46, 77, 111, 100, 117, 108, 101, 83, 112, 101, 99, 46, 112, 97, 114, 101, 110, 116, 35, 111, 112, 97, 113, 117, 101, 6, 235, 12, 104, 97, 115, 95, 108, 111, 99, 97, 116, 105, 111, 110, 9, 48, 95, 102, 114, 111, 122, 101, 110, 95, 105, 109, 112, 111, 114, 116, 108, 105, 98, 46, 77, 111, 100, 117, 108, 101, 83, 112, 101, 99, 46, 104, 97, 115, 95, 108, 111, 99, 97, 116, 105, 111, 110, 35, 111, 112, 97, 113, 117, 101, 6, 236, 21, 95, 95, 115, 116, 97, 116, 105, 99, 95, 97, 116, 116, 114, 105, 98, 117, 116, 101, 115, 95, 95, 4, 0, 0, 23, 6, 238, 8, 95, 95, 100, 105, 99, 116, 95, 95, 4, 0, 0, 24, 6, 240, 11, 95, 95, 119, 101, 97, 107, 114, 101, 102, 95, 95, 4, 0, 0, 25, 6, 241, 8, 95, 95, 104, 97, 115, 104, 95, 95, 0]⟩ 0, .bool true, .bool true, vS "" 242] 1) #[]
noncomputable def ob18 (P : Params) : Obj := .mk (.type "list") none (.seq #[]) #[]
noncomputable def ob19 (P : Params) : Obj := .mk (.type "dict") none (.dict #[dE P "name" 208 (vS "_sre" 207), dE P "loader" 209 (.ref 14), dE P "origin" 210 (vS "built-in" 184), dE P "loader_state" 211 .none, dE P "submodule_search_locations" 212 .none, dE P "_uninitialized_submodules" 213 (.ref 19), dE P "_set_fileattr" 214 (.bool false), dE P "_cached" 215 .none, dE P "_initializing" 243 (.bool false)] 9) #[]
noncomputable def ob20 (P : Params) : Obj := .mk (.type "dict") none (.dict #[dE P "__module__" 227 (vS "_frozen_importlib" 217), dE P "__firstlineno__" 228 (.int 562 218), dE P "__doc__" 229 (.builtin "_frozen_importlib.ModuleSpec.__doc__:str#opaque"), dE P "__init__" 230 (.builtin "_frozen_importlib.ModuleSpec.__init__#opaque"), dE P "__repr__" 231 (.builtin "_frozen_importlib.ModuleSpec.__repr__#opaque"), dE P "__eq__" 232 (.builtin "_frozen_importlib.ModuleSpec.__eq__#opaque"), dE P "cached" 233 (.builtin "_frozen_importlib.ModuleSpec.cached#opaque"), dE P "parent" 234 (.builtin "_frozen_importlib.ModuleSpec.parent#opaque"), dE P "has_location" 235 (.builtin "_frozen_importlib.ModuleSpec.has_location#opaque"), dE P "__static_attributes__" 236 (.ref 23), dE P "__dict__" 238 (.ref 24), dE P "__weakref__" 240 (.ref 25), dE P "__hash__" 241 .none] 13) #[]
noncomputable def ob21 (P : Params) : Obj := .mk (.type "type") none (.cls (.mk "ModuleSpec" [.type "object"] [.ref 22, .type "object"] 21 "ModuleSpec" true [] [] false none false)) #[]
noncomputable def ob22 (P : Params) : Obj := .mk (.type "tuple") none (.seq #[vS "_cached" 219, vS "_set_fileattr" 220, vS "_uninitialized_submodules" 221, vS "loader" 222, vS "loader_state" 223, vS "name" 224, vS "origin" 225, vS "submodule_search_locations" 226]) #[]
noncomputable def ob23 (P : Params) : Obj := .mk (.type "getset_descriptor") none (.fields #[vS "__dict__" 237, .ref 22, .builtin "function.__dict__", .builtin "function.__dict__#set"]) #[]
noncomputable def ob24 (P : Params) : Obj := .mk (.type "getset_descriptor") none (.fields #[vS "__weakref__" 239, .ref 22, .builtin "ExceptionGroup.__weakref__", .none]) #[]
noncomputable def ob25 (P : Params) : Obj := .mk (.ref 22) (some 20) .plain #[]
noncomputable def ob26 (P : Params) : Obj := .mk .none none (.seq #[.int 11 0, Value.str (Str.mk #[6, 247, 8, 95, 95, 110, 97, 109, 101, 95, 95, 6, 246, 4, 95, 115, 114, 101, 6, 248, 7, 95, 95, 100, 111, 99, 95, 95, 0, 6, 250, 11, 95, 95, 112, 97, 99, 107, 97, 103, 101, 95, 95, 6, 249, 0, 6, 251, 10, 95, 95, 108, 111, 97, 100, 101, 114, 95, 95, 4, 0, 0, 14, 6, 252, 8, 95, 95, 115, 112, 101, 99, 95, 95, 4, 0, 0, 26, 6, 253, 7, 99, 111, 109, 112, 105, 108, 101, 9, 12, 95, 115, 114, 101, 46, 99, 111, 109, 112, 105, 108, 101, 6, 254, 8, 116, 101, 109, 112, 108, 97, 116, 101, 9, 13, 95, 115, 114, 101, 46, 116, 101, 109, 112, 108, 97, 116, 101, 6, 255, 11, 103, 101, 116, 99, 111, 100, 101, 115, 105, 122, 101, 9, 16, 95, 115, 114, 101, 46, 103, 101, 116, 99, 111, 100, 101, 115, 105, 122, 101, 6, 256, 13, 97, 115, 99, 105, 105, 95, 105, 115, 99, 97, 115, 101, 100, 9, 18, 95, 115, 114, 101, 46, 97, 115, 99, 105, 105, 95, 105, 115, 99, 97, 115, 101, 100, 6, 257, 15, 117, 110, 105, 99, 111, 100, 101, 95, 105, 115, 99, 97, 115, 101, 100, 9, 20, 95, 115, 114, 101, 46, 117, 110, 105, 99, 111, 100, 101, 95, 105, 115, 99, 97, 115, 101, 100, 6, 258, 13, 97, 115, 99, 105, 105, 95, 116, 111, 108, 111, 119, 101, 114, 9, 18, 95, 115, 114, 101, 46, 97, 115, 99, 105, 105, 95, 116, 111, 108, 111, 119, 101, 114, 6, 259, 15, 117, 110, 105, 99, 111, 100, 101, 95, 116, 111, 108, 111, 119, 101, 114, 9, 20, 95, 115, 114, 101, 46, 117, 110, 105, 99, 111, 100, 101, 95, 116, 111, 108, 111, 119, 101, 114, 6, 261, 5, 77, 65, 71, 73, 67, 4, 260, 0, 20230612, 6, 263, 8, 67, 79, 68, 69, 83, 73, 90, 69, 4, 262, 0, 4, 6, 265, 9, 77, 65, 88, 82, 69, 80, 69, 65, 84, 4, 264, 0, 4294967295, 6, 267, 9, 77, 65, 88, 71, 82, 79, 85, 80, 83, 4, 266, 0, 1073741823, 6, 269, 9, 99, 111, 112, 121, 114, 105, 103, 104, 116, 6, 268, 53, 32, 83, 82, 69, 32, 50, 46, 50, 46, 50, 32, 67, 111, 112, 121, 114, 105, 103, 104, 116, 32, 40, 99, 41, 32, 49, 57, 57, 55, 45, 50, 48, 48, 50, 32, 98, 121, 32, 83, 101, 99, 114, 101, 116, 32, 76, 97, 98, 115, 32, 65, 66, 32]) 0, .bool true, .bool false, vS "_sre" 271]) #[]
noncomputable def ob27 (P : Params) : Obj := .mk (.type "code") none (.fields #[vS "<module>" 277, vS "<module>" 278, vS "/claim/cut.py" 279, .int 1 0, .int 0 0, .int 0 0, .int 0 0, .int 0 0, .ref 28, .bool false, .int 276 0, .ref 29, .none, .none, .none, .none, .int 280 0, .int 1 0, vS "/claim/cut.py" 281]) #[]
noncomputable def ob28 (P : Params) : Obj := .mk (.type "frame") none .plain #[some (.ref 30), some (.ref 3), some (.ref 3), none, some (vS "__main__" 164), none, some (.ref 0)]
noncomputable def ob29 (P : Params) : Obj := .mk (.type "dict") none (.dict #[dE P "__name__" 165 (vS "re" 387), dE P "__doc__" 166 .none, dE P "__package__" 167 .none, dE P "__loader__" 168 (.builtin "__main__.__loader__#opaque"), dE P "__spec__" 169 .none, dE P "__annotations__" 170 (.ref 6), dE P "__builtins__" 171 (.ref 4), dE P "__file__" 173 (vS "/claim/cut.py" 172), dE P "__cached__" 174 .none, dE P "_sre" 275 (.ref 12), dE P "_wall" 288 (.ref 38), dE P "Entry" 348 (.ref 76), dE P "_twin_re_1" 386 (.ref 85)] 13) #[]
noncomputable def ob30 (P : Params) : Obj := .mk .none none (.fields #[.int 2 0, .int 0 0, .ref 37, .int 6 0, .int 0 0, .ref 44]) #[]
noncomputable def ob31 (P : Params) : Obj := .mk (.type "tuple") none (.seq #[vS "k" 285]) #[]
noncomputable def ob32 (P : Params) : Obj := .mk .none none (.func (fd "_wall" "_wall" (tp 1) 0 [] .none .none .none .none none .none .none 0)) #[]
noncomputable def ob33 (P : Params) : Obj := .mk (.type "code") none (.fields #[vS "_wall" 282, vS "_wall" 283, vS "/claim/cut.py" 284, .int 2 0, .int 1 0, .int 0 0, .int 0 0, .int 3 0, .ref 32, .bool true, .int 276 0, .ref 33, .none, .ref 34, .ref 35, .ref 36, .int 286 0, .int 2 0, vS "/claim/cut.py" 287]) #[]
noncomputable def ob34 (P : Params) : Obj := .mk (.type "function") none (.func (fd "_wall" "_wall" (tp 1) 3 [] .none .none .none (vS "__main__" 164) none (.ref 37) .none 0)) #[]
noncomputable def ob35 (P : Params) : Obj := .mk (.type "builtin_function_or_method") none (.fields #[.builtin "type.__prepare__", .type "type"]) #[]
noncomputable def ob36 (P : Params) : Obj := .mk (.type "dict") none (.dict #[dE P "__module__" 298 (vS "cpy313.urllib.robotparser" 289), dE P "__qualname__" 300 (vS "Entry" 299), dE P "__firstlineno__" 302 (.int 6 301), dE P "__init__" 309 (.ref 52), dE P "__str__" 319 (.ref 59), dE P "applies_to" 328 (.ref 66), dE P "allowance" 336 (.ref 73), dE P "__static_attributes__" 341 (.ref 74)] 8) #[]
noncomputable def ob37 (P : Params) : Obj := .mk .none none (.fields #[.int 8 0, .int 4 0, .ref 51, .int 14 0, .int 4 0, .ref 58, .int 31 0, .int 4 0, .ref 65, .int 42 0, .int 4 0, .ref 72]) #[]
noncomputable def ob38 (P : Params) : Obj := .mk (.type "code") none (.fields #[vS "Entry" 293, vS "Entry" 294, vS "/claim/cut.py" 295, .int 6 0, .int 0 0, .int 0 0, .int 0 0, .int 0 0, .ref 42, .bool false, .int 276 0, .ref 43, .none, .none, .none, .none, .int 296 0, .int 6 0, vS "/claim/cut.py" 297]) #[]
noncomputable def ob39 (P : Params) : Obj := .mk (.type "frame") none .plain #[some (.ref 44), some (.ref 3), some (.ref 41), none, some (vS "cpy313.urllib.robotparser" 289), none, some (.ref 0)]
noncomputable def ob40 (P : Params) : Obj := .mk (.type "tuple") none (.seq #[vS "self" 306]) #[]
noncomputable def ob41 (P : Params) : Obj := .mk .none none (.func (fd "__init__" "Entry.__init__" (mp 3 0) 0 [] .none .none .none .none none .none .none 0)) #[]
noncomputable def ob42 (P : Params) : Obj := .mk (.type "code") none (.fields #[vS "__init__" 303, vS "Entry.__init__" 304, vS "/claim/cut.py" 305, .int 8 0, .int 1 0, .int 0 0, .int 0 0, .int 3 0, .ref 46, .bool true, .int 276 0, .ref 47, .none, .ref 48, .ref 49, .ref 50, .int 307 0, .int 8 0, vS "/claim/cut.py" 308]) #[]
noncomputable def ob43 (P : Params) : Obj := .mk (.type "function") none (.func (fd "__init__" "Entry.__init__" (mp 3 0) 3 [] .none .none .none (vS "cpy313.urllib.robotparser" 289) none (.ref 51) .none 0)) #[]
noncomputable def ob44 (P : Params) : Obj := .mk (.type "tuple") none (.seq #[vS "self" 313, vS "ret" 314, vS "agent" 315, vS "rate" 316]) #[]
noncomputable def ob45 (P : Params) : Obj := .mk .none none (.func (fd "__str__" "Entry.__str__" (mp 3 1) 0 [] .none .none .none .none none .none .none 0)) #[]
noncomputable def ob46 (P : Params) : Obj := .mk (.type "code") none (.fields #[vS "__str__" 310, vS "Entry.__str__" 311, vS "/claim/cut.py" 312, .int 14 0, .int 1 0, .int 0 0, .int 0 0, .int 3 0, .ref 53, .bool true, .int 276 0, .ref 54, .none, .ref 55, .ref 56, .ref 57, .int 317 0, .int 14 0, vS "/claim/cut.py" 318]) #[]
noncomputable def ob47 (P : Params) : Obj := .mk (.type "function") none (.func (fd "__str__" "Entry.__str__" (mp 3 1) 3 [] .none .none .none (vS "cpy313.urllib.robotparser" 289) none (.ref 58) .none 0)) #[]
noncomputable def ob48 (P : Params) : Obj := .mk (.type "tuple") none (.seq #[vS "self" 323, vS "useragent" 324, vS "agent" 325]) #[]
noncomputable def ob49 (P : Params) : Obj := .mk .none none (.func (fd "applies_to" "Entry.applies_to" (mp 3 2) 0 [] .none .none .none .none none .none .none 0)) #[]
noncomputable def ob50 (P : Params) : Obj := .mk (.type "code") none (.fields #[vS "applies_to" 320, vS "Entry.applies_to" 321, vS "/claim/cut.py" 322, .int 31 0, .int 2 0, .int 0 0, .int 0 0, .int 3 0, .ref 60, .bool true, .int 276 0, .ref 61, .none, .ref 62, .ref 63, .ref 64, .int 326 0, .int 31 0, vS "/claim/cut.py" 327]) #[]
noncomputable def ob51 (P : Params) : Obj := .mk (.type "function") none (.func (fd "applies_to" "Entry.applies_to" (mp 3 2) 3 [] .none .none .none (vS "cpy313.urllib.robotparser" 289) none (.ref 65) .none 0)) #[]
noncomputable def ob52 (P : Params) : Obj := .mk (.type "tuple") none (.seq #[vS "self" 332, vS "filename" 333]) #[]
noncomputable def ob53 (P : Params) : Obj := .mk .none none (.func (fd "allowance" "Entry.allowance" (mp 3 3) 0 [] .none .none .none .none none .none .none 0)) #[]
noncomputable def ob54 (P : Params) : Obj := .mk (.type "code") none (.fields #[vS "allowance" 329, vS "Entry.allowance" 330, vS "/claim/cut.py" 331, .int 42 0, .int 2 0, .int 0 0, .int 0 0, .int 3 0, .ref 67, .bool true, .int 276 0, .ref 68, .none, .ref 69, .ref 70, .ref 71, .int 334 0, .int 42 0, vS "/claim/cut.py" 335]) #[]
noncomputable def ob55 (P : Params) : Obj := .mk (.type "function") none (.func (fd "allowance" "Entry.allowance" (mp 3 3) 3 [] .none .none .none (vS "cpy313.urllib.robotparser" 289) none (.ref 72) .none 0)) #[]
noncomputable def ob56 (P : Params) : Obj := .mk (.type "tuple") none (.seq #[vS "delay" 337, vS "req_rate" 338, vS "rulelines" 339, vS "useragents" 340]) #[]
noncomputable def ob57 (P : Params) : Obj := .mk (.type "dict") none (.dict #[dE P "__module__" 298 (vS "cpy313.urllib.robotparser" 289), dE P "__firstlineno__" 302 (.int 6 301), dE P "__init__" 309 (.ref 52), dE P "__str__" 319 (.ref 59), dE P "applies_to" 328 (.ref 66), dE P "allowance" 336 (.ref 73), dE P "__static_attributes__" 341 (.ref 74), dE P "__dict__" 343 (.ref 77), dE P "__weakref__" 345 (.ref 78), dE P "__doc__" 346 .none] 4) #[]
noncomputable def ob58 (P : Params) : Obj := .mk (.type "type") none (.cls (.mk "Entry" [.type "object"] [.ref 76, .type "object"] 75 "Entry" true [] [] false none false)) #[none, none, some (vS "Entry" 291), some (vS "Entry" 299), some (.builtin "object.__new__"), some (.bool true)]
noncomputable def ob59 (P : Params) : Obj := .mk (.type "getset_descriptor") none (.fields #[vS "__dict__" 342, .ref 76, .builtin "function.__dict__", .builtin "function.__dict__#set"]) #[]
noncomputable def ob60 (P : Params) : Obj := .mk (.type "getset_descriptor") none (.fields #[vS "__weakref__" 344, .ref 76, .builtin "ExceptionGroup.__weakref__", .none]) #[]
noncomputable def ob61 (P : Params) : Obj := .mk (.type "super") none (.fields #[.ref 76, .ref 76, .ref 76]) #[]
noncomputable def ob62 (P : Params) : Obj := .mk (.type "builtin_function_or_method") none (.fields #[.builtin "object.__init_subclass__", .ref 76]) #[]
noncomputable def ob63 (P : Params) : Obj := .mk (.type "list") none (.seq #[.int 14 352, .int 14 353, .int 4 354, .int 1 355, .int 1 356, .int 9 357, .int 0 358, .int 64 359, .int 0 360, .int 1342177280 361, .int 0 362, .int 0 363, .int 0 364, .int 0 365, .int 0 366, .int 17 367, .int 0 368, .int 13 369, .int 11 370, .int 9 371, .int 0 372, .int 64 373, .int 0 374, .int 1342177280 375, .int 0 376, .int 0 377, .int 0 378, .int 0 379, .int 0 380, .int 17 381, .int 1 382, .int 1 383]) #[]
noncomputable def ob64 (P : Params) : Obj := .mk (.type "tuple") none (.seq #[.none, .none]) #[]
noncomputable def ob65 (P : Params) : Obj := .mk (.type "tuple") none (.seq #[.int 14 0, .int 14 0, .int 4 0, .int 1 0, .int 1 0, .int 9 0, .int 0 0, .int 64 0, .int 0 0, .int 1342177280 0, .int 0 0, .int 0 0, .int 0 0, .int 0 0, .int 0 0, .int 17 0, .int 0 0, .int 13 0, .int 11 0, .int 9 0, .int 0 0, .int 64 0, .int 0 0, .int 1342177280 0, .int 0 0, .int 0 0, .int 0 0, .int 0 0, .int 0 0, .int 17 0, .int 1 0, .int 1 0]) #[]
noncomputable def ob66 (P : Params) : Obj := .mk (.type "re.Pattern") none (.fields #[vS "([&~|])" 350, .int 32 385, .int 1 0, .none, .none, .ref 84, .int 0 0]) #[]
noncomputable def ob67 (P : Params) : Obj := .mk (.type "dict") none (.dict #[dE P "__name__" 165 (vS "re" 387), dE P "__doc__" 166 .none, dE P "__package__" 167 .none, dE P "__loader__" 168 (.builtin "__main__.__loader__#opaque"), dE P "__spec__" 169 .none, dE P "__annotations__" 170 (.ref 6), dE P "__builtins__" 171 (.ref 4), dE P "__file__" 173 (vS "/claim/cut.py" 172), dE P "__cached__" 174 .none, dE P "_sre" 275 (.ref 12), dE P "_wall" 288 (.ref 38), dE P "Entry" 348 (.ref 76), dE P "_twin_re_1" 386 (.ref 85), dE P "_special_chars_map" 534 (.ref 87)] 14) #[]
noncomputable def ob68 (P : Params) : Obj := .mk (.type "bytes_iterator") none (.fields #[.none, .int 24 0]) #[]
noncomputable def ob69 (P : Params) : Obj := .mk (.type "dict") none (.dict #[DictEntry.mk 40 (.int 40 390) (vS "\\(" 394), DictEntry.mk 41 (.int 41 396) (vS "\\)" 400), DictEntry.mk 91 (.int 91 402) (vS "\\[" 406), DictEntry.mk 93 (.int 93 408) (vS "\\]" 412), DictEntry.mk 123 (.int 123 414) (vS "\\{" 418), DictEntry.mk 125 (.int 125 420) (vS "\\}" 424), DictEntry.mk 63 (.int 63 426) (vS "\\?" 430), DictEntry.mk 42 (.int 42 432) (vS "\\*" 436), DictEntry.mk 43 (.int 43 438) (vS "\\+" 442), DictEntry.mk 45 (.int 45 444) (vS "\\-" 448), DictEntry.mk 124 (.int 124 450) (vS "\\|" 454), DictEntry.mk 94 (.int 94 456) (vS "\\^" 460), DictEntry.mk 36 (.int 36 462) (vS "\\$" 466), DictEntry.mk 92 (.int 92 468) (vS "\\\\" 472), DictEntry.mk 46 (.int 46 474) (vS "\\." 478), DictEntry.mk 38 (.int 38 480) (vS "\\&" 484), DictEntry.mk 126 (.int 126 486) (vS "\\~" 490), DictEntry.mk 35 (.int 35 492) (vS "\\#" 496), DictEntry.mk 32 (.int 32 498) (vS "\\ " 502), DictEntry.mk 9 (.int 9 504) (vS "\\\t" 508), DictEntry.mk 10 (.int 10 510) (vS "\\\n" 514), DictEntry.mk 13 (.int 13 516) (vS "\\\x0d" 520), DictEntry.mk 11 (.int 11 522) (vS "\\\x0b" 526), DictEntry.mk 12 (.int 12 528) (vS "\\\x0c" 532)] 24) #[]
noncomputable def ob70 (P : Params) : Obj := .mk (.type "dict") none (.dict #[] 2) #[]
noncomputable def ob71 (P : Params) : Obj := .mk (.type "StopIteration") none (.fields #[.ref 89, .none, .none, .none, .bool false, .none]) #[]
noncomputable def ob72 (P : Params) : Obj := .mk (.type "dict") none (.dict #[dE P "__name__" 165 (vS "cpy313.graphlib" 563), dE P "__doc__" 166 .none, dE P "__package__" 167 .none, dE P "__loader__" 168 (.builtin "__main__.__loader__#opaque"), dE P "__spec__" 169 .none, dE P "__annotations__" 170 (.ref 6), dE P "__builtins__" 171 (.ref 4), dE P "__file__" 173 (vS "/claim/cut.py" 172), dE P "__cached__" 174 .none, dE P "_sre" 275 (.ref 12), dE P "_wall" 288 (.ref 38), dE P "Entry" 348 (.ref 76), dE P "_twin_re_1" 386 (.ref 85), dE P "_special_chars_map" 534 (.ref 87), dE P "escape" 541 (.ref 97), dE P "_translate" 562 (.ref 104), dE P "_NODE_OUT" 567 (.int (-1) 566), dE P "_NODE_DONE" 570 (.int (-2) 569), dE P "_NodeInfo" 607 (.ref 123)] 19) #[]
noncomputable def ob73 (P : Params) : Obj := .mk .none none (.fields #[.int 2 0, .int 0 0, .ref 37, .int 6 0, .int 0 0, .ref 44, .int 47 0, .int 0 0, .ref 96, .int 54 0, .int 0 0, .ref 103, .int 119 0, .int 0 0, .ref 110]) #[]
noncomputable def ob74 (P : Params) : Obj := .mk (.type "tuple") none (.seq #[vS "pattern" 538]) #[]
noncomputable def ob75 (P : Params) : Obj := .mk .none none (.func (fd "escape" "escape" (tp 7) 0 [] .none .none .none .none none .none .none 0)) #[]
noncomputable def ob76 (P : Params) : Obj := .mk (.type "code") none (.fields #[vS "escape" 535, vS "escape" 536, vS "/claim/cut.py" 537, .int 47 0, .int 1 0, .int 0 0, .int 0 0, .int 3 0, .ref 91, .bool true, .int 276 0, .ref 92, .none, .ref 93, .ref 94, .ref 95, .int 539 0, .int 47 0, vS "/claim/cut.py" 540]) #[]
noncomputable def ob77 (P : Params) : Obj := .mk (.type "function") none (.func (fd "escape" "escape" (tp 7) 3 [] .none .none .none (vS "re" 387) none (.ref 96) .none 0)) #[]
noncomputable def ob78 (P : Params) : Obj := .mk (.type "tuple") none (.seq #[vS "pat" 547, vS "STAR" 548, vS "QUESTION_MARK" 549, vS "res" 550, vS "add" 551, vS "i" 552, vS "n" 553, vS "c" 554, vS "j" 555, vS "stuff" 556, vS "chunks" 557, vS "k" 558, vS "chunk" 559]) #[]
noncomputable def ob79 (P : Params) : Obj := .mk .none none (.func (fd "_translate" "_translate" (tp 9) 0 [] .none .none .none .none none .none .none 0)) #[]
noncomputable def ob80 (P : Params) : Obj := .mk (.type "code") none (.fields #[vS "_translate" 544, vS "_translate" 545, vS "/claim/cut.py" 546, .int 54 0, .int 3 0, .int 0 0, .int 0 0, .int 3 0, .ref 98, .bool true, .int 276 0, .ref 99, .none, .ref 100, .ref 101, .ref 102, .int 560 0, .int 54 0, vS "/claim/cut.py" 561]) #[]
noncomputable def ob81 (P : Params) : Obj := .mk (.type "function") none (.func (fd "_translate" "_translate" (tp 9) 3 [] .none .none .none (vS "cpy313.fnmatch" 542) none (.ref 103) .none 0)) #[]
noncomputable def ob82 (P : Params) : Obj := .mk (.type "dict") none (.dict #[dE P "__module__" 578 (vS "cpy313.graphlib" 563), dE P "__qualname__" 580 (vS "_NodeInfo" 579), dE P "__firstlineno__" 582 (.int 119 581), dE P "__slots__" 586 (.ref 112), dE P "__init__" 594 (.ref 119), dE P "__static_attributes__" 598 (.ref 120)] 6) #[]
noncomputable def ob83 (P : Params) : Obj := .mk .none none (.fields #[.int 122 0, .int 4 0, .ref 118]) #[]
noncomputable def ob84 (P : Params) : Obj := .mk (.type "code") none (.fields #[vS "_NodeInfo" 573, vS "_NodeInfo" 574, vS "/claim/cut.py" 575, .int 119 0, .int 0 0, .int 0 0, .int 0 0, .int 0 0, .ref 108, .bool false, .int 276 0, .ref 109, .none, .none, .none, .none, .int 576 0, .int 119 0, vS "/claim/cut.py" 577]) #[]
noncomputable def ob85 (P : Params) : Obj := .mk (.type "frame") none .plain #[some (.ref 110), some (.ref 3), some (.ref 107), none, some (vS "cpy313.graphlib" 563), none, some (.ref 0)]
noncomputable def ob86 (P : Params) : Obj := .mk (.type "tuple") none (.seq #[vS "node" 583, vS "npredecessors" 584, vS "successors" 585]) #[]
noncomputable def ob87 (P : Params) : Obj := .mk (.type "tuple") none (.seq #[vS "self" 590, vS "node" 591]) #[]
noncomputable def ob88 (P : Params) : Obj := .mk .none none (.func (fd "__init__" "_NodeInfo.__init__" (mp 13 1) 0 [] .none .none .none .none none .none .none 0)) #[]
noncomputable def ob89 (P : Params) : Obj := .mk (.type "code") none (.fields #[vS "__init__" 587, vS "_NodeInfo.__init__" 588, vS "/claim/cut.py" 589, .int 122 0, .int 2 0, .int 0 0, .int 0 0, .int 3 0, .ref 113, .bool true, .int 276 0, .ref 114, .none, .ref 115, .ref 116, .ref 117, .int 592 0, .int 122 0, vS "/claim/cut.py" 593]) #[]
noncomputable def ob90 (P : Params) : Obj := .mk (.type "function") none (.func (fd "__init__" "_NodeInfo.__init__" (mp 13 1) 3 [] .none .none .none (vS "cpy313.graphlib" 563) none (.ref 118) .none 0)) #[]
noncomputable def ob91 (P : Params) : Obj := .mk (.type "tuple") none (.seq #[vS "node" 595, vS "npredecessors" 596, vS "successors" 597]) #[]
noncomputable def ob92 (P : Params) : Obj := .mk (.type "list") none (.seq #[vS "node" 583, vS "npredecessors" 584, vS "successors" 585] 1) #[]
noncomputable def ob93 (P : Params) : Obj := .mk (.type "dict") none (.dict #[dE P "__module__" 578 (vS "cpy313.graphlib" 563), dE P "__firstlineno__" 582 (.int 119 581), dE P "__slots__" 586 (.ref 112), dE P "__init__" 594 (.ref 119), dE P "__static_attributes__" 598 (.ref 120), dE P "node" 600 (.ref 124), dE P "npredecessors" 602 (.ref 125), dE P "successors" 604 (.ref 126), dE P "__doc__" 605 .none] 5) #[]
noncomputable def ob94 (P : Params) : Obj := .mk (.type "type") none (.cls (.mk "_NodeInfo" [.type "object"] [.ref 123, .type "object"] 122 "_NodeInfo" false [Str.ofString "node", Str.ofString "npredecessors", Str.ofString "successors"] [] false none false)) #[none, none, some (vS "_NodeInfo" 571), some (vS "_NodeInfo" 579), some (.builtin "object.__new__"), some (.bool false)]
noncomputable def ob95 (P : Params) : Obj := .mk (.type "member_descriptor") none (.fields #[vS "node" 599, .ref 123, .builtin "proto.slot", .builtin "proto.slot#set", .int 2 0]) #[]
noncomputable def ob96 (P : Params) : Obj := .mk (.type "member_descriptor") none (.fields #[vS "npredecessors" 601, .ref 123, .builtin "proto.slot", .builtin "proto.slot#set", .int 1 0]) #[]
noncomputable def ob97 (P : Params) : Obj := .mk (.type "member_descriptor") none (.fields #[vS "successors" 603, .ref 123, .builtin "proto.slot", .builtin "proto.slot#set", .int 0 0]) #[]
noncomputable def ob98 (P : Params) : Obj := .mk (.type "super") none (.fields #[.ref 123, .ref 123, .ref 123]) #[]
noncomputable def ob99 (P : Params) : Obj := .mk (.type "builtin_function_or_method") none (.fields #[.builtin "object.__init_subclass__", .ref 123]) #[]
noncomputable def ob100 (P : Params) : Obj := .mk (.type "dict") none (.dict #[dE P "__name__" 165 (vS "cpy313.graphlib" 563), dE P "__doc__" 166 .none, dE P "__package__" 167 .none, dE P "__loader__" 168 (.builtin "__main__.__loader__#opaque"), dE P "__spec__" 169 .none, dE P "__annotations__" 170 (.ref 6), dE P "__builtins__" 171 (.ref 4), dE P "__file__" 173 (vS "/claim/cut.py" 172), dE P "__cached__" 174 .none, dE P "_sre" 275 (.ref 12), dE P "_wall" 288 (.ref 38), dE P "Entry" 348 (.ref 76), dE P "_twin_re_1" 386 (.ref 85), dE P "_special_chars_map" 534 (.ref 87), dE P "escape" 541 (.ref 97), dE P "_translate" 562 (.ref 104), dE P "_NODE_OUT" 567 (.int (-1) 566), dE P "_NODE_DONE" 570 (.int (-2) 569), dE P "_NodeInfo" 607 (.ref 123), dE P "CycleError" 625 (.ref 138), dE P "TopologicalSorter" 744 (.ref 220)] 21) #[]
noncomputable def ob101 (P : Params) : Obj := .mk .none none (.fields #[.int 2 0, .int 0 0, .ref 37, .int 6 0, .int 0 0, .ref 44, .int 47 0, .int 0 0, .ref 96, .int 54 0, .int 0 0, .ref 103, .int 119 0, .int 0 0, .ref 110, .int 126 0, .int 0 0, .ref 134, .int 128 0, .int 0 0, .ref 147]) #[]
noncomputable def ob102 (P : Params) : Obj := .mk (.type "tuple") none (.seq #[.type "ValueError"]) #[]
noncomputable def ob103 (P : Params) : Obj := .mk (.type "dict") none (.dict #[dE P "__module__" 615 (vS "cpy313.graphlib" 563), dE P "__qualname__" 617 (vS "CycleError" 616), dE P "__firstlineno__" 619 (.int 126 618), dE P "__static_attributes__" 620 (.ref 136)] 4) #[]
noncomputable def ob104 (P : Params) : Obj := .mk (.type "code") none (.fields #[vS "CycleError" 610, vS "CycleError" 611, vS "/claim/cut.py" 612, .int 126 0, .int 0 0, .int 0 0, .int 0 0, .int 0 0, .ref 132, .bool false, .int 276 0, .ref 133, .none, .none, .none, .none, .int 613 0, .int 126 0, vS "/claim/cut.py" 614]) #[]
noncomputable def ob105 (P : Params) : Obj := .mk (.type "frame") none .plain #[some (.ref 134), some (.ref 3), some (.ref 131), none, some (vS "cpy313.graphlib" 563), none, some (.ref 0)]
noncomputable def ob106 (P : Params) : Obj := .mk (.type "dict") none (.dict #[dE P "__module__" 615 (vS "cpy313.graphlib" 563), dE P "__firstlineno__" 619 (.int 126 618), dE P "__static_attributes__" 620 (.ref 136), dE P "__weakref__" 622 (.ref 139), dE P "__doc__" 623 .none] 3) #[]
noncomputable def ob107 (P : Params) : Obj := .mk (.type "type") none (.cls (.mk "CycleError" [.type "ValueError"] [.ref 138, .type "ValueError", .type "Exception", .type "BaseException", .type "object"] 137 "CycleError" true [] [] false none false)) #[some (.ref 129), none, some (vS "CycleError" 608), some (vS "CycleError" 616), some (.builtin "ValueError.__new__"), some (.bool true)]
noncomputable def ob108 (P : Params) : Obj := .mk (.type "getset_descriptor") none (.fields #[vS "__weakref__" 621, .ref 138, .builtin "ExceptionGroup.__weakref__", .none]) #[]
noncomputable def ob109 (P : Params) : Obj := .mk (.type "super") none (.fields #[.ref 138, .ref 138, .ref 138]) #[]
noncomputable def ob110 (P : Params) : Obj := .mk (.type "builtin_function_or_method") none (.fields #[.builtin "object.__init_subclass__", .ref 138]) #[]
noncomputable def ob111 (P : Params) : Obj := .mk (.type "dict") none (.dict #[dE P "__module__" 633 (vS "cpy313.graphlib" 563), dE P "__qualname__" 635 (vS "TopologicalSorter" 634), dE P "__firstlineno__" 637 (.int 128 636), dE P "__init__" 647 (.ref 156), dE P "_get_nodeinfo" 656 (.ref 163), dE P "add" 668 (.ref 170), dE P "prepare" 674 (.ref 175), dE P "get_ready" 684 (.ref 182), dE P "is_active" 691 (.ref 189), dE P "__bool__" 698 (.ref 196), dE P "done" 712 (.ref 203), dE P "_find_cycle" 725 (.ref 210), dE P "static_order" 732 (.ref 217), dE P "__static_attributes__" 737 (.ref 218)] 14) #[]
noncomputable def ob112 (P : Params) : Obj := .mk .none none (.fields #[.int 130 0, .int 4 0, .ref 155, .int 139 0, .int 4 0, .ref 162, .int 144 0, .int 4 0, .ref 169, .int 153 0, .int 4 0, .ref 174, .int 161 0, .int 4 0, .ref 181, .int 172 0, .int 4 0, .ref 188, .int 177 0, .int 4 0, .ref 195, .int 180 0, .int 4 0, .ref 202, .int 203 0, .int 4 0, .ref 209, .int 232 0, .int 4 0, .ref 216]) #[]
noncomputable def ob113 (P : Params) : Obj := .mk (.type "code") none (.fields #[vS "TopologicalSorter" 628, vS "TopologicalSorter" 629, vS "/claim/cut.py" 630, .int 128 0, .int 0 0, .int 0 0, .int 0 0, .int 0 0, .ref 145, .bool false, .int 276 0, .ref 146, .none, .none, .none, .none, .int 631 0, .int 128 0, vS "/claim/cut.py" 632]) #[]
noncomputable def ob114 (P : Params) : Obj := .mk (.type "frame") none .plain #[some (.ref 147), some (.ref 3), some (.ref 144), none, some (vS "cpy313.graphlib" 563), none, some (.ref 0)]
noncomputable def ob115 (P : Params) : Obj := .mk (.type "tuple") none (.seq #[.none]) #[]
noncomputable def ob116 (P : Params) : Obj := .mk (.type "tuple") none (.seq #[vS "self" 641, vS "graph" 642, vS "node" 643, vS "predecessors" 644]) #[]
noncomputable def ob117 (P : Params) : Obj := .mk .none none (.func (fd "__init__" "TopologicalSorter.__init__" (mp 15 0) 0 [] .none .none .none .none none .none .none 0)) #[]
noncomputable def ob118 (P : Params) : Obj := .mk (.type "code") none (.fields #[vS "__init__" 638, vS "TopologicalSorter.__init__" 639, vS "/claim/cut.py" 640, .int 130 0, .int 2 0, .int 0 0, .int 0 0, .int 3 0, .ref 150, .bool true, .int 276 0, .ref 151, .none, .ref 152, .ref 153, .ref 154, .int 645 0, .int 130 0, vS "/claim/cut.py" 646]) #[]
noncomputable def ob119 (P : Params) : Obj := .mk (.type "function") none (.func (fd "__init__" "TopologicalSorter.__init__" (mp 15 0) 3 [] (.ref 149) .none .none (vS "cpy313.graphlib" 563) none (.ref 155) .none 0)) #[]
noncomputable def ob120 (P : Params) : Obj := .mk (.type "tuple") none (.seq #[vS "self" 651, vS "node" 652, vS "result" 653]) #[]
noncomputable def ob121 (P : Params) : Obj := .mk .none none (.func (fd "_get_nodeinfo" "TopologicalSorter._get_nodeinfo" (mp 15 1) 0 [] .none .none .none .none none .none .none 0)) #[]
noncomputable def ob122 (P : Params) : Obj := .mk (.type "code") none (.fields #[vS "_get_nodeinfo" 648, vS "TopologicalSorter._get_nodeinfo" 649, vS "/claim/cut.py" 650, .int 139 0, .int 2 0, .int 0 0, .int 0 0, .int 3 0, .ref 157, .bool true, .int 276 0, .ref 158, .none, .ref 159, .ref 160, .ref 161, .int 654 0, .int 139 0, vS "/claim/cut.py" 655]) #[]
noncomputable def ob123 (P : Params) : Obj := .mk (.type "function") none (.func (fd "_get_nodeinfo" "TopologicalSorter._get_nodeinfo" (mp 15 1) 3 [] .none .none .none (vS "cpy313.graphlib" 563) none (.ref 162) .none 0)) #[]
noncomputable def ob124 (P : Params) : Obj := .mk (.type "tuple") none (.seq #[vS "self" 660, vS "node" 661, vS "predecessors" 662, vS "nodeinfo" 663, vS "pred" 664, vS "pred_info" 665]) #[]
noncomputable def ob125 (P : Params) : Obj := .mk .none none (.func (fd "add" "TopologicalSorter.add" (mp 15 2) 0 [] .none .none .none .none none .none .none 0)) #[]
noncomputable def ob126 (P : Params) : Obj := .mk (.type "code") none (.fields #[vS "add" 657, vS "TopologicalSorter.add" 658, vS "/claim/cut.py" 659, .int 144 0, .int 2 0, .int 0 0, .int 0 0, .int 7 0, .ref 164, .bool true, .int 276 0, .ref 165, .none, .ref 166, .ref 167, .ref 168, .int 666 0, .int 144 0, vS "/claim/cut.py" 667]) #[]
noncomputable def ob127 (P : Params) : Obj := .mk (.type "function") none (.func (fd "add" "TopologicalSorter.add" (mp 15 2) 3 [] .none .none .none (vS "cpy313.graphlib" 563) none (.ref 169) .none 0)) #[]
noncomputable def ob128 (P : Params) : Obj := .mk .none none (.func (fd "prepare" "TopologicalSorter.prepare" (mp 15 3) 0 [] .none .none .none .none none .none .none 0)) #[]
noncomputable def ob129 (P : Params) : Obj := .mk (.type "code") none (.fields #[vS "prepare" 669, vS "TopologicalSorter.prepare" 670, vS "/claim/cut.py" 671, .int 153 0, .int 1 0, .int 0 0, .int 0 0, .int 3 0, .ref 171, .bool true, .int 276 0, .ref 172, .none, .none, .none, .ref 173, .int 672 0, .int 153 0, vS "/claim/cut.py" 673]) #[]
noncomputable def ob130 (P : Params) : Obj := .mk (.type "function") none (.func (fd "prepare" "TopologicalSorter.prepare" (mp 15 3) 3 [] .none .none .none (vS "cpy313.graphlib" 563) none (.ref 174) .none 0)) #[]
noncomputable def ob131 (P : Params) : Obj := .mk (.type "tuple") none (.seq #[vS "self" 678, vS "result" 679, vS "n2i" 680, vS "node" 681]) #[]
noncomputable def ob132 (P : Params) : Obj := .mk .none none (.func (fd "get_ready" "TopologicalSorter.get_ready" (mp 15 4) 0 [] .none .none .none .none none .none .none 0)) #[]
noncomputable def ob133 (P : Params) : Obj := .mk (.type "code") none (.fields #[vS "get_ready" 675, vS "TopologicalSorter.get_ready" 676, vS "/claim/cut.py" 677, .int 161 0, .int 1 0, .int 0 0, .int 0 0, .int 3 0, .ref 176, .bool true, .int 276 0, .ref 177, .none, .ref 178, .ref 179, .ref 180, .int 682 0, .int 161 0, vS "/claim/cut.py" 683]) #[]
noncomputable def ob134 (P : Params) : Obj := .mk (.type "function") none (.func (fd "get_ready" "TopologicalSorter.get_ready" (mp 15 4) 3 [] .none .none .none (vS "cpy313.graphlib" 563) none (.ref 181) .none 0)) #[]
noncomputable def ob135 (P : Params) : Obj := .mk (.type "tuple") none (.seq #[vS "self" 688]) #[]
noncomputable def ob136 (P : Params) : Obj := .mk .none none (.func (fd "is_active" "TopologicalSorter.is_active" (mp 15 5) 0 [] .none .none .none .none none .none .none 0)) #[]
noncomputable def ob137 (P : Params) : Obj := .mk (.type "code") none (.fields #[vS "is_active" 685, vS "TopologicalSorter.is_active" 686, vS "/claim/cut.py" 687, .int 172 0, .int 1 0, .int 0 0, .int 0 0, .int 3 0, .ref 183, .bool true, .int 276 0, .ref 184, .none, .ref 185, .ref 186, .ref 187, .int 689 0, .int 172 0, vS "/claim/cut.py" 690]) #[]
noncomputable def ob138 (P : Params) : Obj := .mk (.type "function") none (.func (fd "is_active" "TopologicalSorter.is_active" (mp 15 5) 3 [] .none .none .none (vS "cpy313.graphlib" 563) none (.ref 188) .none 0)) #[]
noncomputable def ob139 (P : Params) : Obj := .mk (.type "tuple") none (.seq #[vS "self" 695]) #[]
noncomputable def ob140 (P : Params) : Obj := .mk .none none (.func (fd "__bool__" "TopologicalSorter.__bool__" (mp 15 6) 0 [] .none .none .none .none none .none .none 0)) #[]
noncomputable def ob141 (P : Params) : Obj := .mk (.type "code") none (.fields #[vS "__bool__" 692, vS "TopologicalSorter.__bool__" 693, vS "/claim/cut.py" 694, .int 177 0, .int 1 0, .int 0 0, .int 0 0, .int 3 0, .ref 190, .bool true, .int 276 0, .ref 191, .none, .ref 192, .ref 193, .ref 194, .int 696 0, .int 177 0, vS "/claim/cut.py" 697]) #[]
noncomputable def ob142 (P : Params) : Obj := .mk (.type "function") none (.func (fd "__bool__" "TopologicalSorter.__bool__" (mp 15 6) 3 [] .none .none .none (vS "cpy313.graphlib" 563) none (.ref 195) .none 0)) #[]
noncomputable def ob143 (P : Params) : Obj := .mk (.type "tuple") none (.seq #[vS "self" 702, vS "nodes" 703, vS "n2i" 704, vS "node" 705, vS "nodeinfo" 706, vS "stat" 707, vS "successor" 708, vS "successor_info" 709]) #[]
noncomputable def ob144 (P : Params) : Obj := .mk .none none (.func (fd "done" "TopologicalSorter.done" (mp 15 7) 0 [] .none .none .none .none none .none .none 0)) #[]
noncomputable def ob145 (P : Params) : Obj := .mk (.type "code") none (.fields #[vS "done" 699, vS "TopologicalSorter.done" 700, vS "/claim/cut.py" 701, .int 180 0, .int 1 0, .int 0 0, .int 0 0, .int 7 0, .ref 197, .bool true, .int 276 0, .ref 198, .none, .ref 199, .ref 200, .ref 201, .int 710 0, .int 180 0, vS "/claim/cut.py" 711]) #[]
noncomputable def ob146 (P : Params) : Obj := .mk (.type "function") none (.func (fd "done" "TopologicalSorter.done" (mp 15 7) 3 [] .none .none .none (vS "cpy313.graphlib" 563) none (.ref 202) .none 0)) #[]
noncomputable def ob147 (P : Params) : Obj := .mk (.type "tuple") none (.seq #[vS "self" 716, vS "n2i" 717, vS "stack" 718, vS "itstack" 719, vS "seen" 720, vS "node2stacki" 721, vS "node" 722]) #[]
noncomputable def ob148 (P : Params) : Obj := .mk .none none (.func (fd "_find_cycle" "TopologicalSorter._find_cycle" (mp 15 8) 0 [] .none .none .none .none none .none .none 0)) #[]
noncomputable def ob149 (P : Params) : Obj := .mk (.type "code") none (.fields #[vS "_find_cycle" 713, vS "TopologicalSorter._find_cycle" 714, vS "/claim/cut.py" 715, .int 203 0, .int 1 0, .int 0 0, .int 0 0, .int 3 0, .ref 204, .bool true, .int 276 0, .ref 205, .none, .ref 206, .ref 207, .ref 208, .int 723 0, .int 203 0, vS "/claim/cut.py" 724]) #[]
noncomputable def ob150 (P : Params) : Obj := .mk (.type "function") none (.func (fd "_find_cycle" "TopologicalSorter._find_cycle" (mp 15 8) 3 [] .none .none .none (vS "cpy313.graphlib" 563) none (.ref 209) .none 0)) #[]
noncomputable def ob151 (P : Params) : Obj := .mk (.type "tuple") none (.seq #[vS "self" 729]) #[]
noncomputable def ob152 (P : Params) : Obj := .mk .none none (.func (fd "static_order" "TopologicalSorter.static_order" (mp 15 9) 0 [] .none .none .none .none none .none .none 0)) #[]
noncomputable def ob153 (P : Params) : Obj := .mk (.type "code") none (.fields #[vS "static_order" 726, vS "TopologicalSorter.static_order" 727, vS "/claim/cut.py" 728, .int 232 0, .int 1 0, .int 0 0, .int 0 0, .int 3 0, .ref 211, .bool true, .int 276 0, .ref 212, .none, .ref 213, .ref 214, .ref 215, .int 730 0, .int 232 0, vS "/claim/cut.py" 731]) #[]
noncomputable def ob154 (P : Params) : Obj := .mk (.type "function") none (.func (fd "static_order" "TopologicalSorter.static_order" (mp 15 9) 3 [] .none .none .none (vS "cpy313.graphlib" 563) none (.ref 216) .none 0)) #[]
noncomputable def ob155 (P : Params) : Obj := .mk (.type "tuple") none (.seq #[vS "_nfinished" 733, vS "_node2info" 734, vS "_npassedout" 735, vS "_ready_nodes" 736]) #[]
noncomputable def ob156 (P : Params) : Obj := .mk (.type "dict") none (.dict #[dE P "__module__" 633 (vS "cpy313.graphlib" 563), dE P "__firstlineno__" 637 (.int 128 636), dE P "__init__" 647 (.ref 156), dE P "_get_nodeinfo" 656 (.ref 163), dE P "add" 668 (.ref 170), dE P "prepare" 674 (.ref 175), dE P "get_ready" 684 (.ref 182), dE P "is_active" 691 (.ref 189), dE P "__bool__" 698 (.ref 196), dE P "done" 712 (.ref 203), dE P "_find_cycle" 725 (.ref 210), dE P "static_order" 732 (.ref 217), dE P "__static_attributes__" 737 (.ref 218), dE P "__dict__" 739 (.ref 221), dE P "__weakref__" 741 (.ref 222), dE P "__doc__" 742 .none] 4) #[]
noncomputable def ob157 (P : Params) : Obj := .mk (.type "type") none (.cls (.mk "TopologicalSorter" [.type "object"] [.ref 220, .type "object"] 219 "TopologicalSorter" true [] [] false none false)) #[none, none, some (vS "TopologicalSorter" 626), some (vS "TopologicalSorter" 634), some (.builtin "object.__new__"), some (.bool true)]
noncomputable def ob158 (P : Params) : Obj := .mk (.type "getset_descriptor") none (.fields #[vS "__dict__" 738, .ref 220, .builtin "function.__dict__", .builtin "function.__dict__#set"]) #[]
noncomputable def ob159 (P : Params) : Obj := .mk (.type "getset_descriptor") none (.fields #[vS "__weakref__" 740, .ref 220, .builtin "ExceptionGroup.__weakref__", .none]) #[]
noncomputable def ob160 (P : Params) : Obj := .mk (.type "super") none (.fields #[.ref 220, .ref 220, .ref 220]) #[]
noncomputable def ob161 (P : Params) : Obj := .mk (.type "builtin_function_or_method") none (.fields #[.builtin "object.__init_subclass__", .ref 220]) #[]
noncomputable def ob162 (P : Params) : Obj := .mk (.type "dict") none (.dict #[dE P "__name__" 165 (vS "law_in0290_01" 745), dE P "__doc__" 166 .none, dE P "__package__" 167 .none, dE P "__loader__" 168 (.builtin "__main__.__loader__#opaque"), dE P "__spec__" 169 .none, dE P "__annotations__" 170 (.ref 6), dE P "__builtins__" 171 (.ref 4), dE P "__file__" 173 (vS "/claim/cut.py" 172), dE P "__cached__" 174 .none, dE P "_sre" 275 (.ref 12), dE P "_wall" 288 (.ref 38), dE P "Entry" 348 (.ref 76), dE P "_twin_re_1" 386 (.ref 85), dE P "_special_chars_map" 534 (.ref 87), dE P "escape" 541 (.ref 97), dE P "_translate" 562 (.ref 104), dE P "_NODE_OUT" 567 (.int (-1) 566), dE P "_NODE_DONE" 570 (.int (-2) 569), dE P "_NodeInfo" 607 (.ref 123), dE P "CycleError" 625 (.ref 138), dE P "TopologicalSorter" 744 (.ref 220), dE P "_law_patterns" 752 (.ref 229), dE P "_law_record" 758 (.ref 234), dE P "_law_sorter" 767 (.ref 241), dE P "_law_refused" 774 (.ref 248), dE P "_law_rounds" 783 (.ref 255), dE P "_law_fits_the_end" 789 (.ref 260), dE P "_law_grown" 795 (.ref 265), dE P "_law_takes" 801 (.ref 270), dE P "_law_endless" 807 (.ref 275), dE P "law" 813 (.ref 280)] 31) #[]
noncomputable def ob163 (P : Params) : Obj := .mk .none none (.fields #[.int 2 0, .int 0 0, .ref 37, .int 6 0, .int 0 0, .ref 44, .int 47 0, .int 0 0, .ref 96, .int 54 0, .int 0 0, .ref 103, .int 119 0, .int 0 0, .ref 110, .int 126 0, .int 0 0, .ref 134, .int 128 0, .int 0 0, .ref 147, .int 235 0, .int 0 0, .ref 228, .int 244 0, .int 0 0, .ref 233, .int 253 0, .int 0 0, .ref 240, .int 262 0, .int 0 0, .ref 247, .int 268 0, .int 0 0, .ref 254, .int 275 0, .int 0 0, .ref 259, .int 280 0, .int 0 0, .ref 264, .int 286 0, .int 0 0, .ref 269, .int 295 0, .int 0 0, .ref 274, .int 302 0, .int 0 0, .ref 279]) #[]
noncomputable def ob164 (P : Params) : Obj := .mk .none none (.func (fd "_law_patterns" "_law_patterns" (tp 17) 0 [] .none .none .none .none none .none .none 0)) #[]
noncomputable def ob165 (P : Params) : Obj := .mk (.type "code") none (.fields #[vS "_law_patterns" 747, vS "_law_patterns" 748, vS "/claim/cut.py" 749, .int 235 0, .int 1 0, .int 0 0, .int 0 0, .int 3 0, .ref 225, .bool true, .int 276 0, .ref 226, .none, .none, .none, .ref 227, .int 750 0, .int 235 0, vS "/claim/cut.py" 751]) #[]
noncomputable def ob166 (P : Params) : Obj := .mk (.type "function") none (.func (fd "_law_patterns" "_law_patterns" (tp 17) 3 [] .none .none .none (vS "law_in0290_01" 745) none (.ref 228) .none 0)) #[]
noncomputable def ob167 (P : Params) : Obj := .mk .none none (.func (fd "_law_record" "_law_record" (tp 18) 0 [] .none .none .none .none none .none .none 0)) #[]
noncomputable def ob168 (P : Params) : Obj := .mk (.type "code") none (.fields #[vS "_law_record" 753, vS "_law_record" 754, vS "/claim/cut.py" 755, .int 244 0, .int 1 0, .int 0 0, .int 0 0, .int 3 0, .ref 230, .bool true, .int 276 0, .ref 231, .none, .none, .none, .ref 232, .int 756 0, .int 244 0, vS "/claim/cut.py" 757]) #[]
noncomputable def ob169 (P : Params) : Obj := .mk (.type "function") none (.func (fd "_law_record" "_law_record" (tp 18) 3 [] .none .none .none (vS "law_in0290_01" 745) none (.ref 233) .none 0)) #[]
noncomputable def ob170 (P : Params) : Obj := .mk (.type "tuple") none (.seq #[vS "record" 762, vS "sorter" 763, vS "word" 764]) #[]
noncomputable def ob171 (P : Params) : Obj := .mk .none none (.func (fd "_law_sorter" "_law_sorter" (tp 19) 0 [] .none .none .none .none none .none .none 0)) #[]
noncomputable def ob172 (P : Params) : Obj := .mk (.type "code") none (.fields #[vS "_law_sorter" 759, vS "_law_sorter" 760, vS "/claim/cut.py" 761, .int 253 0, .int 1 0, .int 0 0, .int 0 0, .int 3 0, .ref 235, .bool true, .int 276 0, .ref 236, .none, .ref 237, .ref 238, .ref 239, .int 765 0, .int 253 0, vS "/claim/cut.py" 766]) #[]
noncomputable def ob173 (P : Params) : Obj := .mk (.type "function") none (.func (fd "_law_sorter" "_law_sorter" (tp 19) 3 [] .none .none .none (vS "law_in0290_01" 745) none (.ref 240) .none 0)) #[]
noncomputable def ob174 (P : Params) : Obj := .mk (.type "tuple") none (.seq #[vS "sorter" 771]) #[]
noncomputable def ob175 (P : Params) : Obj := .mk .none none (.func (fd "_law_refused" "_law_refused" (tp 20) 0 [] .none .none .none .none none .none .none 0)) #[]
noncomputable def ob176 (P : Params) : Obj := .mk (.type "code") none (.fields #[vS "_law_refused" 768, vS "_law_refused" 769, vS "/claim/cut.py" 770, .int 262 0, .int 1 0, .int 0 0, .int 0 0, .int 3 0, .ref 242, .bool true, .int 276 0, .ref 243, .none, .ref 244, .ref 245, .ref 246, .int 772 0, .int 262 0, vS "/claim/cut.py" 773]) #[]
noncomputable def ob177 (P : Params) : Obj := .mk (.type "function") none (.func (fd "_law_refused" "_law_refused" (tp 20) 3 [] .none .none .none (vS "law_in0290_01" 745) none (.ref 247) .none 0)) #[]
noncomputable def ob178 (P : Params) : Obj := .mk (.type "tuple") none (.seq #[vS "sorter" 778, vS "rounds" 779, vS "words" 780]) #[]
noncomputable def ob179 (P : Params) : Obj := .mk .none none (.func (fd "_law_rounds" "_law_rounds" (tp 21) 0 [] .none .none .none .none none .none .none 0)) #[]
noncomputable def ob180 (P : Params) : Obj := .mk (.type "code") none (.fields #[vS "_law_rounds" 775, vS "_law_rounds" 776, vS "/claim/cut.py" 777, .int 268 0, .int 1 0, .int 0 0, .int 0 0, .int 3 0, .ref 249, .bool true, .int 276 0, .ref 250, .none, .ref 251, .ref 252, .ref 253, .int 781 0, .int 268 0, vS "/claim/cut.py" 782]) #[]
noncomputable def ob181 (P : Params) : Obj := .mk (.type "function") none (.func (fd "_law_rounds" "_law_rounds" (tp 21) 3 [] .none .none .none (vS "law_in0290_01" 745) none (.ref 254) .none 0)) #[]
noncomputable def ob182 (P : Params) : Obj := .mk .none none (.func (fd "_law_fits_the_end" "_law_fits_the_end" (tp 22) 0 [] .none .none .none .none none .none .none 0)) #[]
noncomputable def ob183 (P : Params) : Obj := .mk (.type "code") none (.fields #[vS "_law_fits_the_end" 784, vS "_law_fits_the_end" 785, vS "/claim/cut.py" 786, .int 275 0, .int 2 0, .int 0 0, .int 0 0, .int 3 0, .ref 256, .bool true, .int 276 0, .ref 257, .none, .none, .none, .ref 258, .int 787 0, .int 275 0, vS "/claim/cut.py" 788]) #[]
noncomputable def ob184 (P : Params) : Obj := .mk (.type "function") none (.func (fd "_law_fits_the_end" "_law_fits_the_end" (tp 22) 3 [] .none .none .none (vS "law_in0290_01" 745) none (.ref 259) .none 0)) #[]
noncomputable def ob185 (P : Params) : Obj := .mk .none none (.func (fd "_law_grown" "_law_grown" (tp 23) 0 [] .none .none .none .none none .none .none 0)) #[]
noncomputable def ob186 (P : Params) : Obj := .mk (.type "code") none (.fields #[vS "_law_grown" 790, vS "_law_grown" 791, vS "/claim/cut.py" 792, .int 280 0, .int 1 0, .int 0 0, .int 0 0, .int 3 0, .ref 261, .bool true, .int 276 0, .ref 262, .none, .none, .none, .ref 263, .int 793 0, .int 280 0, vS "/claim/cut.py" 794]) #[]
noncomputable def ob187 (P : Params) : Obj := .mk (.type "function") none (.func (fd "_law_grown" "_law_grown" (tp 23) 3 [] .none .none .none (vS "law_in0290_01" 745) none (.ref 264) .none 0)) #[]
noncomputable def ob188 (P : Params) : Obj := .mk .none none (.func (fd "_law_takes" "_law_takes" (tp 24) 0 [] .none .none .none .none none .none .none 0)) #[]
noncomputable def ob189 (P : Params) : Obj := .mk (.type "code") none (.fields #[vS "_law_takes" 796, vS "_law_takes" 797, vS "/claim/cut.py" 798, .int 286 0, .int 2 0, .int 0 0, .int 0 0, .int 3 0, .ref 266, .bool true, .int 276 0, .ref 267, .none, .none, .none, .ref 268, .int 799 0, .int 286 0, vS "/claim/cut.py" 800]) #[]
noncomputable def ob190 (P : Params) : Obj := .mk (.type "function") none (.func (fd "_law_takes" "_law_takes" (tp 24) 3 [] .none .none .none (vS "law_in0290_01" 745) none (.ref 269) .none 0)) #[]
noncomputable def ob191 (P : Params) : Obj := .mk .none none (.func (fd "_law_endless" "_law_endless" (tp 25) 0 [] .none .none .none .none none .none .none 0)) #[]
noncomputable def ob192 (P : Params) : Obj := .mk (.type "code") none (.fields #[vS "_law_endless" 802, vS "_law_endless" 803, vS "/claim/cut.py" 804, .int 295 0, .int 1 0, .int 0 0, .int 0 0, .int 3 0, .ref 271, .bool true, .int 276 0, .ref 272, .none, .none, .none, .ref 273, .int 805 0, .int 295 0, vS "/claim/cut.py" 806]) #[]
noncomputable def ob193 (P : Params) : Obj := .mk (.type "function") none (.func (fd "_law_endless" "_law_endless" (tp 25) 3 [] .none .none .none (vS "law_in0290_01" 745) none (.ref 274) .none 0)) #[]
noncomputable def ob194 (P : Params) : Obj := .mk .none none (.func (fd "law" "law" (tp 26) 0 [] .none .none .none .none none .none .none 0)) #[]
noncomputable def ob195 (P : Params) : Obj := .mk (.type "code") none (.fields #[vS "law" 808, vS "law" 809, vS "/claim/cut.py" 810, .int 302 0, .int 1 0, .int 0 0, .int 0 0, .int 3 0, .ref 276, .bool true, .int 276 0, .ref 277, .none, .none, .none, .ref 278, .int 811 0, .int 302 0, vS "/claim/cut.py" 812]) #[]
noncomputable def ob196 (P : Params) : Obj := .mk (.type "function") none (.func (fd "law" "law" (tp 26) 3 [] .none .none .none (vS "law_in0290_01" 745) none (.ref 279) .none 0)) #[]
noncomputable def tr1 (P : Params) : BT := (.node (boot_o_0 P) (.node (ob1 P) (.node (ob3 P) (.node (boot_o_7 P) (.node (boot_o_7 P) (.node (ob28 P) .nil .nil) .nil) (.node (ob22 P) .nil .nil)) (.node (ob11 P) (.node (ob18 P) .nil .nil) (.node (ob26 P) .nil .nil))) (.node (boot_o_5 P) (.node (boot_o_9 P) (.node (ob16 P) .nil .nil) (.node (ob24 P) .nil .nil)) (.node (ob13 P) (.node (ob20 P) .nil .nil) (.node (boot_o_8 P) .nil .nil)))) (.node (ob2 P) (.node (boot_o_4 P) (.node (boot_o_8 P) (.node (ob15 P) .nil .nil) (.node (ob23 P) .nil .nil)) (.node (ob12 P) (.node (ob19 P) .nil .nil) (.node (boot_o_7 P) .nil .nil))) (.node (boot_o_6 P) (.node (boot_o_10 P) (.node (ob17 P) .nil .nil) (.node (ob25 P) .nil .nil)) (.node (ob14 P) (.node (ob21 P) .nil .nil) (.node (ob27 P) .nil .nil)))))
noncomputable def tr2 (P : Params) : BT := (.node (boot_o_0 P) (.node (ob1 P) (.node (ob29 P) (.node (boot_o_7 P) (.node (boot_o_7 P) (.node (ob28 P) (.node (boot_o_7 P) .nil .nil) .nil) (.node (boot_o_8 P) (.node (ob61 P) .nil .nil) .nil)) (.node (ob22 P) (.node (boot_o_7 P) (.node (ob53 P) .nil .nil) .nil) (.node (ob44 P) .nil .nil))) (.node (ob11 P) (.node (ob18 P) (.node (boot_o_7 P) (.node (boot_o_7 P) .nil .nil) .nil) (.node (ob42 P) (.node (ob64 P) .nil .nil) .nil)) (.node (ob26 P) (.node (ob37 P) (.node (ob57 P) .nil .nil) .nil) (.node (ob47 P) .nil .nil)))) (.node (boot_o_5 P) (.node (boot_o_9 P) (.node (ob16 P) (.node (boot_o_8 P) (.node (ob50 P) .nil .nil) .nil) (.node (boot_o_7 P) (.node (ob63 P) .nil .nil) .nil)) (.node (ob24 P) (.node (ob36 P) (.node (ob55 P) .nil .nil) .nil) (.node (ob45 P) .nil .nil))) (.node (ob13 P) (.node (ob20 P) (.node (ob33 P) (.node (ob52 P) .nil .nil) .nil) (.node (boot_o_7 P) (.node (ob66 P) .nil .nil) .nil)) (.node (ob30 P) (.node (ob39 P) (.node (ob59 P) .nil .nil) .nil) (.node (boot_o_8 P) .nil .nil))))) (.node (ob2 P) (.node (boot_o_4 P) (.node (boot_o_8 P) (.node (ob15 P) (.node (boot_o_7 P) (.node (ob49 P) .nil .nil) .nil) (.node (ob40 P) (.node (ob62 P) .nil .nil) .nil)) (.node (ob23 P) (.node (ob35 P) (.node (ob54 P) .nil .nil) .nil) (.node (boot_o_7 P) .nil .nil))) (.node (ob12 P) (.node (ob19 P) (.node (ob32 P) (.node (boot_o_8 P) .nil .nil) .nil) (.node (ob43 P) (.node (ob65 P) .nil .nil) .nil)) (.node (boot_o_7 P) (.node (ob38 P) (.node (ob58 P) .nil .nil) .nil) (.node (boot_o_7 P) .nil .nil)))) (.node (boot_o_6 P) (.node (boot_o_10 P) (.node (ob17 P) (.node (ob31 P) (.node (ob51 P) .nil .nil) .nil) (.node (ob41 P) (.node (boot_o_6 P) .nil .nil) .nil)) (.node (ob25 P) (.node (boot_o_7 P) (.node (ob56 P) .nil .nil) .nil) (.node (ob46 P) .nil .nil))) (.node (ob14 P) (.node (ob21 P) (.node (ob34 P) (.node (boot_o_7 P) .nil .nil) .nil) (.node (boot_o_8 P) .nil .nil)) (.node (ob27 P) (.node (boot_o_7 P) (.node (ob60 P) .nil .nil) .nil) (.node (ob48 P) .nil .nil))))))
noncomputable def tr3 (P : Params) : BT := (.node (boot_o_0 P) (.node (ob1 P) (.node (ob67 P) (.node (boot_o_7 P) (.node (boot_o_7 P) (.node (ob28 P) (.node (boot_o_7 P) .nil .nil) .nil) (.node (boot_o_8 P) (.node (ob61 P) .nil .nil) .nil)) (.node (ob22 P) (.node (boot_o_7 P) (.node (ob53 P) .nil .nil) .nil) (.node (ob44 P) (.node (ob69 P) .nil .nil) .nil))) (.node (ob11 P) (.node (ob18 P) (.node (boot_o_7 P) (.node (boot_o_7 P) .nil .nil) .nil) (.node (ob42 P) (.node (ob64 P) .nil .nil) .nil)) (.node (ob26 P) (.node (ob37 P) (.node (ob57 P) .nil .nil) .nil) (.node (ob47 P) .nil .nil)))) (.node (boot_o_5 P) (.node (boot_o_9 P) (.node (ob16 P) (.node (boot_o_8 P) (.node (ob50 P) .nil .nil) .nil) (.node (boot_o_7 P) (.node (ob63 P) .nil .nil) .nil)) (.node (ob24 P) (.node (ob36 P) (.node (ob55 P) .nil .nil) .nil) (.node (ob45 P) (.node (boot_o_7 P) .nil .nil) .nil))) (.node (ob13 P) (.node (ob20 P) (.node (ob33 P) (.node (ob52 P) .nil .nil) .nil) (.node (boot_o_7 P) (.node (ob66 P) .nil .nil) .nil)) (.node (ob30 P) (.node (ob39 P) (.node (ob59 P) .nil .nil) .nil) (.node (boot_o_8 P) .nil .nil))))) (.node (ob2 P) (.node (boot_o_4 P) (.node (boot_o_8 P) (.node (ob15 P) (.node (boot_o_7 P) (.node (ob49 P) .nil .nil) .nil) (.node (ob40 P) (.node (ob62 P) .nil .nil) .nil)) (.node (ob23 P) (.node (ob35 P) (.node (ob54 P) .nil .nil) .nil) (.node (boot_o_7 P) (.node (ob70 P) .nil .nil) .nil))) (.node (ob12 P) (.node (ob19 P) (.node (ob32 P) (.node (boot_o_8 P) .nil .nil) .nil) (.node (ob43 P) (.node (ob65 P) .nil .nil) .nil)) (.node (boot_o_7 P) (.node (ob38 P) (.node (ob58 P) .nil .nil) .nil) (.node (boot_o_7 P) .nil .nil)))) (.node (boot_o_6 P) (.node (boot_o_10 P) (.node (ob17 P) (.node (ob31 P) (.node (ob51 P) .nil .nil) .nil) (.node (ob41 P) (.node (boot_o_6 P) .nil .nil) .nil)) (.node (ob25 P) (.node (boot_o_7 P) (.node (ob56 P) .nil .nil) .nil) (.node (ob46 P) (.node (ob71 P) .nil .nil) .nil))) (.node (ob14 P) (.node (ob21 P) (.node (ob34 P) (.node (boot_o_7 P) .nil .nil) .nil) (.node (boot_o_8 P) (.node (ob68 P) .nil .nil) .nil)) (.node (ob27 P) (.node (boot_o_7 P) (.node (ob60 P) .nil .nil) .nil) (.node (ob48 P) .nil .nil))))))
noncomputable def tr4 (P : Params) : BT := (.node (boot_o_0 P) (.node (ob1 P) (.node (ob72 P) (.node (boot_o_7 P) (.node (boot_o_7 P) (.node (ob28 P) (.node (boot_o_7 P) (.node (ob98 P) .nil .nil) .nil) (.node (ob75 P) .nil .nil)) (.node (boot_o_8 P) (.node (ob61 P) .nil .nil) (.node (ob85 P) .nil .nil))) (.node (ob22 P) (.node (boot_o_7 P) (.node (ob53 P) .nil .nil) (.node (ob80 P) .nil .nil)) (.node (ob44 P) (.node (ob69 P) .nil .nil) (.node (ob90 P) .nil .nil)))) (.node (ob11 P) (.node (ob18 P) (.node (boot_o_7 P) (.node (boot_o_7 P) .nil .nil) (.node (boot_o_8 P) .nil .nil)) (.node (ob42 P) (.node (ob64 P) .nil .nil) (.node (ob87 P) .nil .nil))) (.node (ob26 P) (.node (ob37 P) (.node (ob57 P) .nil .nil) (.node (ob82 P) .nil .nil)) (.node (ob47 P) (.node (boot_o_7 P) .nil .nil) (.node (ob94 P) .nil .nil))))) (.node (boot_o_5 P) (.node (boot_o_9 P) (.node (ob16 P) (.node (boot_o_8 P) (.node (ob50 P) .nil .nil) (.node (ob77 P) .nil .nil)) (.node (boot_o_7 P) (.node (ob63 P) .nil .nil) (.node (boot_o_7 P) .nil .nil))) (.node (ob24 P) (.node (ob36 P) (.node (ob55 P) .nil .nil) (.node (boot_o_7 P) .nil .nil)) (.node (ob45 P) (.node (boot_o_7 P) .nil .nil) (.node (ob92 P) .nil .nil)))) (.node (ob13 P) (.node (ob20 P) (.node (ob33 P) (.node (ob52 P) .nil .nil) (.node (boot_o_7 P) .nil .nil)) (.node (boot_o_7 P) (.node (ob66 P) .nil .nil) (.node (ob88 P) .nil .nil))) (.node (ob73 P) (.node (ob39 P) (.node (ob59 P) .nil .nil) (.node (ob83 P) .nil .nil)) (.node (boot_o_8 P) (.node (ob74 P) .nil .nil) (.node (ob96 P) .nil .nil)))))) (.node (ob2 P) (.node (boot_o_4 P) (.node (boot_o_8 P) (.node (ob15 P) (.node (boot_o_7 P) (.node (ob49 P) (.node (ob99 P) .nil .nil) .nil) (.node (ob76 P) .nil .nil)) (.node (ob40 P) (.node (ob62 P) .nil .nil) (.node (ob86 P) .nil .nil))) (.node (ob23 P) (.node (ob35 P) (.node (ob54 P) .nil .nil) (.node (ob81 P) .nil .nil)) (.node (boot_o_7 P) (.node (ob70 P) .nil .nil) (.node (ob91 P) .nil .nil)))) (.node (ob12 P) (.node (ob19 P) (.node (ob32 P) (.node (boot_o_8 P) .nil .nil) (.node (ob78 P) .nil .nil)) (.node (ob43 P) (.node (ob65 P) .nil .nil) (.node (boot_o_7 P) .nil .nil))) (.node (boot_o_7 P) (.node (ob38 P) (.node (ob58 P) .nil .nil) (.node (boot_o_7 P) .nil .nil)) (.node (boot_o_7 P) (.node (boot_o_8 P) .nil .nil) (.node (ob95 P) .nil .nil))))) (.node (boot_o_6 P) (.node (boot_o_10 P) (.node (ob17 P) (.node (ob31 P) (.node (ob51 P) .nil .nil) (.node (boot_o_7 P) .nil .nil)) (.node (ob41 P) (.node (boot_o_6 P) .nil .nil) (.node (boot_o_8 P) .nil .nil))) (.node (ob25 P) (.node (boot_o_7 P) (.node (ob56 P) .nil .nil) (.node (ob35 P) .nil .nil)) (.node (ob46 P) (.node (ob71 P) .nil .nil) (.node (ob93 P) .nil .nil)))) (.node (ob14 P) (.node (ob21 P) (.node (ob34 P) (.node (boot_o_7 P) .nil .nil) (.node (ob79 P) .nil .nil)) (.node (boot_o_8 P) (.node (ob68 P) .nil .nil) (.node (ob89 P) .nil .nil))) (.node (ob27 P) (.node (boot_o_7 P) (.node (ob60 P) .nil .nil) (.node (ob84 P) .nil .nil)) (.node (ob48 P) (.node (boot_o_7 P) .nil .nil) (.node (ob97 P) .nil .nil)))))))
noncomputable def tr5 (P : Params) : BT := (.node (boot_o_0 P) (.node (ob1 P) (.node (ob100 P) (.node (boot_o_7 P) (.node (boot_o_7 P) (.node (ob28 P) (.node (boot_o_7 P) (.node (ob98 P) .nil .nil) (.node (boot_o_8 P) .nil .nil)) (.node (ob75 P) (.node (ob120 P) .nil .nil) (.node (ob160 P) .nil .nil))) (.node (boot_o_8 P) (.node (ob61 P) (.node (ob35 P) .nil .nil) (.node (boot_o_7 P) .nil .nil)) (.node (ob85 P) (.node (ob130 P) .nil .nil) .nil))) (.node (ob22 P) (.node (boot_o_7 P) (.node (ob53 P) (.node (ob105 P) .nil .nil) (.node (ob143 P) .nil .nil)) (.node (ob80 P) (.node (boot_o_7 P) .nil .nil) .nil)) (.node (ob44 P) (.node (ob69 P) (.node (boot_o_8 P) .nil .nil) (.node (ob152 P) .nil .nil)) (.node (ob90 P) (.node (boot_o_7 P) .nil .nil) .nil)))) (.node (ob11 P) (.node (ob18 P) (.node (boot_o_7 P) (.node (boot_o_7 P) (.node (ob103 P) .nil .nil) (.node (ob141 P) .nil .nil)) (.node (boot_o_8 P) (.node (ob123 P) .nil .nil) .nil)) (.node (ob42 P) (.node (ob64 P) (.node (ob113 P) .nil .nil) (.node (boot_o_7 P) .nil .nil)) (.node (ob87 P) (.node (boot_o_7 P) .nil .nil) .nil))) (.node (ob26 P) (.node (ob37 P) (.node (ob57 P) (.node (ob108 P) .nil .nil) (.node (ob146 P) .nil .nil)) (.node (ob82 P) (.node (boot_o_7 P) .nil .nil) .nil)) (.node (ob47 P) (.node (boot_o_7 P) (.node (ob118 P) .nil .nil) (.node (ob156 P) .nil .nil)) (.node (ob94 P) (.node (ob136 P) .nil .nil) .nil))))) (.node (boot_o_5 P) (.node (boot_o_9 P) (.node (ob16 P) (.node (boot_o_8 P) (.node (ob50 P) (.node (ob102 P) .nil .nil) (.node (boot_o_7 P) .nil .nil)) (.node (ob77 P) (.node (ob121 P) .nil .nil) .nil)) (.node (boot_o_7 P) (.node (ob63 P) (.node (boot_o_7 P) .nil .nil) (.node (ob149 P) .nil .nil)) (.node (boot_o_7 P) (.node (boot_o_8 P) .nil .nil) .nil))) (.node (ob24 P) (.node (ob36 P) (.node (ob55 P) (.node (ob106 P) .nil .nil) (.node (ob144 P) .nil .nil)) (.node (boot_o_7 P) (.node (ob126 P) .nil .nil) .nil)) (.node (ob45 P) (.node (boot_o_7 P) (.node (boot_o_7 P) .nil .nil) (.node (ob154 P) .nil .nil)) (.node (ob92 P) (.node (ob135 P) .nil .nil) .nil)))) (.node (ob13 P) (.node (ob20 P) (.node (ob33 P) (.node (ob52 P) (.node (boot_o_8 P) .nil .nil) (.node (boot_o_7 P) .nil .nil)) (.node (boot_o_7 P) (.node (boot_o_8 P) .nil .nil) .nil)) (.node (boot_o_7 P) (.node (ob66 P) (.node (ob115 P) .nil .nil) (.node (ob151 P) .nil .nil)) (.node (ob88 P) (.node (ob133 P) .nil .nil) .nil))) (.node (ob101 P) (.node (ob39 P) (.node (ob59 P) (.node (ob110 P) .nil .nil) (.node (boot_o_8 P) .nil .nil)) (.node (ob83 P) (.node (ob128 P) .nil .nil) .nil)) (.node (boot_o_8 P) (.node (ob74 P) (.node (boot_o_7 P) .nil .nil) (.node (ob158 P) .nil .nil)) (.node (ob96 P) (.node (ob138 P) .nil .nil) .nil)))))) (.node (ob2 P) (.node (boot_o_4 P) (.node (boot_o_8 P) (.node (ob15 P) (.node (boot_o_7 P) (.node (ob49 P) (.node (ob99 P) .nil .nil) (.node (ob139 P) .nil .nil)) (.node (ob76 P) (.node (boot_o_7 P) .nil .nil) (.node (ob161 P) .nil .nil))) (.node (ob40 P) (.node (ob62 P) (.node (ob111 P) .nil .nil) (.node (ob148 P) .nil .nil)) (.node (ob86 P) (.node (boot_o_7 P) .nil .nil) .nil))) (.node (ob23 P) (.node (ob35 P) (.node (ob54 P) (.node (boot_o_7 P) .nil .nil) (.node (boot_o_7 P) .nil .nil)) (.node (ob81 P) (.node (ob125 P) .nil .nil) .nil)) (.node (boot_o_7 P) (.node (ob70 P) (.node (ob116 P) .nil .nil) (.node (ob153 P) .nil .nil)) (.node (ob91 P) (.node (boot_o_8 P) .nil .nil) .nil)))) (.node (ob12 P) (.node (ob19 P) (.node (ob32 P) (.node (boot_o_8 P) (.node (boot_o_7 P) .nil .nil) (.node (ob142 P) .nil .nil)) (.node (ob78 P) (.node (boot_o_7 P) .nil .nil) .nil)) (.node (ob43 P) (.node (ob65 P) (.node (ob114 P) .nil .nil) (.node (boot_o_8 P) .nil .nil)) (.node (boot_o_7 P) (.node (ob132 P) .nil .nil) .nil))) (.node (boot_o_7 P) (.node (ob38 P) (.node (ob58 P) (.node (ob109 P) .nil .nil) (.node (boot_o_7 P) .nil .nil)) (.node (boot_o_7 P) (.node (boot_o_8 P) .nil .nil) .nil)) (.node (boot_o_7 P) (.node (boot_o_8 P) (.node (ob119 P) .nil .nil) (.node (ob157 P) .nil .nil)) (.node (ob95 P) (.node (ob137 P) .nil .nil) .nil))))) (.node (boot_o_6 P) (.node (boot_o_10 P) (.node (ob17 P) (.node (ob31 P) (.node (ob51 P) (.node (ob35 P) .nil .nil) (.node (ob140 P) .nil .nil)) (.node (boot_o_7 P) (.node (ob122 P) .nil .nil) .nil)) (.node (ob41 P) (.node (boot_o_6 P) (.node (ob112 P) .nil .nil) (.node (ob150 P) .nil .nil)) (.node (boot_o_8 P) (.node (ob131 P) .nil .nil) .nil))) (.node (ob25 P) (.node (boot_o_7 P) (.node (ob56 P) (.node (ob107 P) .nil .nil) (.node (ob145 P) .nil .nil)) (.node (ob35 P) (.node (ob127 P) .nil .nil) .nil)) (.node (ob46 P) (.node (ob71 P) (.node (ob117 P) .nil .nil) (.node (ob155 P) .nil .nil)) (.node (ob93 P) (.node (boot_o_7 P) .nil .nil) .nil)))) (.node (ob14 P) (.node (ob21 P) (.node (ob34 P) (.node (boot_o_7 P) (.node (ob104 P) .nil .nil) (.node (boot_o_8 P) .nil .nil)) (.node (ob79 P) (.node (ob124 P) .nil .nil) .nil)) (.node (boot_o_8 P) (.node (ob68 P) (.node (boot_o_7 P) .nil .nil) (.node (boot_o_7 P) .nil .nil)) (.node (ob89 P) (.node (ob134 P) .nil .nil) .nil))) (.node (ob27 P) (.node (boot_o_7 P) (.node (ob60 P) (.node (boot_o_7 P) .nil .nil) (.node (ob147 P) .nil .nil)) (.node (ob84 P) (.node (ob129 P) .nil .nil) .nil)) (.node (ob48 P) (.node (boot_o_7 P) (.node (boot_o_8 P) .nil .nil) (.node (ob159 P) .nil .nil)) (.node (ob97 P) (.node (boot_o_7 P) .nil .nil) .nil)))))))
noncomputable def tr6 (P : Params) : BT := (.node (boot_o_0 P) (.node (ob1 P) (.node (ob162 P) (.node (boot_o_7 P) (.node (boot_o_7 P) (.node (ob28 P) (.node (boot_o_7 P) (.node (ob98 P) (.node (ob181 P) .nil .nil) .nil) (.node (boot_o_8 P) .nil .nil)) (.node (ob75 P) (.node (ob120 P) .nil .nil) (.node (ob160 P) .nil .nil))) (.node (boot_o_8 P) (.node (ob61 P) (.node (ob35 P) (.node (boot_o_7 P) .nil .nil) .nil) (.node (boot_o_7 P) .nil .nil)) (.node (ob85 P) (.node (ob130 P) .nil .nil) (.node (ob171 P) .nil .nil)))) (.node (ob22 P) (.node (boot_o_7 P) (.node (ob53 P) (.node (ob105 P) (.node (ob185 P) .nil .nil) .nil) (.node (ob143 P) .nil .nil)) (.node (ob80 P) (.node (boot_o_7 P) .nil .nil) (.node (boot_o_8 P) .nil .nil))) (.node (ob44 P) (.node (ob69 P) (.node (boot_o_8 P) (.node (ob195 P) .nil .nil) .nil) (.node (ob152 P) .nil .nil)) (.node (ob90 P) (.node (boot_o_7 P) .nil .nil) (.node (ob176 P) .nil .nil))))) (.node (ob11 P) (.node (ob18 P) (.node (boot_o_7 P) (.node (boot_o_7 P) (.node (ob103 P) (.node (ob183 P) .nil .nil) .nil) (.node (ob141 P) .nil .nil)) (.node (boot_o_8 P) (.node (ob123 P) .nil .nil) (.node (ob164 P) .nil .nil))) (.node (ob42 P) (.node (ob64 P) (.node (ob113 P) (.node (ob193 P) .nil .nil) .nil) (.node (boot_o_7 P) .nil .nil)) (.node (ob87 P) (.node (boot_o_7 P) .nil .nil) (.node (boot_o_8 P) .nil .nil)))) (.node (ob26 P) (.node (ob37 P) (.node (ob57 P) (.node (ob108 P) (.node (boot_o_8 P) .nil .nil) .nil) (.node (ob146 P) .nil .nil)) (.node (ob82 P) (.node (boot_o_7 P) .nil .nil) (.node (boot_o_7 P) .nil .nil))) (.node (ob47 P) (.node (boot_o_7 P) (.node (ob118 P) .nil .nil) (.node (ob156 P) .nil .nil)) (.node (ob94 P) (.node (ob136 P) .nil .nil) (.node (ob178 P) .nil .nil)))))) (.node (boot_o_5 P) (.node (boot_o_9 P) (.node (ob16 P) (.node (boot_o_8 P) (.node (ob50 P) (.node (ob102 P) (.node (boot_o_8 P) .nil .nil) .nil) (.node (boot_o_7 P) .nil .nil)) (.node (ob77 P) (.node (ob121 P) .nil .nil) (.node (boot_o_7 P) .nil .nil))) (.node (boot_o_7 P) (.node (ob63 P) (.node (boot_o_7 P) (.node (ob191 P) .nil .nil) .nil) (.node (ob149 P) .nil .nil)) (.node (boot_o_7 P) (.node (boot_o_8 P) .nil .nil) (.node (ob173 P) .nil .nil)))) (.node (ob24 P) (.node (ob36 P) (.node (ob55 P) (.node (ob106 P) (.node (ob187 P) .nil .nil) .nil) (.node (ob144 P) .nil .nil)) (.node (boot_o_7 P) (.node (ob126 P) .nil .nil) (.node (ob168 P) .nil .nil))) (.node (ob45 P) (.node (boot_o_7 P) (.node (boot_o_7 P) .nil .nil) (.node (ob154 P) .nil .nil)) (.node (ob92 P) (.node (ob135 P) .nil .nil) (.node (boot_o_7 P) .nil .nil))))) (.node (ob13 P) (.node (ob20 P) (.node (ob33 P) (.node (ob52 P) (.node (boot_o_8 P) (.node (boot_o_7 P) .nil .nil) .nil) (.node (boot_o_7 P) .nil .nil)) (.node (boot_o_7 P) (.node (boot_o_8 P) .nil .nil) (.node (ob166 P) .nil .nil))) (.node (boot_o_7 P) (.node (ob66 P) (.node (ob115 P) (.node (boot_o_8 P) .nil .nil) .nil) (.node (ob151 P) .nil .nil)) (.node (ob88 P) (.node (ob133 P) .nil .nil) (.node (boot_o_7 P) .nil .nil)))) (.node (ob163 P) (.node (ob39 P) (.node (ob59 P) (.node (ob110 P) (.node (ob189 P) .nil .nil) .nil) (.node (boot_o_8 P) .nil .nil)) (.node (ob83 P) (.node (ob128 P) .nil .nil) (.node (ob170 P) .nil .nil))) (.node (boot_o_8 P) (.node (ob74 P) (.node (boot_o_7 P) .nil .nil) (.node (ob158 P) .nil .nil)) (.node (ob96 P) (.node (ob138 P) .nil .nil) (.node (ob179 P) .nil .nil))))))) (.node (ob2 P) (.node (boot_o_4 P) (.node (boot_o_8 P) (.node (ob15 P) (.node (boot_o_7 P) (.node (ob49 P) (.node (ob99 P) (.node (boot_o_7 P) .nil .nil) .nil) (.node (ob139 P) .nil .nil)) (.node (ob76 P) (.node (boot_o_7 P) .nil .nil) (.node (ob161 P) .nil .nil))) (.node (ob40 P) (.node (ob62 P) (.node (ob111 P) (.node (boot_o_8 P) .nil .nil) .nil) (.node (ob148 P) .nil .nil)) (.node (ob86 P) (.node (boot_o_7 P) .nil .nil) (.node (ob172 P) .nil .nil)))) (.node (ob23 P) (.node (ob35 P) (.node (ob54 P) (.node (boot_o_7 P) (.node (ob186 P) .nil .nil) .nil) (.node (boot_o_7 P) .nil .nil)) (.node (ob81 P) (.node (ob125 P) .nil .nil) (.node (ob167 P) .nil .nil))) (.node (boot_o_7 P) (.node (ob70 P) (.node (ob116 P) (.node (ob196 P) .nil .nil) .nil) (.node (ob153 P) .nil .nil)) (.node (ob91 P) (.node (boot_o_8 P) .nil .nil) (.node (ob177 P) .nil .nil))))) (.node (ob12 P) (.node (ob19 P) (.node (ob32 P) (.node (boot_o_8 P) (.node (boot_o_7 P) (.node (ob184 P) .nil .nil) .nil) (.node (ob142 P) .nil .nil)) (.node (ob78 P) (.node (boot_o_7 P) .nil .nil) (.node (ob165 P) .nil .nil))) (.node (ob43 P) (.node (ob65 P) (.node (ob114 P) (.node (boot_o_7 P) .nil .nil) .nil) (.node (boot_o_8 P) .nil .nil)) (.node (boot_o_7 P) (.node (ob132 P) .nil .nil) (.node (ob174 P) .nil .nil)))) (.node (boot_o_7 P) (.node (ob38 P) (.node (ob58 P) (.node (ob109 P) (.node (ob188 P) .nil .nil) .nil) (.node (boot_o_7 P) .nil .nil)) (.node (boot_o_7 P) (.node (boot_o_8 P) .nil .nil) (.node (boot_o_8 P) .nil .nil))) (.node (boot_o_7 P) (.node (boot_o_8 P) (.node (ob119 P) .nil .nil) (.node (ob157 P) .nil .nil)) (.node (ob95 P) (.node (ob137 P) .nil .nil) (.node (boot_o_7 P) .nil .nil)))))) (.node (boot_o_6 P) (.node (boot_o_10 P) (.node (ob17 P) (.node (ob31 P) (.node (ob51 P) (.node (ob35 P) (.node (ob182 P) .nil .nil) .nil) (.node (ob140 P) .nil .nil)) (.node (boot_o_7 P) (.node (ob122 P) .nil .nil) (.node (boot_o_8 P) .nil .nil))) (.node (ob41 P) (.node (boot_o_6 P) (.node (ob112 P) (.node (ob192 P) .nil .nil) .nil) (.node (ob150 P) .nil .nil)) (.node (boot_o_8 P) (.node (ob131 P) .nil .nil) (.node (boot_o_7 P) .nil .nil)))) (.node (ob25 P) (.node (boot_o_7 P) (.node (ob56 P) (.node (ob107 P) (.node (boot_o_7 P) .nil .nil) .nil) (.node (ob145 P) .nil .nil)) (.node (ob35 P) (.node (ob127 P) .nil .nil) (.node (ob169 P) .nil .nil))) (.node (ob46 P) (.node (ob71 P) (.node (ob117 P) .nil .nil) (.node (ob155 P) .nil .nil)) (.node (ob93 P) (.node (boot_o_7 P) .nil .nil) (.node (boot_o_8 P) .nil .nil))))) (.node (ob14 P) (.node (ob21 P) (.node (ob34 P) (.node (boot_o_7 P) (.node (ob104 P) (.node (boot_o_8 P) .nil .nil) .nil) (.node (boot_o_8 P) .nil .nil)) (.node (ob79 P) (.node (ob124 P) .nil .nil) (.node (boot_o_7 P) .nil .nil))) (.node (boot_o_8 P) (.node (ob68 P) (.node (boot_o_7 P) (.node (ob194 P) .nil .nil) .nil) (.node (boot_o_7 P) .nil .nil)) (.node (ob89 P) (.node (ob134 P) .nil .nil) (.node (ob175 P) .nil .nil)))) (.node (ob27 P) (.node (boot_o_7 P) (.node (ob60 P) (.node (boot_o_7 P) (.node (ob190 P) .nil .nil) .nil) (.node (ob147 P) .nil .nil)) (.node (ob84 P) (.node (ob129 P) .nil .nil) (.node (boot_o_7 P) .nil .nil))) (.node (ob48 P) (.node (boot_o_7 P) (.node (boot_o_8 P) .nil .nil) (.node (ob159 P) .nil .nil)) (.node (ob97 P) (.node (boot_o_7 P) .nil .nil) (.node (ob180 P) .nil .nil))))))))
noncomputable def he0 (P : Params) : Heap := { objs := ⟨boot_o_0 P :: ob1 P :: ob2 P :: ob3 P :: boot_o_4 P :: boot_o_5 P :: boot_o_6 P :: boot_o_7 P :: boot_o_8 P :: boot_o_9 P :: boot_o_10 P :: ob11 P :: ob12 P :: ob13 P :: ob14 P :: boot_o_7 P :: ob15 P :: ob16 P :: ob17 P :: ob18 P :: ob19 P :: ob20 P :: ob21 P :: ob22 P :: ob23 P :: ob24 P :: ob25 P :: ob26 P :: []⟩ }
noncomputable def heZ (P : Params) : Heap := { objs := ⟨boot_o_0 P :: ob1 P :: ob2 P :: ob162 P :: boot_o_4 P :: boot_o_5 P :: boot_o_6 P :: boot_o_7 P :: boot_o_8 P :: boot_o_9 P :: boot_o_10 P :: ob11 P :: ob12 P :: ob13 P :: ob14 P :: boot_o_7 P :: ob15 P :: ob16 P :: ob17 P :: ob18 P :: ob19 P :: ob20 P :: ob21 P :: ob22 P :: ob23 P :: ob24 P :: ob25 P :: ob26 P :: boot_o_7 P :: ob163 P :: ob27 P :: ob28 P :: boot_o_7 P :: boot_o_8 P :: ob31 P :: boot_o_7 P :: ob32 P :: ob33 P :: ob34 P :: boot_o_7 P :: ob35 P :: ob36 P :: boot_o_7 P :: ob37 P :: ob38 P :: ob39 P :: boot_o_7 P :: boot_o_8 P :: ob40 P :: boot_o_7 P :: ob41 P :: ob42 P :: ob43 P :: boot_o_7 P :: boot_o_8 P :: ob44 P :: boot_o_7 P :: ob45 P :: ob46 P :: ob47 P :: boot_o_7 P :: boot_o_8 P :: ob48 P :: boot_o_7 P :: ob49 P :: ob50 P :: ob51 P :: boot_o_7 P :: boot_o_8 P :: ob52 P :: boot_o_7 P :: ob53 P :: ob54 P :: ob55 P :: ob56 P :: ob57 P :: ob58 P :: ob59 P :: ob60 P :: ob61 P :: ob62 P :: ob63 P :: boot_o_6 P :: ob64 P :: ob65 P :: ob66 P :: ob68 P :: ob69 P :: ob70 P :: boot_o_7 P :: ob71 P :: boot_o_7 P :: boot_o_8 P :: ob74 P :: boot_o_7 P :: ob75 P :: ob76 P :: ob77 P :: boot_o_7 P :: boot_o_8 P :: ob78 P :: boot_o_7 P :: ob79 P :: ob80 P :: ob81 P :: boot_o_7 P :: ob35 P :: ob82 P :: boot_o_7 P :: ob83 P :: ob84 P :: ob85 P :: ob86 P :: boot_o_7 P :: boot_o_8 P :: ob87 P :: boot_o_7 P :: ob88 P :: ob89 P :: ob90 P :: ob91 P :: ob92 P :: ob93 P :: ob94 P :: ob95 P :: ob96 P :: ob97 P :: ob98 P :: ob99 P :: ob102 P :: ob35 P :: ob103 P :: boot_o_7 P :: boot_o_8 P :: ob104 P :: ob105 P :: boot_o_7 P :: ob106 P :: ob107 P :: ob108 P :: ob109 P :: ob110 P :: boot_o_7 P :: ob35 P :: ob111 P :: boot_o_7 P :: ob112 P :: ob113 P :: ob114 P :: ob115 P :: boot_o_7 P :: boot_o_8 P :: ob116 P :: boot_o_7 P :: ob117 P :: ob118 P :: ob119 P :: boot_o_7 P :: boot_o_8 P :: ob120 P :: boot_o_7 P :: ob121 P :: ob122 P :: ob123 P :: boot_o_7 P :: boot_o_8 P :: ob124 P :: boot_o_7 P :: ob125 P :: ob126 P :: ob127 P :: boot_o_7 P :: boot_o_8 P :: ob128 P :: ob129 P :: ob130 P :: boot_o_7 P :: boot_o_8 P :: ob131 P :: boot_o_7 P :: ob132 P :: ob133 P :: ob134 P :: boot_o_7 P :: boot_o_8 P :: ob135 P :: boot_o_7 P :: ob136 P :: ob137 P :: ob138 P :: boot_o_7 P :: boot_o_8 P :: ob139 P :: boot_o_7 P :: ob140 P :: ob141 P :: ob142 P :: boot_o_7 P :: boot_o_8 P :: ob143 P :: boot_o_7 P :: ob144 P :: ob145 P :: ob146 P :: boot_o_7 P :: boot_o_8 P :: ob147 P :: boot_o_7 P :: ob148 P :: ob149 P :: ob150 P :: boot_o_7 P :: boot_o_8 P :: ob151 P :: boot_o_7 P :: ob152 P :: ob153 P :: ob154 P :: ob155 P :: ob156 P :: ob157 P :: ob158 P :: ob159 P :: ob160 P :: ob161 P :: boot_o_7 P :: boot_o_8 P :: ob164 P :: ob165 P :: ob166 P :: boot_o_7 P :: boot_o_8 P :: ob167 P :: ob168 P :: ob169 P :: boot_o_7 P :: boot_o_8 P :: ob170 P :: boot_o_7 P :: ob171 P :: ob172 P :: ob173 P :: boot_o_7 P :: boot_o_8 P :: ob174 P :: boot_o_7 P :: ob175 P :: ob176 P :: ob177 P :: boot_o_7 P :: boot_o_8 P :: ob178 P :: boot_o_7 P :: ob179 P :: ob180 P :: ob181 P :: boot_o_7 P :: boot_o_8 P :: ob182 P :: ob183 P :: ob184 P :: boot_o_7 P :: boot_o_8 P :: ob185 P :: ob186 P :: ob187 P :: boot_o_7 P :: boot_o_8 P :: ob188 P :: ob189 P :: ob190 P :: boot_o_7 P :: boot_o_8 P :: ob191 P :: ob192 P :: ob193 P :: boot_o_7 P :: boot_o_8 P :: ob194 P :: ob195 P :: ob196 P :: []⟩ }
end Mine
end
section
open PySem PySem.W PyProof.Rows
set_option linter.unusedVariables false
namespace Mine
/-- what is known of the heap where the law begins -/
noncomputable def heapK : Params → Frag := fun P =>
(nat_lit 2, ob2 P) ::
(nat_lit 3, ob162 P) ::
(nat_lit 32, boot_o_7 P) ::
(nat_lit 34, ob31 P) ::
(nat_lit 35, boot_o_7 P) ::
(nat_lit 37, ob33 P) ::
(nat_lit 38, ob34 P) ::
(nat_lit 46, boot_o_7 P) ::
(nat_lit 48, ob40 P) ::
(nat_lit 49, boot_o_7 P) ::
(nat_lit 51, ob42 P) ::
(nat_lit 52, ob43 P) ::
(nat_lit 53, boot_o_7 P) ::
(nat_lit 55, ob44 P) ::
(nat_lit 56, boot_o_7 P) ::
(nat_lit 58, ob46 P) ::
(nat_lit 59, ob47 P) ::
(nat_lit 60, boot_o_7 P) ::
(nat_lit 62, ob48 P) ::
(nat_lit 63, boot_o_7 P) ::
(nat_lit 65, ob50 P) ::
(nat_lit 66, ob51 P) ::
(nat_lit 67, boot_o_7 P) ::
(nat_lit 69, ob52 P) ::
(nat_lit 70, boot_o_7 P) ::
(nat_lit 72, ob54 P) ::
(nat_lit 73, ob55 P) ::
(nat_lit 74, ob56 P) ::
(nat_lit 75, ob57 P) ::
(nat_lit 76, ob58 P) ::
(nat_lit 77, ob59 P) ::
(nat_lit 78, ob60 P) ::
(nat_lit 84, ob65 P) ::
(nat_lit 85, ob66 P) ::
(nat_lit 87, ob69 P) ::
(nat_lit 91, boot_o_7 P) ::
(nat_lit 93, ob74 P) ::
(nat_lit 94, boot_o_7 P) ::
(nat_lit 96, ob76 P) ::
(nat_lit 97, ob77 P) ::
(nat_lit 98, boot_o_7 P) ::
(nat_lit 100, ob78 P) ::
(nat_lit 101, boot_o_7 P) ::
(nat_lit 103, ob80 P) ::
(nat_lit 104, ob81 P) ::
(nat_lit 112, ob86 P) ::
(nat_lit 113, boot_o_7 P) ::
(nat_lit 115, ob87 P) ::
(nat_lit 116, boot_o_7 P) ::
(nat_lit 118, ob89 P) ::
(nat_lit 119, ob90 P) ::
(nat_lit 120, ob91 P) ::
(nat_lit 122, ob93 P) ::
(nat_lit 123, ob94 P) ::
(nat_lit 124, ob95 P) ::
(nat_lit 125, ob96 P) ::
(nat_lit 126, ob97 P) ::
(nat_lit 129, ob102 P) ::
(nat_lit 136, boot_o_7 P) ::
(nat_lit 137, ob106 P) ::
(nat_lit 138, ob107 P) ::
(nat_lit 139, ob108 P) ::
(nat_lit 149, ob115 P) ::
(nat_lit 150, boot_o_7 P) ::
(nat_lit 152, ob116 P) ::
(nat_lit 153, boot_o_7 P) ::
(nat_lit 155, ob118 P) ::
(nat_lit 156, ob119 P) ::
(nat_lit 157, boot_o_7 P) ::
(nat_lit 159, ob120 P) ::
(nat_lit 160, boot_o_7 P) ::
(nat_lit 162, ob122 P) ::
(nat_lit 163, ob123 P) ::
(nat_lit 164, boot_o_7 P) ::
(nat_lit 166, ob124 P) ::
(nat_lit 167, boot_o_7 P) ::
(nat_lit 169, ob126 P) ::
(nat_lit 170, ob127 P) ::
(nat_lit 171, boot_o_7 P) ::
(nat_lit 174, ob129 P) ::
(nat_lit 175, ob130 P) ::
(nat_lit 176, boot_o_7 P) ::
(nat_lit 178, ob131 P) ::
(nat_lit 179, boot_o_7 P) ::
(nat_lit 181, ob133 P) ::
(nat_lit 182, ob134 P) ::
(nat_lit 183, boot_o_7 P) ::
(nat_lit 185, ob135 P) ::
(nat_lit 186, boot_o_7 P) ::
(nat_lit 188, ob137 P) ::
(nat_lit 189, ob138 P) ::
(nat_lit 190, boot_o_7 P) ::
(nat_lit 192, ob139 P) ::
(nat_lit 193, boot_o_7 P) ::
(nat_lit 195, ob141 P) ::
(nat_lit 196, ob142 P) ::
(nat_lit 197, boot_o_7 P) ::
(nat_lit 199, ob143 P) ::
(nat_lit 200, boot_o_7 P) ::
(nat_lit 202, ob145 P) ::
(nat_lit 203, ob146 P) ::
(nat_lit 204, boot_o_7 P) ::
(nat_lit 206, ob147 P) ::
(nat_lit 207, boot_o_7 P) ::
(nat_lit 209, ob149 P) ::
(nat_lit 210, ob150 P) ::
(nat_lit 211, boot_o_7 P) ::
(nat_lit 213, ob151 P) ::
(nat_lit 214, boot_o_7 P) ::
(nat_lit 216, ob153 P) ::
(nat_lit 217, ob154 P) ::
(nat_lit 218, ob155 P) ::
(nat_lit 219, ob156 P) ::
(nat_lit 220, ob157 P) ::
(nat_lit 221, ob158 P) ::
(nat_lit 222, ob159 P) ::
(nat_lit 225, boot_o_7 P) ::
(nat_lit 228, ob165 P) ::
(nat_lit 229, ob166 P) ::
(nat_lit 230, boot_o_7 P) ::
(nat_lit 233, ob168 P) ::
(nat_lit 234, ob169 P) ::
(nat_lit 235, boot_o_7 P) ::
(nat_lit 237, ob170 P) ::
(nat_lit 238, boot_o_7 P) ::
(nat_lit 240, ob172 P) ::
(nat_lit 241, ob173 P) ::
(nat_lit 242, boot_o_7 P) ::
(nat_lit 244, ob174 P) ::
(nat_lit 245, boot_o_7 P) ::
(nat_lit 247, ob176 P) ::
(nat_lit 248, ob177 P) ::
(nat_lit 249, boot_o_7 P) ::
(nat_lit 251, ob178 P) ::
(nat_lit 252, boot_o_7 P) ::
(nat_lit 254, ob180 P) ::
(nat_lit 255, ob181 P) ::
(nat_lit 256, boot_o_7 P) ::
(nat_lit 259, ob183 P) ::
(nat_lit 260, ob184 P) ::
(nat_lit 261, boot_o_7 P) ::
(nat_lit 264, ob186 P) ::
(nat_lit 265, ob187 P) ::
(nat_lit 266, boot_o_7 P) ::
(nat_lit 269, ob189 P) ::
(nat_lit 270, ob190 P) ::
(nat_lit 271, boot_o_7 P) ::
(nat_lit 274, ob192 P) ::
(nat_lit 275, ob193 P) ::
(nat_lit 276, boot_o_7 P) ::
(nat_lit 279, ob195 P) ::
(nat_lit 280, ob196 P) ::
[]
end Mine
end
section
open PySem PySem.W PyProof.Rows
set_option maxRecDepth 100000
set_option maxHeartbeats 8000000
namespace Mine
/-- the statements of the top that are looked at -/
noncomputable def Q : Program := { PySem.Challenge.pw_in0290_01 with main := { PySem.Challenge.pw_in0290_01.main with body := [0, 1, 3, 4, 6, 7, 9, 11, 12, 13, 14, 15, 17, 18, 19, 20, 21, 22, 23, 24, 25, 26].filterMap fun i => PySem.Challenge.pw_in0290_01.main.body[i]? } }
noncomputable def looseL : List Str := ["_twin_re_1", "_special_chars_map", "_NodeInfo"]
noncomputable def addrsL : List Addr := [2, 3, 32, 34, 35, 37, 38, 46, 48, 49, 51, 52, 53, 55, 56, 58, 59, 60, 62, 63, 65, 66, 67, 69, 70, 72, 73, 74, 75, 76, 77, 78, 84, 85, 87, 91, 93, 94, 96, 97, 98, 100, 101, 103, 104, 112, 113, 115, 116, 118, 119, 120, 122, 123, 124, 125, 126, 129, 136, 137, 138, 139, 149, 150, 152, 153, 155, 156, 157, 159, 160, 162, 163, 164, 166, 167, 169, 170, 171, 174, 175, 176, 178, 179, 181, 182, 183, 185, 186, 188, 189, 190, 192, 193, 195, 196, 197, 199, 200, 202, 203, 204, 206, 207, 209, 210, 211, 213, 214, 216, 217, 218, 219, 220, 221, 222, 225, 228, 229, 230, 233, 234, 235, 237, 238, 240, 241, 242, 244, 245, 247, 248, 249, 251, 252, 254, 255, 256, 259, 260, 261, 264, 265, 266, 269, 270, 271, 274, 275, 276, 279, 280]
theorem addrs_eq (P : Params) : addrsL = (heapK P).map (·.1) := by kernel_rfl
noncomputable abbrev H : Hook := kmHook heapK addrsL addrs_eq [99]
noncomputable abbrev rl := PySem.Challenge.rw_in0290_01
theorem sd1 : (noRoadLSs { strict := !(importedModules rl.prog.main.body).all cThrough.contains, foot := none, bare := (["vars", "dir", "locals"] : List Str).filter (readsOut rl.prog rl.prog.main.body) } rl.prog.main.body) = true := by
  rw [PySem.W.Fast.te8326940854005059898]; kernel_rfl
theorem sd2 : (sreFenced rl.prog.main && ((moduleNames rl.prog.main.body).isEmpty || lookedIntoSs (moduleNames rl.prog.main.body) rl.prog.main.body) && namesResolve rl.prog && rl.prog.boundNames.all (fun n => !worldNames.contains n)) = true := by
  rw [PySem.W.Fast.te11788848310118352699, PySem.W.Fast.te8377067652309620493]; kernel_rfl
theorem sd3 : (namesMeet rl.prog rl.prog.main.body fun _ n => attrL n) = true := by
  rw [PySem.W.Fast.te17119622794617984870]; kernel_rfl
theorem sd9 : looksOpen rl.prog = true := look_both (look_both sd2 sd1) sd3
theorem sd10 : rl.row.wellSaid = true := by
  unfold OpenRow.wellSaid OpenRow.partSaid
  repeat' (with_reducible apply look_both)
  · exact sd9
  all_goals kernel_rfl
theorem said_ok : PySem.Challenge.rw_in0290_01.wellSaid = true := by
  unfold OpenLaw.wellSaid
  repeat' (with_reducible apply look_both)
  · exact sd10
  all_goals kernel_rfl
end Mine
end
section
open PySem PySem.W PyProof.Rows
set_option maxRecDepth 100000
set_option maxHeartbeats 8000000
namespace Mine
noncomputable abbrev TT := PySem.W.Fast.tw14364793385576792824
noncomputable abbrev p0 : Pos := ⟨0, 0, 0, 0⟩
noncomputable def bod : List Stmt := behindTheImports pw
noncomputable abbrev E : Env := { scope := pw.main.scope, locals := mainNs, globals := mainNs, cells := [], code := .ref 30, frame := some 31 }
noncomputable abbrev cE : Code := .body bod E
noncomputable abbrev ann : Option Value := some (.ref 6)
noncomputable abbrev B0 : List Frame := [topFrame p0]
noncomputable abbrev sT (t : Params → BT) (n k : Nat) (w : World) (os : OsState) : SharedT := ⟨t w.params, n, {}, #[], {}, k, os⟩
/-- a stretch of the program's top: the statements from the a-th on, n of them -/
noncomputable abbrev grp (a n : Nat) : List Stmt := (bod.drop a).take n
noncomputable abbrev Runs (w : World) (N a n : Nat) (t : Params → BT) (m k : Nat) (q : Pos) (t' : Params → BT) (m' k' : Nat) (q' : Pos) : Prop :=
  ∀ os, segRunT TT pw w 28 ann 1 N (sT t m k w os) (piecesOf (grp a n) E cE q B0) = some (.next, sT t' m' k' w os, cE, q')
theorem pre_ (w : World) (os : OsState) : topGo TT pw w 28 ann 12 ⟨he0 w.params, #[], {}, 276, os⟩ (topStub pw) = some ((sT tr1 32 282 w os).abs, ⟨denote TT cE, cE, p0, B0⟩) := by kernel_rfl
theorem block_ (w : World) (os : OsState) : segRun TT pw w 28 ann 1 1 (sT tr1 32 282 w os).abs (blockOf bod E cE p0 B0) = some (.next, (sT tr1 32 282 w os).abs, cE, p0) := by kernel_rfl
theorem g0 (w : World) : Runs w 460 0 5 tr1 32 282 p0 tr2 86 389 ⟨45, 0, 45, 8⟩ := fun os => by rw [PySem.W.Fast.te10110043849684766642]; kernel_rfl
end Mine
end
section
open PySem PySem.W PyProof.Rows
set_option maxRecDepth 100000
set_option maxHeartbeats 8000000
namespace Mine
noncomputable abbrev rA := "comprehension-iter-twice"
noncomputable abbrev rB := "special-get-raises"
noncomputable abbrev W2 (w : World) (b c : Bool) : World := (w.withFollow rB c).withFollow rA b
noncomputable abbrev Runs1 (w : World) : Prop := Runs w 1260 5 1 tr2 86 389 ⟨45, 0, 45, 8⟩ tr3 91 535 ⟨46, 0, 46, 18⟩
theorem g1a (w : World) : Runs1 (W2 w false false) := fun os => by rw [PySem.W.Fast.te10110043849684766642]; kernel_rfl
theorem g1b (w : World) : Runs1 (W2 w false true) := fun os => by rw [PySem.W.Fast.te10110043849684766642]; kernel_rfl
theorem g1c (w : World) : Runs1 (W2 w true false) := fun os => by rw [PySem.W.Fast.te10110043849684766642]; kernel_rfl
theorem g1d (w : World) : Runs1 (W2 w true true) := fun os => by rw [PySem.W.Fast.te10110043849684766642]; kernel_rfl
theorem g1 (w : World) : Runs1 w :=
  byRow2 rA (P := Runs1) (byRow2 rB (P := fun w => Runs1 (w.withFollow rA false)) g1a g1b) (byRow2 rB (P := fun w => Runs1 (w.withFollow rA true)) g1c g1d) w
end Mine
end
section
open PySem PySem.W PyProof.Rows
set_option maxRecDepth 100000
set_option maxHeartbeats 8000000
namespace Mine
theorem g2 (w : World) : Runs w 380 6 7 tr3 91 535 ⟨46, 0, 46, 18⟩ tr4 129 608 ⟨119, 0, 125, 28⟩ := fun os => by rw [PySem.W.Fast.te10110043849684766642]; kernel_rfl
end Mine
end
section
open PySem PySem.W PyProof.Rows
set_option maxRecDepth 100000
set_option maxHeartbeats 8000000
namespace Mine
theorem g3 (w : World) : Runs w 720 13 2 tr4 129 608 ⟨119, 0, 125, 28⟩ tr5 225 745 ⟨128, 0, 233, 16⟩ := fun os => by rw [PySem.W.Fast.te10110043849684766642]; kernel_rfl
end Mine
end
section
open PySem PySem.W PyProof.Rows
set_option maxRecDepth 100000
set_option maxHeartbeats 8000000
namespace Mine
theorem g4 (w : World) : Runs w 290 15 11 tr5 225 745 ⟨128, 0, 233, 16⟩ tr6 281 814 ⟨302, 0, 318, 98⟩ := fun os => by kernel_rfl
theorem fin_ (w : World) (os : OsState) : topRun TT pw w 28 ann 2 (sT tr6 281 814 w os).abs ⟨doneF .next, cE, ⟨302, 0, 318, 98⟩, B0⟩ = some ⟨heZ w.params, #[], {}, 814, os⟩ := by kernel_rfl
end Mine
end
section
open PySem PySem.W PyProof.Rows
set_option maxRecDepth 100000
set_option maxHeartbeats 8000000
namespace Mine
noncomputable abbrev sZ (w : World) (os : OsState) : Shared := ⟨heZ w.params, #[], {}, 814, os⟩
noncomputable abbrev mods : List Str := importedModules pw.main.body
theorem l1 (w : World) (os : OsState) : (staticsOk mods (he0 w.params) (heZ w.params) && namesBound pw (heZ w.params) && gensDone (sZ w os) && laidKept (he0 w.params) (heZ w.params)) = true := by kernel_rfl
theorem l2 (w : World) (os : OsState) : openSeen Q looseL mods (fun s => xlAt Q [] s && recOk PySem.Challenge.rw_in0290_01.row.records s) true (sZ w os) = openGood Q looseL := by kernel_rfl
theorem l3 (w : World) (os : OsState) : H.obs (sZ w os) = H.val w := by kernel_rfl
end Mine
end
section
open PySem PySem.W PyProof.Rows
set_option maxRecDepth 100000
set_option maxHeartbeats 8000000
namespace Mine
theorem te_ : treeTable = TT := PySem.W.Fast.te14364793385576792824
theorem open0 (w : World) : (fencedOpening TT pw w 6280).map (fun s => (s.heap, s.gens, s.drawn, s.toks)) = some (he0 w.params, #[], {}, 276) := by kernel_rfl
theorem size_ (w : World) : ((he0 w.params).isNs mainGlobals && (#[] : Array GenState).size == 0, (he0 w.params).objs.size, (he0 w.params).nsMap mainGlobals "__annotations__") = (true, 28, ann) := by kernel_rfl
theorem run_ (w : World) (os : OsState) : topRun TT pw w 28 ann (12 + (1 + (460 + (1260 + (380 + (720 + (290 + 2))))))) ⟨he0 w.params, #[], {}, 276, os⟩ (topStub pw) = some ⟨heZ w.params, #[], {}, 814, os⟩ := by
  refine go_top (pre_ w os) (piece_block (block_ w os) ?_)
  show topRun TT pw w 28 ann _ _ (restOf (grp 0 5 ++ (grp 5 1 ++ (grp 6 7 ++ (grp 13 2 ++ (grp 15 11 ++ []))))) E cE p0 B0) = _
  exact piece_app (segRun_of (g0 w os)) (piece_app (segRun_of (g1 w os)) (piece_app (segRun_of (g2 w os)) (piece_app (segRun_of (g3 w os)) (piece_app (segRun_of (g4 w os)) (piece_nil (fin_ w os))))))
theorem left : LeftO PySem.Challenge.rw_in0290_01.row.prog Q looseL (fun s => xlAt Q [] s && recOk PySem.Challenge.rw_in0290_01.row.records s) (Hook.obs (kmHook heapK addrsL addrs_eq [99])) (Hook.val (kmHook heapK addrsL addrs_eq [99])) 6280 := by
  refine LeftO.of_pieces (H₀ := he0) (H₁ := heZ) (gs₀ := #[]) (gs₁ := #[]) (d₀ := {}) (d₁ := {}) (k₀ := 276) (k₁ := 814) (m₀ := 28) (ann := ann) (M := 12 + (1 + (460 + (1260 + (380 + (720 + (290 + 2))))))) ?_ size_ ?_ rfl ?_
  · rw [te_]; exact open0
  · rw [te_]; exact run_
  · exact fun w => funext fun os => Prod.ext (l1 w os) (Prod.ext (l2 w os) (l3 w os))
end Mine
end
section
open PySem PySem.Spec PySem.Calls PyProof.Rows PySem.W
set_option maxRecDepth 100000
set_option linter.unusedVariables false
namespace Mine

noncomputable def Ext (h h' : Heap) : Prop := ∀ b o, h.get? b = some o → h'.get? b = some o
theorem Ext.rfl {h : Heap} : Ext h h := fun _ _ e => e
theorem Ext.trans {a b c : Heap} (x : Ext a b) (y : Ext b c) : Ext a c := fun p o e => y p o (x p o e)

/-- a thing said of a value in a heap that stays true when the heap grows -/
structure HP where
  says : Heap → Value → Prop
  mono : ∀ B B' v, Ext B B' → says B v → says B' v
/-- abstract values: readable data that stays, a value as it is, or a value of which a thing is said -/
inductive AV where
  | d (x : PyData)
  | raw (v : Value)
  | x (p : HP)

noncomputable def VR (B : Heap) : AV → Value → Prop
  | .d x, v => ∃ as, Reads B v x as
  | .raw u, v => v = u
  | .x p, v => p.says B v
theorem VR.mono {B B' : Heap} (x : Ext B B') : ∀ {a : AV} {v : Value}, VR B a v → VR B' a v
  | .d _, _, ⟨as, h⟩ => ⟨as, Reads.keeps x h⟩
  | .raw _, _, h => h
  | .x p, _, h => p.mono _ _ _ x h

inductive VRs (B : Heap) : List AV → List Value → Prop
  | nil : VRs B [] []
  | cons {a v as vs} : VR B a v → VRs B as vs → VRs B (a :: as) (v :: vs)
theorem VRs.mono {B B' : Heap} (x : Ext B B') {as : List AV} {vs : List Value} (h : VRs B as vs) : VRs B' as vs := by
  induction h with
  | nil => exact .nil
  | cons a _ ih => exact .cons (a.mono x) ih

theorem hide_ext {X : List Addr} {h h' : Heap} (k : Ext h h') : Ext (hideAll h X) (hideAll h' X) := fun b o e => by
  have hb : b ∉ X := fun hm => by rw [hideAll_none X hm] at e; cases e
  exact hideAll_get X (k b o (of_hideAll X e)) hb
theorem hide_le {X : List Addr} {h : Heap} : Ext (hideAll h X) h := fun _ _ e => of_hideAll X e
theorem hide_none {X : List Addr} {h : Heap} {b : Addr} {o : Obj} (e : (hideAll h X).get? b = some o) : b ∉ X := fun hm => by rw [hideAll_none X hm] at e; cases e

/-- abstract objects that may change -/
inductive AO where
  | list (xs : List AV)
  | dict (es : List (Str × AV))
  | sset (xs : List Str)
  | inst (C dx : Addr)
  | slots (C dx : Addr) (vs : List (Option AV))
  | liter (l : Addr) (i : Nat)
  | dead
  | bnext (it : Addr)

inductive EntsAre (P : Params) (B : Heap) : List (Str × AV) → List DictEntry → Prop
  | nil : EntsAre P B [] []
  | cons {k av t v es l} : VR B av v → EntsAre P B es l → EntsAre P B ((k, av) :: es) (⟨PyData.keyHash P k, .str k t, v⟩ :: l)
theorem EntsAre.mono {P : Params} {B B' : Heap} (x : Ext B B') {es l} (h : EntsAre P B es l) : EntsAre P B' es l := by
  induction h with
  | nil => exact .nil
  | cons a _ ih => exact .cons (a.mono x) ih

/-- a set of strs, in any order of its own -/
noncomputable def SetIs (P : Params) (xs : List Str) (es : Array (Int × Value)) (t : SetTable) : Prop :=
  (∀ e ∈ es.toList, (∃ x, Value.isStrOf x e.2 = true ∧ e.1 = PyData.keyHash P x) ∧ e.2.scannable = true) ∧ (∀ x, x ∈ xs ↔ ∃ e ∈ es.toList, Value.isStrOf x e.2 = true) ∧
  es.size ≤ xs.length ∧ t.fits es.size = true

/-- slots, some of them unset -/
inductive OVs (B : Heap) : List (Option AV) → List (Option Value) → Prop
  | nil : OVs B [] []
  | unset {as vs} : OVs B as vs → OVs B (none :: as) (none :: vs)
  | set {a v as vs} : VR B a v → OVs B as vs → OVs B (some a :: as) (some v :: vs)
theorem OVs.mono {B B' : Heap} (x : Ext B B') {as vs} (h : OVs B as vs) : OVs B' as vs := by
  induction h with
  | nil => exact .nil
  | unset _ ih => exact .unset ih
  | set a _ ih => exact .set (a.mono x) ih
noncomputable def OR (P : Params) (B : Heap) : AO → Obj → Prop
  | .list xs, o => ∃ vs n, o = { cls := .type "list", data := .seq vs.toArray n } ∧ VRs B xs vs
  | .dict es, o => ∃ l n, o = { cls := .type "dict", data := .dict (List.toArray l) n } ∧ EntsAre P B es l
  | .sset xs, o => ∃ es n t, o = { cls := .type "set", data := .set es n t } ∧ SetIs P xs es t
  | .inst C dx, o => o = instObj C dx
  | .slots C dx xs, o => ∃ ws : List (Option Value), o = { cls := .ref C, dict := some dx, data := .plain, slots := ws.toArray } ∧ OVs B xs ws
  | .dead, o => o.isFreed = false ∧ ∀ u, o.data ≠ .cell u
  | .liter l i, o => o = { cls := .type "list_iterator", data := .fields #[.ref l, .int i 0] }
  | .bnext it, o => o = { cls := .type "method-wrapper", data := .fields #[.builtin "list_iterator.__next__", .ref it] }
theorem OR.mono {P : Params} {B B' : Heap} (x : Ext B B') : ∀ {a : AO} {o : Obj}, OR P B a o → OR P B' a o
  | .list _, _, ⟨vs, n, e, h⟩ => ⟨vs, n, e, h.mono x⟩
  | .dict _, _, ⟨l, n, e, h⟩ => ⟨l, n, e, h.mono x⟩
  | .sset _, _, h => h
  | .inst _ _, _, h => h
  | .slots _ _ _, _, ⟨vs, e, h⟩ => ⟨vs, e, h.mono x⟩
  | .dead, _, h => h
  | .liter _ _, _, h => h
  | .bnext _, _, h => h

theorem noTF {P : Prop} (h : true = false) : P := Bool.noConfusion h
theorem noFT {P : Prop} (h : false = true) : P := Bool.noConfusion h
/-- a frame: its environment, its own cells, and what others may change behind it -/
structure Fm where
  env : Env
  own : List Addr := []
  hid : List Addr := []
  outs : List Addr := []

noncomputable abbrev Loc := List (Str × AV)
noncomputable abbrev Led := List (Addr × AO)

noncomputable def away (fm : Fm) (led : Led) : List Addr := fm.env.locals :: (fm.own ++ (led.map (·.1) ++ fm.hid))
noncomputable abbrev vis (fm : Fm) (led : Led) (h : Heap) : Heap := hideAll h (away fm led)

section
variable (P : Params) (h00 : Heap) (R : Shared)

structure St (fm : Fm) (loc : Loc) (led : Led) (s : Shared) : Prop where
  base : Ext h00 (vis fm led s.heap)
  ns : ∃ m, s.heap.Ns fm.env.locals m ∧ ∀ x av, loc.lookup x = some av → fm.env.kindOf x = some .local → ∃ v, m x = some v ∧ VR (vis fm led s.heap) av v
  cel : ∀ x av, loc.lookup x = some av → fm.env.kindOf x ≠ some .local → ∃ c v, fm.env.cells.lookup x = some c ∧ s.heap.IsCell c (some v) ∧ VR (vis fm led s.heap) av v
  ld : ∀ p ∈ led, ∃ o, s.heap.get? p.1 = some o ∧ OR P (vis fm led s.heap) p.2 o
  nd : (fm.env.locals :: (fm.own ++ led.map (·.1))).Nodup
  own : ∀ c ∈ fm.own, ∃ v, s.heap.IsCell c v
  low : ∀ a ∈ fm.hid, ∃ o, s.heap.get? a = some o
  gens : s.gens = R.gens
  drawn : s.drawn = R.drawn
  os : s.os = R.os
  dis : ∀ a ∈ led.map (·.1), a ∉ fm.hid
  fr : ∀ a ∈ fm.outs, a ∈ fm.hid ∧ a ≠ fm.env.locals ∧ a ∉ fm.own ∧ ∃ o, s.heap.get? a = some o ∧ ∀ vs, o.data ≠ .fields vs
end

section
variable {P : Params} {h00 : Heap} {R : Shared} {fm : Fm} {loc : Loc} {led : Led} {s : Shared}
theorem OR.live {B : Heap} : ∀ {a : AO} {o : Obj}, OR P B a o → o.isFreed = false
  | .list _, _, ⟨_, _, e, _⟩ => by subst e; rfl
  | .dict _, _, ⟨_, _, e, _⟩ => by subst e; rfl
  | .sset _, _, ⟨_, _, _, e, _⟩ => by subst e; rfl
  | .inst _ _, _, e => by cases e; rfl
  | .slots _ _ _, _, ⟨_, e, _⟩ => by subst e; rfl
  | .dead, _, h => h.1
  | .liter _ _, _, e => by cases e; rfl
  | .bnext _, _, e => by cases e; rfl
theorem St.lo (D : St P h00 R fm loc led s) : ∀ a ∈ away fm led, a < s.heap.objs.size := fun a ha => by
  rcases List.mem_cons.mp ha with rfl | ha
  · obtain ⟨m, hn, _⟩ := D.ns; exact hn.lt
  · rcases List.mem_append.mp ha with ha | ha
    · obtain ⟨v, h⟩ := D.own a ha; exact h.lt
    · rcases List.mem_append.mp ha with ha | ha
      · obtain ⟨p, hp, rfl⟩ := List.mem_map.mp ha
        obtain ⟨o, h, _⟩ := D.ld p hp; exact Heap.lt_size h
      · obtain ⟨o, h⟩ := D.low a ha; exact Heap.lt_size h
theorem St.quiet (D : St P h00 R fm loc led s) {h' : Heap} {tk : Nat} (k : Ext s.heap h') : St P h00 R fm loc led { s with heap := h', toks := tk } where
  base := D.base.trans (hide_ext k)
  ns := by
    obtain ⟨m, hn, hl⟩ := D.ns
    exact ⟨m, hn.keeps k, fun x av e l => by obtain ⟨v, hv, hr⟩ := hl x av e l; exact ⟨v, hv, hr.mono (hide_ext k)⟩⟩
  cel := fun x av e l => by obtain ⟨c, v, hc, hi, hr⟩ := D.cel x av e l; exact ⟨c, v, hc, hi.keeps k, hr.mono (hide_ext k)⟩
  ld := fun p hp => by obtain ⟨o, ho, hr⟩ := D.ld p hp; exact ⟨o, k _ _ ho, hr.mono (hide_ext k)⟩
  nd := D.nd
  own := fun c hc => by obtain ⟨v, h⟩ := D.own c hc; exact ⟨v, h.keeps k⟩
  low := fun a ha => by obtain ⟨o, h⟩ := D.low a ha; exact ⟨o, k _ _ h⟩
  gens := D.gens
  drawn := D.drawn
  os := D.os
  dis := D.dis
  fr := fun a ha => by obtain ⟨h1, h2, h3, o, ho, hd⟩ := D.fr a ha; exact ⟨h1, h2, h3, o, k _ _ ho, hd⟩

/-- a tree that asks two values and only adds to the heap -/
noncomputable def Op2 (prog : Program) (w : World) (A : Around) (t : Value → Value → Sem Value) (a b c : AV) : Prop :=
  ∀ (X : List Addr) (s : Shared) (u v : Value) (Q : Value → Shared → Prop) (E : Value → Shared → Prop), (∀ x ∈ X, x < s.heap.objs.size) → VR (hideAll s.heap X) a u → VR (hideAll s.heap X) b v →
    (∀ r h' tk, Ext s.heap h' → VR (hideAll h' X) c r → Q r { s with heap := h', toks := tk }) → wpAny (model prog w) A (t u v) Q E s
noncomputable def Op1 (prog : Program) (w : World) (A : Around) (t : Value → Sem Value) (a c : AV) : Prop :=
  ∀ (X : List Addr) (s : Shared) (u : Value) (Q : Value → Shared → Prop) (E : Value → Shared → Prop), (∀ x ∈ X, x < s.heap.objs.size) → VR (hideAll s.heap X) a u →
    (∀ r h' tk, Ext s.heap h' → VR (hideAll h' X) c r → Q r { s with heap := h', toks := tk }) → wpAny (model prog w) A (t u) Q E s

section
variable (prog : Program) (w : World) (h00 : Heap) (R : Shared) (A : Around) (fm : Fm) (loc : Loc) (led : Led)
/-- an expression that only adds to the heap, and its value -/
noncomputable def PE (e : Expr) (av : AV) : Prop := ∀ s, St w.params h00 R fm loc led s → ∀ (Q : Value → Shared → Prop) (E : Value → Shared → Prop),
  (∀ v h' tk, Ext s.heap h' → VR (vis fm led h') av v → Q v { s with heap := h', toks := tk }) → wpAny (model prog w) A (eval e fm.env) Q E s
/-- a test -/
noncomputable def PT (e : Expr) (b : Bool) : Prop := ∀ s, St w.params h00 R fm loc led s → ∀ (Q : Bool → Shared → Prop) (E : Value → Shared → Prop),
  (∀ h' tk, Ext s.heap h' → Q b { s with heap := h', toks := tk }) → wpAny (model prog w) A (isTrue e fm.env (eval e fm.env)) Q E s
end

section
variable {prog : Program} {w : World} {A : Around}
theorem PE.cInt {i : Int} {k : Nat} {pos : Pos} : PE prog w h00 R A fm loc led (.Constant (.int i) k pos) (.d (.int i)) :=
  fun s _ Q E k => wpAny_Constant_int (k _ _ _ Ext.rfl ⟨_, .int _ _⟩)
theorem PE.cStr {x : Str} {k : Nat} {pos : Pos} : PE prog w h00 R A fm loc led (.Constant (.str x) k pos) (.d (.str x)) :=
  fun s _ Q E k => wpAny_Constant_str (k _ _ _ Ext.rfl ⟨_, .str _ _⟩)
theorem PE.cNone {k : Nat} {pos : Pos} : PE prog w h00 R A fm loc led (.Constant .none k pos) (.d .none) :=
  fun s _ Q E k => wpAny_Constant_none (k _ _ _ Ext.rfl ⟨_, .none⟩)
theorem PE.cBool {b : Bool} {k : Nat} {pos : Pos} : PE prog w h00 R A fm loc led (.Constant (.bool b) k pos) (.d (.bool b)) :=
  fun s _ Q E k => wpAny_Constant_bool (k _ _ _ Ext.rfl ⟨_, .bool _⟩)
theorem PE.bin {op : Operator} {l r : Expr} {pos : Pos} {a b c : AV} (hl : PE prog w h00 R A fm loc led l a) (hr : PE prog w h00 R A fm loc led r b) (ho : Op2 prog w A (binaryOp op) a b c) :
    PE prog w h00 R A fm loc led (.BinOp l op r pos) c := fun s D Q E k =>
  wpAny_BinOp (hl s D _ _ fun u h1 t1 k1 r1 => hr _ (D.quiet k1) _ _ fun v h2 t2 k2 r2 => ho _ _ u v _ _ ((D.quiet k1).quiet k2).lo (r1.mono (hide_ext k2)) r2 fun y h3 t3 k3 r3 => k y h3 t3 (k1.trans (k2.trans k3)) r3)
theorem PE.cmp {op : CmpOp} {l r : Expr} {pos : Pos} {a b c : AV} (hl : PE prog w h00 R A fm loc led l a) (hr : PE prog w h00 R A fm loc led r b) (ho : Op2 prog w A (compareOp op) a b c)
    (hm : behindInMarks op r = false := by with_unfolding_all rfl) : PE prog w h00 R A fm loc led (.Compare l [op] [r] pos) c := fun s D Q E k =>
  wpAny_Compare1 (hl s D _ _ fun u h1 t1 k1 r1 => hr _ (D.quiet k1) _ _ fun v h2 t2 k2 r2 => ho _ _ u v _ _ ((D.quiet k1).quiet k2).lo (r1.mono (hide_ext k2)) r2 fun y h3 t3 k3 r3 => k y h3 t3 (k1.trans (k2.trans k3)) r3) hm
theorem PT.cmp {op : CmpOp} {l r : Expr} {pos : Pos} {a b : AV} {c : Bool} (hl : PE prog w h00 R A fm loc led l a) (hr : PE prog w h00 R A fm loc led r b) (ho : Op2 prog w A (compareOp op) a b (.d (.bool c)))
    (hm : behindInMarks op r = false := by with_unfolding_all rfl) : PT prog w h00 R A fm loc led (.Compare l [op] [r] pos) c := fun s D Q E k =>
  wpAny_isTrue_Compare1 (hl s D _ _ fun u h1 t1 k1 r1 => hr _ (D.quiet k1) _ _ fun v h2 t2 k2 r2 => ho _ _ u v _ _ ((D.quiet k1).quiet k2).lo (r1.mono (hide_ext k2)) r2 fun y h3 t3 k3 r3 => by
    obtain ⟨as, r3⟩ := r3
    cases r3
    exact wpAny_truthy_bool (k h3 t3 (k1.trans (k2.trans k3)))) hm
theorem PT.not {x : Expr} {pos : Pos} {b : Bool} (h : PT prog w h00 R A fm loc led x b) : PT prog w h00 R A fm loc led (.UnaryOp .Not x pos) (!b) := fun s D Q E k =>
  wpAny_isTrue_Not (h s D _ _ fun h1 t1 k1 => k h1 t1 k1)
theorem PT.and {x y : Expr} {pos : Pos} {b c : Bool} (hx : PT prog w h00 R A fm loc led x b) (hy : b = true → PT prog w h00 R A fm loc led y c) : PT prog w h00 R A fm loc led (.BoolOp .And [x, y] pos) (b && c) := fun s D Q E k => by
  refine wpAny_isTrue_BoolOp (wpAny_allTrue_And_cons (hx s D _ _ fun h1 t1 k1 => ?_))
  cases b with
  | false => exact k h1 t1 k1
  | true => exact wpAny_allTrue_And_cons (hy rfl _ (D.quiet k1) _ _ fun h2 t2 k2 => by
      cases c with
      | false => exact k h2 t2 (k1.trans k2)
      | true => exact wpAny_allTrue_And_nil (k h2 t2 (k1.trans k2)))
theorem PT.or {x y : Expr} {pos : Pos} {b c : Bool} (hx : PT prog w h00 R A fm loc led x b) (hy : b = false → PT prog w h00 R A fm loc led y c) : PT prog w h00 R A fm loc led (.BoolOp .Or [x, y] pos) (b || c) := fun s D Q E k => by
  refine wpAny_isTrue_BoolOp (wpAny_allTrue_Or_cons (hx s D _ _ fun h1 t1 k1 => ?_))
  cases b with
  | true => exact k h1 t1 k1
  | false => exact wpAny_allTrue_Or_cons (hy rfl _ (D.quiet k1) _ _ fun h2 t2 k2 => by
      cases c with
      | true => exact k h2 t2 (k1.trans k2)
      | false => exact wpAny_allTrue_Or_nil (k h2 t2 (k1.trans k2)))
/-- a name of the frame's own -/
theorem PE.name {x : Str} {pos : Pos} {av : AV} (hl : loc.lookup x = some av) (hk : fm.env.scope.kind = .function := by rfl) (hx : fm.env.kindOf x = some .local ∨ fm.env.kindOf x = some .cell ∨ fm.env.kindOf x = some .free := by first | exact .inl rfl | exact .inr (.inl rfl) | exact .inr (.inr rfl))
    (hd : (x == ("__debug__" : Str)) = false := by decide) (hn : (x == ("__classdict__" : Str)) = false := by decide) : PE prog w h00 R A fm loc led (.Name x pos) av := fun s D Q E k => by
  have out : ∀ {v : Value}, VR (vis fm led s.heap) av v → Q v s := fun {v} r => k v s.heap s.toks Ext.rfl r
  rcases hx with hx | hx | hx
  · obtain ⟨m, hm, hr⟩ := D.ns
    obtain ⟨v, hv, r⟩ := hr x av hl hx
    exact wpAny_Name (wpAny_loadName_local hk hx hm hv (out r)) hd
  · obtain ⟨c, v, hc, hi, r⟩ := D.cel x av hl (by rw [hx]; decide)
    exact wpAny_Name (wpAny_loadName_cell hk hx hc hi (out r)) hd
  · obtain ⟨c, v, hc, hi, r⟩ := D.cel x av hl (by rw [hx]; decide)
    exact wpAny_Name (wpAny_loadName_free hk hx hc hi (out r) hn) hd
end
end
end Mine
end
section
open PySem PySem.Spec PySem.Calls PyProof.Rows PySem.W
set_option maxRecDepth 100000
set_option linter.unusedVariables false
namespace Mine

/-- the state that a call finds: what lies under X may change behind it -/
structure Bs (h00 : Heap) (R : Shared) (X : List Addr) (s : Shared) : Prop where
  base : Ext h00 (hideAll s.heap X)
  there : ∀ x ∈ X, ∃ o, s.heap.get? x = some o
  gens : s.gens = R.gens
  drawn : s.drawn = R.drawn
  os : s.os = R.os
theorem Bs.low {h00 : Heap} {R : Shared} {X : List Addr} {s : Shared} (B : Bs h00 R X s) : ∀ x ∈ X, x < s.heap.objs.size := fun x hx => by obtain ⟨o, h⟩ := B.there x hx; exact Heap.lt_size h
theorem Bs.quiet {h00 : Heap} {R : Shared} {X : List Addr} {s : Shared} (B : Bs h00 R X s) {h' : Heap} {tk : Nat} (k : Ext s.heap h') : Bs h00 R X { s with heap := h', toks := tk } :=
  ⟨B.base.trans (hide_ext k), fun x hx => by obtain ⟨o, h⟩ := B.there x hx; exact ⟨o, k _ _ h⟩, B.gens, B.drawn, B.os⟩
theorem St.bs {P : Params} {h00 : Heap} {R : Shared} {fm : Fm} {loc : Loc} {led : Led} {s : Shared} (D : St P h00 R fm loc led s) : Bs h00 R (away fm led) s where
  base := D.base
  there := fun a ha => by
    rcases List.mem_cons.mp ha with rfl | ha
    · obtain ⟨m, ⟨o, _, _, h, _⟩, _⟩ := D.ns; exact ⟨o, h⟩
    · rcases List.mem_append.mp ha with ha | ha
      · obtain ⟨v, o, h, _⟩ := D.own a ha; exact ⟨o, h⟩
      · rcases List.mem_append.mp ha with ha | ha
        · obtain ⟨p, hp, rfl⟩ := List.mem_map.mp ha
          obtain ⟨o, h, _⟩ := D.ld p hp; exact ⟨o, h⟩
        · exact D.low a ha
  gens := D.gens
  drawn := D.drawn
  os := D.os

section
variable (prog : Program) (w : World) (h00 : Heap) (R : Shared) (A : Around)
/-- a call that only adds to the heap, and its value -/
noncomputable def CallP (f : Value) (args : List AV) (c : AV) : Prop := ∀ (X : List Addr) (s : Shared) (vals : List Value) (Q : Value → Shared → Prop) (E : Value → Shared → Prop), Bs h00 R X s → VRs (hideAll s.heap X) args vals →
  (∀ r h' tk, Ext s.heap h' → VR (hideAll h' X) c r → Q r { s with heap := h', toks := tk }) → wpAny (model prog w) A (call f vals) Q E s
variable (fm : Fm) (loc : Loc) (led : Led)
noncomputable def PEs (es : List Expr) (as : List AV) : Prop := ∀ (pos : Pos) s, St w.params h00 R fm loc led s → ∀ (Q : List Value → Shared → Prop) (E : Value → Shared → Prop),
  (∀ vs h' tk, Ext s.heap h' → VRs (vis fm led h') as vs → Q vs { s with heap := h', toks := tk }) → wpAny (model prog w) A (spliced (backTo pos (starEach es fm.env))) Q E s
/-- a method taken for a call -/
noncomputable def MethP (o : AV) (name : Str) (f : Value) : Prop := ∀ (X : List Addr) (s : Shared) (v : Value) (pl : Sem Bool) (Q : Value × List Value → Shared → Prop) (E : Value → Shared → Prop), Bs h00 R X s → VR (hideAll s.heap X) o v →
  Q (f, [v]) s → wpAny (model prog w) A (getMethod v name pl) Q E s
end

section
variable {prog : Program} {w : World} {h00 : Heap} {R : Shared} {A : Around} {fm : Fm} {loc : Loc} {led : Led}
theorem PEs.nil : PEs prog w h00 R A fm loc led [] [] := fun pos s D Q E k => args_nil (k [] s.heap s.toks Ext.rfl .nil)
theorem PEs.cons {e : Expr} {rest : List Expr} {a : AV} {as : List AV} (h : PE prog w h00 R A fm loc led e a) (hr : PEs prog w h00 R A fm loc led rest as)
    (he : starEach (e :: rest) fm.env = (false, eval e fm.env) :: starEach rest fm.env := by rfl) : PEs prog w h00 R A fm loc led (e :: rest) (a :: as) := fun pos s D Q E k =>
  args_cons (h s D _ _ fun v h1 t1 k1 r1 => hr pos _ (D.quiet k1) _ _ fun vs h2 t2 k2 r2 => k (v :: vs) h2 t2 (k1.trans k2) (.cons (r1.mono (hide_ext k2)) r2)) he

/-- a call of a builtin function by its name -/
theorem PE.callB {func : Expr} {args : List Expr} {pos : Pos} {id : String} {as : List AV} {c : AV} (hf : PE prog w h00 R A fm loc led func (.raw (.builtin id))) (ha : PEs prog w h00 R A fm loc led args as)
    (hc : CallP prog w h00 R A (.builtin id) as c)
    (hne : args ≠ [] := by decide)
    (hs : ∀ e r, args = e :: r → starEach (e :: r) fm.env = (false, eval e fm.env) :: starEach r fm.env := by intro _ _ q; cases q; rfl)
    (hp : ∀ e r, args = e :: r → (backTo pos (starEach r fm.env)).any (·.1) = false := by intro _ _ q; cases q; rfl)
    (he : eval (.Call func args [] pos) fm.env = (do callWith pos (← eval func fm.env) [] (backTo pos (starEach args fm.env)) (backToKw pos (keywordEach [] fm.env))) := by rfl) :
    PE prog w h00 R A fm loc led (.Call func args [] pos) c := fun s D Q E k => by
  refine Call_ (hf s D _ _ fun f h1 t1 k1 r1 => ?_) he
  cases r1
  cases args with
  | nil => exact absurd rfl hne
  | cons e r =>
    refine PyProof.Rows.callWith_builtin1 (ha pos _ (D.quiet k1) _ _ fun vs h2 t2 k2 r2 => ?_) (hs e r rfl) (hp e r rfl)
    exact hc _ _ vs _ _ ((D.quiet k1).quiet k2).bs r2 fun y h3 t3 k3 r3 => k y h3 t3 (k1.trans (k2.trans k3)) r3
/-- a call of a def of the text -/
theorem PE.callK {K : Frag} {func : Expr} {args : List Expr} {pos : Pos} {f : Value} {as : List AV} {c : AV} (X : K.In h00) (hk : keepIn K f = true) (hf : PE prog w h00 R A fm loc led func (.raw f)) (ha : PEs prog w h00 R A fm loc led args as)
    (hc : CallP prog w h00 R A f as c)
    (hne : args ≠ [] := by decide)
    (hs : ∀ e r, args = e :: r → starEach (e :: r) fm.env = (false, eval e fm.env) :: starEach r fm.env := by intro _ _ q; cases q; rfl)
    (hp : ∀ e r, args = e :: r → (backTo pos (starEach r fm.env)).any (·.1) = false := by intro _ _ q; cases q; rfl)
    (he : eval (.Call func args [] pos) fm.env = (do callWith pos (← eval func fm.env) [] (backTo pos (starEach args fm.env)) (backToKw pos (keywordEach [] fm.env))) := by rfl) :
    PE prog w h00 R A fm loc led (.Call func args [] pos) c := fun s D Q E k => by
  refine Call_ (hf s D _ _ fun g h1 t1 k1 r1 => ?_) he
  cases r1
  cases args with
  | nil => exact absurd rfl hne
  | cons e r =>
    refine callWith_K (K := K) X hk (ha pos _ (D.quiet k1) _ _ fun vs h2 t2 k2 r2 => ?_) (hs e r rfl) (hp e r rfl)
    have D2 := (D.quiet (tk := t1) k1).quiet (tk := t2) k2
    exact ⟨(X.keeps D2.base).keeps hide_le, hc _ _ vs _ _ D2.bs r2 fun y h3 t3 k3 r3 => k y h3 t3 (k1.trans (k2.trans k3)) r3⟩
/-- a method of a value, called -/
theorem PE.meth {o : Expr} {name : Str} {apos pos : Pos} {args : List Expr} {id : String} {ov : AV} {as : List AV} {c : AV} {pl : Sem Bool} (ho : PE prog w h00 R A fm loc led o ov)
    (hm : MethP prog w h00 R A ov name (.builtin id)) (ha : PEs prog w h00 R A fm loc led args as) (hc : CallP prog w h00 R A (.builtin id) (ov :: as) c)
    (hne : args ≠ [] := by decide)
    (hs : ∀ e r, args = e :: r → starEach (e :: r) fm.env = (false, eval e fm.env) :: starEach r fm.env := by intro _ _ q; cases q; rfl)
    (hp : ∀ e r, args = e :: r → (backTo pos (starEach r fm.env)).any (·.1) = false := by intro _ _ q; cases q; rfl)
    (he : eval (.Call (.Attribute o name apos) args [] pos) fm.env = (do
      let ov ← eval o fm.env
      standAt apos.atName
      let (f, first) ← holding [ov] (getMethod ov name pl)
      callWith pos f first (backTo pos (starEach args fm.env)) []) := by rfl) :
    PE prog w h00 R A fm loc led (.Call (.Attribute o name apos) args [] pos) c := fun s D Q E k => by
  refine MethodCall_ (pl := pl) (ho s D _ _ fun v h1 t1 k1 r1 => ?_) he
  refine hm _ _ v pl _ _ (D.quiet k1).bs r1 ?_
  cases args with
  | nil => exact absurd rfl hne
  | cons e r =>
    refine callWith_method1 (ha pos _ (D.quiet k1) _ _ fun vs h2 t2 k2 r2 => ?_) (hs e r rfl) (hp e r rfl)
    exact hc _ _ (v :: vs) _ _ ((D.quiet k1).quiet k2).bs (.cons (r1.mono (hide_ext k2)) r2) fun y h3 t3 k3 r3 => k y h3 t3 (k1.trans (k2.trans k3)) r3

theorem PE.meth0 {o : Expr} {name : Str} {apos pos : Pos} {id : String} {ov : AV} {c : AV} {pl : Sem Bool} (ho : PE prog w h00 R A fm loc led o ov)
    (hm : MethP prog w h00 R A ov name (.builtin id)) (hc : CallP prog w h00 R A (.builtin id) [ov] c)
    (he : eval (.Call (.Attribute o name apos) [] [] pos) fm.env = (do
      let ov ← eval o fm.env
      standAt apos.atName
      let (f, first) ← holding [ov] (getMethod ov name pl)
      callWith pos f first (backTo pos (starEach [] fm.env)) []) := by rfl) :
    PE prog w h00 R A fm loc led (.Call (.Attribute o name apos) [] [] pos) c := fun s D Q E k => by
  refine MethodCall_ (pl := pl) (ho s D _ _ fun v h1 t1 k1 r1 => ?_) he
  refine hm _ _ v pl _ _ (D.quiet k1).bs r1 ?_
  refine callWith_method0 ?_
  exact hc _ _ [v] _ _ (D.quiet k1).bs (.cons r1 .nil) fun y h3 t3 k3 r3 => k y h3 t3 (k1.trans k3) r3
/-- a name of the text's top -/
theorem PE.glob {K : Frag} {p : Program} {loose : List Str} {mg mb : Str → Option Value} {x : Str} {pos : Pos} {v : Value} (X : K.In h00) (T : TopRead p loose mg mb h00) (e : nsIn K mainGlobals x = some (some v))
    (hg : fm.env.globals = mainGlobals := by rfl) (hk : fm.env.scope.kind = .function := by rfl) (hx : fm.env.kindOf x = some .globalImplicit := by rfl) (hd : (x == ("__debug__" : Str)) = false := by decide) :
    PE prog w h00 R A fm loc led (.Name x pos) (.raw v) := fun s D Q E k =>
  Name_function_global hk hx (loadGlobal_global (env := fm.env) (hg ▸ (T.keeps (D.base.trans hide_le)).g) (mg_of X T.g e) (k v s.heap s.toks Ext.rfl rfl)) hd
theorem PE.built {K : Frag} {p : Program} {loose : List Str} {mg mb : Str → Option Value} {x : Str} {pos : Pos} {v : Value} (X : K.In h00) (T : TopRead p loose mg mb h00) (e : nsIn K mainGlobals x = some none) (hv : bootBuiltins x = some v) (hn : x ≠ "__name__")
    (hg : fm.env.globals = mainGlobals := by rfl) (hb : fm.env.builtins = builtinsNs := by rfl) (hk : fm.env.scope.kind = .function := by rfl) (hx : fm.env.kindOf x = some .globalImplicit := by rfl) (hd : (x == ("__debug__" : Str)) = false := by decide) :
    PE prog w h00 R A fm loc led (.Name x pos) (.raw v) := fun s D Q E k =>
  Name_function_global hk hx (loadGlobal_builtin (env := fm.env) (hg ▸ (T.keeps (D.base.trans hide_le)).g) (mg_none_of X T.g e) (hb ▸ (T.keeps (D.base.trans hide_le)).b) ((T.builtins x hn).trans hv) (k v s.heap s.toks Ext.rfl rfl)) hd
end

/-- what a step of a frame leaves as it was -/
structure Step (fm : Fm) (led led' : Led) (s s' : Shared) : Prop where
  keep : ∀ b o, s.heap.get? b = some o → b ≠ fm.env.locals → b ∉ fm.own → b ∉ led.map (·.1) → b ∉ fm.outs → s'.heap.get? b = some o
  new : ∀ a ∈ led'.map (·.1), a ∈ led.map (·.1) ∨ s.heap.get? a = none
  off : ∀ a ∈ led'.map (·.1), a ≠ fm.env.locals ∧ a ∉ fm.own
  turn : ∀ a ∈ fm.outs, a ∈ fm.hid ∧ ∀ o, s.heap.get? a = some o → ∃ sl, s'.heap.get? a = some { o with slots := sl }
theorem away_mem {fm : Fm} {led : Led} {b : Addr} : b ∈ away fm led ↔ b = fm.env.locals ∨ b ∈ fm.own ∨ b ∈ led.map (·.1) ∨ b ∈ fm.hid := by
  unfold away; simp only [List.mem_cons, List.mem_append]
theorem Step.ext {fm : Fm} {led led' : Led} {s s' : Shared} (x : Step fm led led' s s') : Ext (vis fm led s.heap) (vis fm led' s'.heap) := fun b o e => by
  have nb := hide_none e
  have e' := hide_le _ _ e
  rw [away_mem] at nb
  simp only [not_or] at nb
  refine hideAll_get _ (x.keep b o e' nb.1 nb.2.1 nb.2.2.1 fun h => nb.2.2.2 (x.turn b h).1) fun hb => ?_
  rcases away_mem.mp hb with q | q | q | q
  · exact nb.1 q
  · exact nb.2.1 q
  · rcases x.new b q with q | q
    · exact nb.2.2.1 q
    · rw [e'] at q; cases q
  · exact nb.2.2.2 q
theorem St.off {P : Params} {h00 : Heap} {R : Shared} {fm : Fm} {loc : Loc} {led : Led} {s : Shared} (D : St P h00 R fm loc led s) : ∀ a ∈ led.map (·.1), a ≠ fm.env.locals ∧ a ∉ fm.own := fun a ha => by
  have z := List.nodup_cons.mp D.nd
  have y := List.nodup_append.mp z.2
  exact ⟨fun e => z.1 (e ▸ List.mem_append_right _ ha), fun h => y.2.2 a h a ha rfl⟩
theorem Step.quiet {P : Params} {h00 : Heap} {R : Shared} {fm : Fm} {loc : Loc} {led : Led} {s : Shared} (D : St P h00 R fm loc led s) {h' : Heap} {tk : Nat} (k : Ext s.heap h') : Step fm led led s { s with heap := h', toks := tk } := ⟨fun b o e _ _ _ _ => k b o e, fun a h => .inl h, D.off, fun a h => ⟨(D.fr a h).1, fun o e => ⟨o.slots, k a o e⟩⟩⟩
theorem Step.trans {fm : Fm} {l1 l2 l3 : Led} {s1 s2 s3 : Shared} (x : Step fm l1 l2 s1 s2) (y : Step fm l2 l3 s2 s3) : Step fm l1 l3 s1 s3 where
  keep := fun b o e hL ho hl ht => y.keep b o (x.keep b o e hL ho hl ht) hL ho (fun h2 => by
    rcases x.new b h2 with q | q
    · exact hl q
    · rw [e] at q; cases q) ht
  new := fun a ha => by
    rcases y.new a ha with q | q
    · exact x.new a q
    · by_cases h1 : a ∈ l1.map (·.1)
      · exact .inl h1
      · cases hz : s1.heap.get? a with
        | none => exact .inr rfl
        | some o =>
          have f := y.off a ha
          by_cases ht : a ∈ fm.outs
          · obtain ⟨sl, z⟩ := (x.turn a ht).2 o hz
            rw [q] at z; cases z
          · have z := x.keep a o hz f.1 f.2 h1 ht
            rw [q] at z; cases z
  off := y.off
  turn := fun a ht => ⟨(x.turn a ht).1, fun o e => by
    obtain ⟨sl, h1⟩ := (x.turn a ht).2 o e
    obtain ⟨sl', h2⟩ := (y.turn a ht).2 _ h1
    exact ⟨sl', h2⟩⟩
end Mine
end
section
open PySem PySem.Spec PySem.Calls PyProof.Rows PySem.W
set_option maxRecDepth 100000
set_option linter.unusedVariables false
namespace Mine

inductive AF where
  | next | brk | cont
  | ret (a : AV)
noncomputable def FR (B : Heap) : AF → Flow → Prop
  | .next, f => f = .next
  | .brk, f => f = .brk
  | .cont, f => f = .cont
  | .ret a, f => ∃ v, f = .ret v ∧ VR B a v
theorem FR.mono {B B' : Heap} (x : Ext B B') : ∀ {a : AF} {f : Flow}, FR B a f → FR B' a f
  | .next, _, h => h
  | .brk, _, h => h
  | .cont, _, h => h
  | .ret _, _, ⟨v, e, h⟩ => ⟨v, e, h.mono x⟩

section
variable (prog : Program) (w : World) (h00 : Heap) (R : Shared) (A : Around) (fm : Fm) (loc : Loc) (led : Led)
noncomputable def TS (ss : List Stmt) (Φ : AF → Loc → Led → Prop) : Prop := ∀ s, St w.params h00 R fm loc led s → ∀ (Q : Flow → Shared → Prop) (E : Value → Shared → Prop),
  (∀ fl s' af loc' led', Step fm led led' s s' → St w.params h00 R fm loc' led' s' → FR (vis fm led' s'.heap) af fl → Φ af loc' led' → Q fl s') → wpAny (model prog w) A (execs ss fm.env) Q E s
noncomputable def TX (st : Stmt) (Φ : AF → Loc → Led → Prop) : Prop := ∀ s, St w.params h00 R fm loc led s → ∀ (Q : Flow → Shared → Prop) (E : Value → Shared → Prop),
  (∀ fl s' af loc' led', Step fm led led' s s' → St w.params h00 R fm loc' led' s' → FR (vis fm led' s'.heap) af fl → Φ af loc' led' → Q fl s') → wpAny (model prog w) A (exec st fm.env) Q E s
noncomputable def TE (e : Expr) (Φ : AV → Loc → Led → Prop) : Prop := ∀ s, St w.params h00 R fm loc led s → ∀ (Q : Value → Shared → Prop) (E : Value → Shared → Prop),
  (∀ v s' av loc' led', Step fm led led' s s' → St w.params h00 R fm loc' led' s' → VR (vis fm led' s'.heap) av v → Φ av loc' led' → Q v s') → wpAny (model prog w) A (eval e fm.env) Q E s
end

section
variable {prog : Program} {w : World} {h00 : Heap} {R : Shared} {A : Around} {fm : Fm} {loc : Loc} {led : Led}

theorem TE.pe {e : Expr} {a : AV} {Φ : AV → Loc → Led → Prop} (h : PE prog w h00 R A fm loc led e a) (k : Φ a loc led) : TE prog w h00 R A fm loc led e Φ := fun s D Q E q =>
  h s D Q E fun v h' tk x r => q v _ a loc led (Step.quiet D x) (D.quiet x) r k

theorem TS.nil {Φ : AF → Loc → Led → Prop} (k : Φ .next loc led) : TS prog w h00 R A fm loc led [] Φ := fun s D Q E q => wpAny_execs_nil (q _ s .next loc led (Step.quiet (tk := s.toks) D Ext.rfl) D rfl k)
theorem TS.cons {st : Stmt} {ss : List Stmt} {Φ : AF → Loc → Led → Prop}
    (h : TX prog w h00 R A fm loc led st fun af l1 d1 => match af with | .next => TS prog w h00 R A fm l1 d1 ss Φ | af => Φ af l1 d1) : TS prog w h00 R A fm loc led (st :: ss) Φ := fun s D Q E q =>
  wpAny_execs_cons (h s D _ _ fun fl s1 af l1 d1 x D1 r p => by
    cases af with
    | next => cases r; exact p s1 D1 _ _ fun fl s2 af l2 d2 y D2 r2 p2 => q fl s2 af l2 d2 (x.trans y) D2 r2 p2
    | brk => cases r; exact q _ s1 .brk l1 d1 x D1 rfl p
    | cont => cases r; exact q _ s1 .cont l1 d1 x D1 rfl p
    | ret a => obtain ⟨v, rfl, r⟩ := r; exact q _ s1 (.ret a) l1 d1 x D1 ⟨v, rfl, r⟩ p)

/-- a store where the name is the frame's local, or one of its own cells -/
noncomputable def Stores (fm : Fm) (x : Str) : Prop := fm.env.kindOf x = some .local ∨ (fm.env.kindOf x = some .cell ∧ ∃ c, fm.env.cells.lookup x = some c ∧ c ∈ fm.own ∧ ∀ y c', y ≠ x → fm.env.cells.lookup y = some c' → c' ≠ c)
/-- the same, as to what is told alone -/
noncomputable def StoresL (fm : Fm) (loc : Loc) (x : Str) : Prop := fm.env.kindOf x = some .local ∨ (fm.env.kindOf x = some .cell ∧ ∃ c, fm.env.cells.lookup x = some c ∧ c ∈ fm.own ∧ ∀ y c' a, y ≠ x → loc.lookup y = some a → fm.env.kindOf y ≠ some .local → fm.env.cells.lookup y = some c' → c' ≠ c)
theorem Stores.l {fm : Fm} {x : Str} (h : Stores fm x) (loc : Loc) : StoresL fm loc x := h.imp_right fun ⟨k, c, h1, h2, h3⟩ => ⟨k, c, h1, h2, fun y c' _ n _ _ e => h3 y c' n e⟩

/-- storing a name of the frame's own -/
theorem store_name {x : Str} {v : Value} {av : AV} {s : Shared} {Q : Unit → Shared → Prop} {E : Value → Shared → Prop} (D : St w.params h00 R fm loc led s) (r : VR (vis fm led s.heap) av v)
    (hk : fm.env.scope.kind = .function) (hx : StoresL fm loc x)
    (k : ∀ s', Step fm led led s s' → (∀ b o, s.heap.get? b = some o → b ≠ fm.env.locals → b ∉ fm.own → s'.heap.get? b = some o) → St w.params h00 R fm ((x, av) :: loc) led s' → Q () s') : wpAny (model prog w) A (storeName fm.env x v) Q E s := by
  have look : ∀ {y : Str} {a : AV}, ((x, av) :: loc).lookup y = some a → (y = x ∧ a = av) ∨ (y ≠ x ∧ loc.lookup y = some a) := fun {y a} e => by
    rw [List.lookup_cons] at e
    by_cases q : y = x
    · subst q; simp at e; exact .inl ⟨rfl, e.symm⟩
    · have : (y == x) = false := by simpa using q
      rw [this] at e; exact .inr ⟨q, e⟩
  rcases hx with hx | ⟨hx, c, hc, ho, hu⟩
  · obtain ⟨m, hm, hl⟩ := D.ns
    refine wpAny_storeName_local hx hm (fun h' hn hs => ?_) (by rw [hk]; rfl)
    have hL : fm.env.locals ∈ away fm led := List.mem_cons_self
    have vs : Ext (vis fm led s.heap) (vis fm led h') := fun b o e => hideAll_get _ ((hs.2 b fun q => hide_none e (q ▸ hL)).trans (hide_le _ _ e)) (hide_none e)
    have nL : ∀ a ∈ led.map (·.1), a ≠ fm.env.locals := fun a ha => (D.off a ha).1
    have nO : ∀ a ∈ fm.own, a ≠ fm.env.locals := fun a ha q => (List.nodup_cons.mp D.nd).1 (List.mem_append_left _ (q ▸ ha))
    have frr : ∀ a ∈ fm.outs, a ∈ fm.hid ∧ a ≠ fm.env.locals ∧ a ∉ fm.own ∧ ∃ o, h'.get? a = some o ∧ ∀ vs, o.data ≠ .fields vs := fun a h => by
      obtain ⟨h1, h2, h3, o, ho', hd⟩ := D.fr a h
      exact ⟨h1, h2, h3, o, (hs.2 a (by first | exact h2 | exact fun q => h3 (q ▸ ho))).trans ho', hd⟩
    have tn : ∀ a ∈ fm.outs, a ∈ fm.hid ∧ ∀ o, s.heap.get? a = some o → ∃ sl, h'.get? a = some { o with slots := sl } := fun a h => ⟨(D.fr a h).1, fun o e => ⟨o.slots, (hs.2 a (D.fr a h).2.1).trans e⟩⟩
    refine k _ ⟨fun b o e n1 _ _ _ => (hs.2 b n1).trans e, fun a ha => .inl ha, D.off, tn⟩ (fun b o e n1 _ => (hs.2 b n1).trans e) ⟨D.base.trans vs, ⟨_, hn, fun y a e l => ?_⟩, fun y a e l => ?_, fun p hp => ?_, D.nd, fun c hc => ?_, fun a ha => ?_, D.gens, D.drawn, D.os, D.dis, frr⟩
    · rcases look e with ⟨rfl, rfl⟩ | ⟨q, e⟩
      · exact ⟨v, by simp, r.mono vs⟩
      · obtain ⟨u, hu, ru⟩ := hl y a e l
        exact ⟨u, by simp [q, hu], ru.mono vs⟩
    · rcases look e with ⟨rfl, rfl⟩ | ⟨q, e⟩
      · exact absurd hx l
      · obtain ⟨c, u, hc, hi, ru⟩ := D.cel y a e l
        exact ⟨c, u, hc, hi.sameBut hs (fun q => by obtain ⟨o, ho, hd⟩ := hi; obtain ⟨o', es, ep, ho', hd', _⟩ := hm; rw [q, ho'] at ho; cases ho; rw [hd'] at hd; cases hd), ru.mono vs⟩
    · obtain ⟨o, ho, hr⟩ := D.ld p hp
      exact ⟨o, (hs.2 p.1 (nL _ (List.mem_map_of_mem hp))).trans ho, hr.mono vs⟩
    · obtain ⟨u, hi⟩ := D.own c hc
      exact ⟨u, hi.sameBut hs (nO c hc)⟩
    · obtain ⟨o, ho⟩ := D.low a ha
      by_cases q : a = fm.env.locals
      · obtain ⟨o', _, _, ho', _⟩ := hn; exact ⟨o', q ▸ ho'⟩
      · exact ⟨o, (hs.2 a q).trans ho⟩
  · obtain ⟨v0, hi0⟩ := D.own c ho
    refine wpAny_storeName_cell hk hx hc hi0 fun h' hi' hs => ?_
    have hC : c ∈ away fm led := away_mem.mpr (.inr (.inl ho))
    have vs : Ext (vis fm led s.heap) (vis fm led h') := fun b o e => hideAll_get _ ((hs.2 b fun q => hide_none e (q ▸ hC)).trans (hide_le _ _ e)) (hide_none e)
    have nL : ∀ a ∈ led.map (·.1), a ≠ c := fun a ha q => (D.off a ha).2 (q ▸ ho)
    have cL : fm.env.locals ≠ c := fun q => (List.nodup_cons.mp D.nd).1 (List.mem_append_left _ (q ▸ ho))
    obtain ⟨m, hm, hl⟩ := D.ns
    have frr : ∀ a ∈ fm.outs, a ∈ fm.hid ∧ a ≠ fm.env.locals ∧ a ∉ fm.own ∧ ∃ o, h'.get? a = some o ∧ ∀ vs, o.data ≠ .fields vs := fun a h => by
      obtain ⟨h1, h2, h3, o, ho', hd⟩ := D.fr a h
      exact ⟨h1, h2, h3, o, (hs.2 a (by first | exact h2 | exact fun q => h3 (q ▸ ho))).trans ho', hd⟩
    have tn : ∀ a ∈ fm.outs, a ∈ fm.hid ∧ ∀ o, s.heap.get? a = some o → ∃ sl, h'.get? a = some { o with slots := sl } := fun a h => ⟨(D.fr a h).1, fun o e => ⟨o.slots, (hs.2 a fun q => (D.fr a h).2.2.1 (q ▸ ho)).trans e⟩⟩
    refine k _ ⟨fun b o e _ n2 _ _ => (hs.2 b fun q => n2 (q ▸ ho)).trans e, fun a ha => .inl ha, D.off, tn⟩ (fun b o e _ n2 => (hs.2 b fun q => n2 (q ▸ ho)).trans e) ⟨D.base.trans vs, ⟨m, hm.sameBut hs cL, fun y a e l => ?_⟩, fun y a e l => ?_, fun p hp => ?_, D.nd, fun c' hc' => ?_, fun a ha => ?_, D.gens, D.drawn, D.os, D.dis, frr⟩
    · rcases look e with ⟨rfl, rfl⟩ | ⟨q, e⟩
      · rw [hx] at l; cases l
      · obtain ⟨u, hu, ru⟩ := hl y a e l; exact ⟨u, hu, ru.mono vs⟩
    · rcases look e with ⟨rfl, rfl⟩ | ⟨q, e⟩
      · exact ⟨c, v, hc, hi', r.mono vs⟩
      · obtain ⟨c', u, hc', hi, ru⟩ := D.cel y a e l
        exact ⟨c', u, hc', hi.sameBut hs (hu y c' a q e l hc'), ru.mono vs⟩
    · obtain ⟨o, ho', hr⟩ := D.ld p hp
      exact ⟨o, (hs.2 p.1 (nL _ (List.mem_map_of_mem hp))).trans ho', hr.mono vs⟩
    · by_cases q : c' = c
      · exact ⟨some v, q ▸ hi'⟩
      · obtain ⟨u, hi⟩ := D.own c' hc'; exact ⟨u, hi.sameBut hs q⟩
    · obtain ⟨o, ho'⟩ := D.low a ha
      by_cases q : a = c
      · obtain ⟨o', h1, _⟩ := hi'; exact ⟨o', q ▸ h1⟩
      · exact ⟨o, (hs.2 a q).trans ho'⟩

theorem TX.assign {x : Str} {pos' pos : Pos} {e : Expr} {Φ : AF → Loc → Led → Prop} (hk : fm.env.scope.kind = .function) (hx : Stores fm x)
    (h : TE prog w h00 R A fm loc led e fun a l1 d1 => Φ .next ((x, a) :: l1) d1)
    (hs : swapsWith e (some (.Name x pos')) pos.line fm.env = pure false := by rfl) : TX prog w h00 R A fm loc led (.Assign [.Name x pos'] e pos) Φ := fun s D Q E q =>
  wpAny_Assign_Name (h s D _ _ fun v s1 a l1 d1 x1 D1 r1 p => store_name D1 r1 hk (hx.l _) fun s2 x2 _ D2 => q _ s2 .next _ _ (x1.trans x2) D2 rfl p) hs

theorem TX.expr {pos : Pos} {e : Expr} {Φ : AF → Loc → Led → Prop}
    (h : TE prog w h00 R A fm loc led e fun a l1 d1 => a = .d .none ∧ Φ .next l1 d1)
    (hi : interactive fm.env = false := by rfl) (hs : swapsWith e none pos.line fm.env = pure false := by rfl) : TX prog w h00 R A fm loc led (.Expr e pos) Φ := fun s D Q E q =>
  wpAny_Expr (h s D _ _ fun v s1 a l1 d1 x1 D1 r1 p => by
    obtain ⟨rfl, p⟩ := p
    obtain ⟨as, r1⟩ := r1
    cases r1
    exact q _ s1 .next _ _ x1 D1 rfl p) hi hs

theorem TX.ret {pos : Pos} {e : Expr} {Φ : AF → Loc → Led → Prop} (h : TE prog w h00 R A fm loc led e fun a l1 d1 => Φ (.ret a) l1 d1) : TX prog w h00 R A fm loc led (.Return (some e) pos) Φ := fun s D Q E q =>
  wpAny_Return_some (h s D _ _ fun v s1 a l1 d1 x1 D1 r1 p => q _ s1 (.ret a) _ _ x1 D1 ⟨v, rfl, r1⟩ p)
theorem TX.if {test : Expr} {body orelse : List Stmt} {pos : Pos} {b : Bool} {Φ : AF → Loc → Led → Prop} (ht : PT prog w h00 R A fm loc led test b)
    (h1 : b = true → TS prog w h00 R A fm loc led body Φ) (h2 : b = false → TS prog w h00 R A fm loc led orelse Φ) : TX prog w h00 R A fm loc led (.If test body orelse pos) Φ := fun s D Q E q =>
  wpAny_If (ht s D _ _ fun h' tk x => by
    have D1 := D.quiet (tk := tk) x
    have go : ∀ {ss}, TS prog w h00 R A fm loc led ss Φ → wpAny (model prog w) A (execs ss fm.env) Q E { s with heap := h', toks := tk } := fun hh => hh _ D1 _ _ fun fl s2 af l2 d2 y D2 r2 p2 => q fl s2 af l2 d2 ((Step.quiet D x).trans y) D2 r2 p2
    cases b with
    | true => exact go (h1 rfl)
    | false => exact go (h2 rfl))
theorem TX.brk {pos : Pos} {Φ : AF → Loc → Led → Prop} (k : Φ .brk loc led) : TX prog w h00 R A fm loc led (.Break pos) Φ := fun s D Q E q => wpAny_Break (q _ s .brk loc led (Step.quiet (tk := s.toks) D Ext.rfl) D rfl k)
theorem TX.cont {pos : Pos} {Φ : AF → Loc → Led → Prop} (k : Φ .cont loc led) : TX prog w h00 R A fm loc led (.Continue pos) Φ := fun s D Q E q => wpAny_Continue (q _ s .cont loc led (Step.quiet (tk := s.toks) D Ext.rfl) D rfl k)
theorem TS.mono {ss : List Stmt} {Φ Ψ : AF → Loc → Led → Prop} (h : TS prog w h00 R A fm loc led ss Φ) (k : ∀ af l d, Φ af l d → Ψ af l d) : TS prog w h00 R A fm loc led ss Ψ := fun s D Q E q =>
  h s D Q E fun fl s' af l d x D' r p => q fl s' af l d x D' r (k _ _ _ p)
theorem St.forget {P : Params} {s : Shared} {loc' : Loc} (D : St P h00 R fm loc led s) (h : ∀ x a, loc'.lookup x = some a → loc.lookup x = some a) : St P h00 R fm loc' led s :=
  ⟨D.base, let ⟨m, hm, hl⟩ := D.ns; ⟨m, hm, fun x a e l => hl x a (h x a e) l⟩, fun x a e l => D.cel x a (h x a e) l, D.ld, D.nd, D.own, D.low, D.gens, D.drawn, D.os, D.dis, D.fr⟩
theorem TS.forget {ss : List Stmt} {Φ : AF → Loc → Led → Prop} (loc' : Loc) (h : ∀ x a, loc'.lookup x = some a → loc.lookup x = some a) (t : TS prog w h00 R A fm loc' led ss Φ) : TS prog w h00 R A fm loc led ss Φ :=
  fun s D Q E q => t s (D.forget h) Q E q
end
end Mine
end
section
open PySem PySem.Spec PySem.Calls PyProof.Rows PySem.W
set_option maxRecDepth 100000
set_option linter.unusedVariables false
namespace Mine

theorem VRs.len {B : Heap} {as : List AV} {vs : List Value} (h : VRs B as vs) : vs.length = as.length := by
  induction h with
  | nil => rfl
  | cons _ _ ih => rw [List.length_cons, List.length_cons, ih]
theorem bindL_other {k : Str → Option NameKind} {x : Str} : ∀ {r : List (Str × Value)} {m : Str → Option Value}, x ∉ r.map (·.1) → bindL k r m x = m x
  | [], _, _ => rfl
  | (n, v) :: r, m, h => by
    have h1 : x ≠ n := fun q => h (q ▸ List.mem_cons_self)
    show bindL k r _ x = _
    rw [bindL_other fun q => h (List.mem_cons_of_mem _ q)]
    split <;> simp [h1]
theorem bindC_other {k : Str → Option NameKind} {x : Str} : ∀ {r : List (Str × Value)} {m : Str → Option Value}, x ∉ r.map (·.1) → bindC k r m x = m x
  | [], _, _ => rfl
  | (n, v) :: r, m, h => by
    have h1 : x ≠ n := fun q => h (q ▸ List.mem_cons_self)
    show bindC k r _ x = _
    rw [bindC_other fun q => h (List.mem_cons_of_mem _ q)]
    split <;> simp [h1]
theorem zip_names {names : List Str} {vals : List Value} {x : Str} (h : x ∈ (names.zip vals).map (·.1)) : x ∈ names := by
  obtain ⟨⟨a, b⟩, hp, rfl⟩ := List.mem_map.mp h
  exact (List.of_mem_zip hp).1
theorem bindL_at {B : Heap} {k : Str → Option NameKind} {x : Str} {av : AV} : ∀ {names : List Str} {args : List AV} {vals : List Value} {m : Str → Option Value}, names.Nodup → VRs B args vals →
    (names.zip args).lookup x = some av → k x = some .local → ∃ v, bindL k (names.zip vals) m x = some v ∧ VR B av v
  | [], _, _, _, _, _, e, _ => by cases e
  | n :: names, [], _, _, _, _, e, _ => by cases e
  | n :: names, a :: args, v :: vals, m, nd, .cons r rs, e, l => by
    have nd' := List.nodup_cons.mp nd
    rw [List.zip_cons_cons, List.lookup_cons] at e
    by_cases q : x = n
    · subst q
      simp at e; subst e
      refine ⟨v, ?_, r⟩
      show bindL k (names.zip vals) _ x = _
      rw [bindL_other fun h => nd'.1 (zip_names h), if_pos l]; simp
    · have : (x == n) = false := by simpa using q
      rw [this] at e
      show ∃ u, bindL k (names.zip vals) _ x = some u ∧ _
      exact bindL_at nd'.2 rs e l
theorem bindC_at {B : Heap} {k : Str → Option NameKind} {x : Str} {av : AV} : ∀ {names : List Str} {args : List AV} {vals : List Value} {m : Str → Option Value}, names.Nodup → VRs B args vals →
    (names.zip args).lookup x = some av → k x ≠ some .local → ∃ v, bindC k (names.zip vals) m x = some v ∧ VR B av v
  | [], _, _, _, _, _, e, _ => by cases e
  | n :: names, [], _, _, _, _, e, _ => by cases e
  | n :: names, a :: args, v :: vals, m, nd, .cons r rs, e, l => by
    have nd' := List.nodup_cons.mp nd
    rw [List.zip_cons_cons, List.lookup_cons] at e
    by_cases q : x = n
    · subst q
      simp at e; subst e
      refine ⟨v, ?_, r⟩
      show bindC k (names.zip vals) _ x = _
      rw [bindC_other fun h => nd'.1 (zip_names h), if_neg l]; simp
    · have : (x == n) = false := by simpa using q
      rw [this] at e
      show ∃ u, bindC k (names.zip vals) _ x = some u ∧ _
      exact bindC_at nd'.2 rs e l
theorem mem_of_lookup {α β : Type} [BEq α] [LawfulBEq α] {x : α} {b : β} : ∀ {l : List (α × β)}, l.lookup x = some b → (x, b) ∈ l
  | [], e => by cases e
  | (a, c) :: l, e => by
    rw [List.lookup_cons] at e
    by_cases q : x = a
    · subst q; simp at e; subst e; exact List.mem_cons_self
    · have : (x == a) = false := by simpa using q
      rw [this] at e; exact List.mem_cons_of_mem _ (mem_of_lookup e)

section
variable {prog : Program} {w : World} {h00 : Heap} {R : Shared} {A : Around}
noncomputable abbrev fmOf (fd : FuncData) (L f : Addr) (hid : List Addr) : Fm := ⟨callEnvC fd L f, (cellsFrom (L + 1) fd.scope.names []).map (·.2), hid, []⟩

/-- a def of the text, called: its body in a frame of its own -/
theorem enter_def {K : Frag} {p : Program} {loose : List Str} {mg mb : Str → Option Value} {f : Addr} {fd : FuncData} {oc : Value} {od : Option Addr} {osl : Array (Option Value)} {body : List Stmt} {names : List Str} {args : List AV}
    (X : K.In h00) (T : TopRead p loose mg mb h00) (ho : K.lookup f = some ⟨oc, od, .func fd, osl⟩) (hcd : codeIn K fd.code fd.qualname = true) (hroom : A.depth < recursionLimit) (hbody : fd.body = .stmts body) (hclo : fd.closure = [])
    (hbind : ∀ vals : List Value, vals.length = args.length → bindArgs fd ⟨vals, []⟩ = pure (names.zip vals)) (hnd : names.Nodup)
    (hkind : ∀ n, ∀ x ∈ names, fd.scope.names.lookup x = some .local ∨ (fd.scope.names.lookup x = some .cell ∧ ((cellsFrom n fd.scope.names []).lookup x).isSome = true))
    (hown : ∀ n, ∀ c ∈ (cellsFrom n fd.scope.names []).map (·.2), ∃ x, (cellsFrom n fd.scope.names []).lookup x = some c)
    {X' : List Addr} {s : Shared} {vals : List Value} {RR : Result → Shared → Prop} (B : Bs h00 R X' s) (rv : VRs (hideAll s.heap X') args vals)
    (led : Led) (hl : ∀ a ∈ led.map (·.1), a ∉ X')
    (hled : ∀ p ∈ led, ∃ o, s.heap.get? p.1 = some o ∧ OR w.params (hideAll s.heap (led.map (·.1) ++ X')) p.2 o) (hln : (led.map (·.1)).Nodup) (rv' : VRs (hideAll s.heap (led.map (·.1) ++ X')) args vals)
    (base' : Ext h00 (hideAll s.heap (led.map (·.1) ++ X')))
    (go : ∀ s1, St w.params h00 R (fmOf fd s.heap.objs.size f X') (names.zip args) led s1 → Ext s.heap s1.heap → s.heap.get? s.heap.objs.size = none → (∀ c ∈ (fmOf fd s.heap.objs.size f X').own, s.heap.get? c = none) →
      wpAny (model prog w) (A.deeper (callEnvC fd s.heap.objs.size f)) (execs body (callEnvC fd s.heap.objs.size f)) (fun fl s' => RR (.ok (.ret (match fl with | .ret v => v | _ => .none))) s')
        (fun e s' => wpAny (model prog w) (A.deeper (callEnvC fd s.heap.objs.size f)) (leaving (callEnvC fd s.heap.objs.size f) e) (fun _ s'' => RR (.error e) s'') (fun e' s'' => RR (.error e') s'') s') s1)
    (hco : fd.scope.isCoroutine = false := by rfl) (hgen : fd.scope.isGenerator = false := by rfl) (hk : fd.scope.kind = .function := by rfl) :
    codeAny (model prog w) A (.call (.ref f) ⟨vals, []⟩) RR s := by
  have KX : K.In s.heap := (X.keeps B.base).keeps hide_le
  have none_at : ∀ a, s.heap.objs.size ≤ a → s.heap.get? a = none := fun a ha => by
    cases e : s.heap.get? a with
    | none => rfl
    | some o => exact absurd (Heap.lt_size e) (Nat.not_lt.mpr ha)
  refine codeAny_call_cells hroom (KX _ _ ho) rfl (T.keeps (B.base.trans hide_le)).nolimit (codeRec_of KX hcd) hbody (hbind vals rv.len) hclo (fun x hx => ?_) (fun s1 x => ?_) hco hgen hk
  · exact hkind _ x.1 (zip_names (List.mem_map_of_mem hx))
  · have kp : Ext s.heap s1.heap := x.toInCall.keep
    have cabove : ∀ c ∈ (cellsFrom (s.heap.objs.size + 1) fd.scope.names []).map (·.2), s.heap.objs.size < c := fun c hc => by
      obtain ⟨⟨n, c'⟩, hm, rfl⟩ := List.mem_map.mp hc
      exact x.above n c' hm
    refine go s1 ?_ kp (none_at _ (Nat.le_refl _)) fun c hc => none_at c (Nat.le_of_lt (cabove c hc))
    have hA : ∀ b o, (hideAll s.heap (led.map (·.1) ++ X')).get? b = some o → b ∉ away (fmOf fd s.heap.objs.size f X') led := fun b o e hb => by
      have e' := hide_le _ _ e
      have nb := hide_none e
      rw [List.mem_append, not_or] at nb
      rcases away_mem.mp hb with q | q | q | q
      · rw [show b = s.heap.objs.size from q, none_at _ (Nat.le_refl _)] at e'; cases e'
      · rw [none_at b (Nat.le_of_lt (cabove b q))] at e'; cases e'
      · exact nb.1 q
      · exact nb.2 q
    have vv : Ext (hideAll s.heap (led.map (·.1) ++ X')) (vis (fmOf fd s.heap.objs.size f X') led s1.heap) := fun b o e => hideAll_get _ (kp _ _ (hide_le _ _ e)) (hA b o e)
    have same : s1.gens = s.gens ∧ s1.drawn = s.drawn ∧ s1.os = s.os := by obtain ⟨h, t, e⟩ := x.toInCall.same; rw [e]; exact ⟨rfl, rfl, rfl⟩
    refine ⟨base'.trans vv, ⟨_, x.toInCall.ns, fun y a e l => ?_⟩, fun y a e l => ?_, fun p hp => ?_, ?_, fun c hc => ?_, fun a ha => ?_, same.1.trans B.gens, same.2.1.trans B.drawn, same.2.2.trans B.os, hl, fun a ha => nomatch ha⟩
    · exact bindL_at hnd (rv'.mono vv) e l
    · obtain ⟨v, hv, hr⟩ := bindC_at (m := fun _ => none) hnd (rv'.mono vv) e l
      have hy : y ∈ names := (List.of_mem_zip (mem_of_lookup e)).1
      rcases hkind (s.heap.objs.size + 1) y hy with q | ⟨_, q⟩
      · exact absurd q l
      · obtain ⟨c, hc⟩ := Option.isSome_iff_exists.mp q
        have z := x.cell y c hc
        rw [hv] at z
        exact ⟨c, v, hc, z, hr⟩
    · obtain ⟨o, h1, h2⟩ := hled p hp
      exact ⟨o, kp _ _ h1, h2.mono vv⟩
    · refine List.nodup_cons.mpr ⟨fun h => ?_, List.nodup_append.mpr ⟨?_, hln, fun a ha b hb q => ?_⟩⟩
      · rcases List.mem_append.mp h with h | h
        · exact absurd (cabove _ h) (Nat.lt_irrefl _)
        · obtain ⟨p, hp, e⟩ := List.mem_map.mp h
          obtain ⟨o, h1, _⟩ := hled p hp
          rw [e] at h1
          exact absurd (Heap.lt_size h1) (Nat.lt_irrefl _)
      · exact List.pairwise_map.mpr (x.apart.imp fun h => h)
      · subst q
        obtain ⟨p, hp, e⟩ := List.mem_map.mp hb
        obtain ⟨o, h1, _⟩ := hled p hp
        have := Heap.lt_size h1
        rw [e] at this
        exact absurd (cabove _ ha) (Nat.not_lt.mpr (Nat.le_of_lt this))
    · obtain ⟨n, hn⟩ := hown _ c hc
      exact ⟨_, x.cell n c hn⟩
    · obtain ⟨o, h⟩ := B.there a ha
      exact ⟨o, kp _ _ h⟩

theorem CallP.of_body {K : Frag} {p : Program} {loose : List Str} {mg mb : Str → Option Value} {f : Addr} {fd : FuncData} {oc : Value} {od : Option Addr} {osl : Array (Option Value)} {body : List Stmt} {names : List Str} {args : List AV} {c : AV}
    (X : K.In h00) (T : TopRead p loose mg mb h00) (ho : K.lookup f = some ⟨oc, od, .func fd, osl⟩) (hcd : codeIn K fd.code fd.qualname = true) (hroom : A.depth < recursionLimit) (hbody : fd.body = .stmts body) (hclo : fd.closure = [])
    (hbind : ∀ vals : List Value, vals.length = args.length → bindArgs fd ⟨vals, []⟩ = pure (names.zip vals)) (hnd : names.Nodup)
    (hkind : ∀ n, ∀ x ∈ names, fd.scope.names.lookup x = some .local ∨ (fd.scope.names.lookup x = some .cell ∧ ((cellsFrom n fd.scope.names []).lookup x).isSome = true))
    (hown : ∀ n, ∀ c ∈ (cellsFrom n fd.scope.names []).map (·.2), ∃ x, (cellsFrom n fd.scope.names []).lookup x = some c)
    (go : ∀ L hid, TS prog w h00 R (A.deeper (callEnvC fd L f)) (fmOf fd L f hid) (names.zip args) [] body fun af _ _ => af = .ret c ∨ (af = .next ∧ c = .d .none))
    (hco : fd.scope.isCoroutine = false := by rfl) (hgen : fd.scope.isGenerator = false := by rfl) (hk : fd.scope.kind = .function := by rfl) : CallP prog w h00 R A (.ref f) args c := fun X' s vals Q E B rv k => by
  refine wpAny_call (enter_def (R := R) X T ho hcd hroom hbody hclo hbind hnd hkind hown B rv [] (fun _ h => nomatch h) (fun _ h => nomatch h) List.nodup_nil rv B.base (fun s1 D kp nL nO => ?_) hco hgen hk)
  refine go _ X' s1 D _ _ fun fl s' af loc' led' x D' r φ => ?_
  have kp' : Ext s.heap s'.heap := fun b o e => by
    refine x.keep b o (kp _ _ e) (fun q => ?_) (fun q => ?_) (fun h => nomatch h) (fun h => nomatch h)
    · rw [show b = s.heap.objs.size from q, nL] at e; cases e
    · rw [nO b q] at e; cases e
  have sub : Ext (vis (fmOf fd s.heap.objs.size f X') led' s'.heap) (hideAll s'.heap X') := fun b o e => hideAll_get _ (hide_le _ _ e) fun hb => hide_none e (away_mem.mpr (.inr (.inr (.inr hb))))
  have fin : ∀ v, VR (hideAll s'.heap X') c v → Q v s' := fun v hv => by
    have e : s' = { s with heap := s'.heap, toks := s'.toks } := by
      have h1 := D'.gens.trans B.gens.symm
      have h2 := D'.drawn.trans B.drawn.symm
      have h3 := D'.os.trans B.os.symm
      obtain ⟨a, b, c, d, e⟩ := s'
      obtain ⟨a', b', c', d', e'⟩ := s
      dsimp only at h1 h2 h3
      subst h1 h2 h3; rfl
    rw [e]; exact k v _ _ kp' hv
  rcases φ with rfl | ⟨rfl, rfl⟩
  · obtain ⟨v, rfl, hr⟩ := r
    exact fin v (hr.mono sub)
  · cases r
    exact fin .none ⟨_, .none⟩
end
end Mine
end
section
open PySem PySem.Spec PySem.Calls PyProof.Rows PySem.W
set_option maxRecDepth 100000
set_option linter.unusedVariables false
namespace Mine

section
variable (prog : Program) (w : World) (h00 : Heap) (R : Shared) (A : Around)
/-- what may be gone through, and its items -/
noncomputable def IterP (av : AV) (xs : List AV) : Prop := ∀ (X : List Addr) (s : Shared) (v : Value) (Q : Value → Shared → Prop) (E : Value → Shared → Prop), Bs h00 R X s → VR (hideAll s.heap X) av v →
  (∀ I fp h' tk Stt, Ext s.heap h' → s.heap.get? I = none → (∀ i h, Stt i h → ∃ o, h.get? I = some o ∧ ∀ u, o.data ≠ .cell u) → (∀ b ∈ fp, b = I ∨ (b ∉ X ∧ ∃ o, s.heap.get? b = some o)) →
    Walks prog w A I fp [I] xs.length (fun i u => ∃ a, xs[i]? = some a ∧ VR (hideAll s.heap X) a u) Stt → Stt 0 h' → Q (.ref I) { s with heap := h', toks := tk }) → wpAny (model prog w) A (pyIter v) Q E s
end

theorem St.more {P : Params} {h00 : Heap} {R : Shared} {fm : Fm} {loc : Loc} {led : Led} {s : Shared} (D : St P h00 R fm loc led s) {I : Addr} {h' : Heap} {tk : Nat} (k : Ext s.heap h') (n : s.heap.get? I = none) (hI : ∃ o, h'.get? I = some o) :
    St P h00 R { fm with hid := I :: fm.hid } loc led { s with heap := h', toks := tk } := by
  have vv : Ext (vis fm led s.heap) (vis { fm with hid := I :: fm.hid } led h') := fun b o e => hideAll_get _ (k _ _ (hide_le _ _ e)) fun hb => by
    have nb := hide_none e
    rw [away_mem] at nb
    simp only [not_or] at nb
    rcases away_mem.mp hb with q | q | q | q
    · exact nb.1 q
    · exact nb.2.1 q
    · exact nb.2.2.1 q
    · rcases List.mem_cons.mp q with q | q
      · rw [q] at e; have := hide_le _ _ e; rw [n] at this; cases this
      · exact nb.2.2.2 q
  refine ⟨D.base.trans vv, ?_, fun x av e l => ?_, fun p hp => ?_, D.nd, fun c hc => ?_, fun a ha => ?_, D.gens, D.drawn, D.os, fun a ha h => ?_, fun a ha => by obtain ⟨h1, h2, h3, o, ho, hd⟩ := D.fr a ha; exact ⟨List.mem_cons_of_mem _ h1, h2, h3, o, k _ _ ho, hd⟩⟩
  · obtain ⟨m, hn, hl⟩ := D.ns
    exact ⟨m, hn.keeps k, fun x av e l => by obtain ⟨v, hv, hr⟩ := hl x av e l; exact ⟨v, hv, hr.mono vv⟩⟩
  · obtain ⟨c, v, hc, hi, hr⟩ := D.cel x av e l; exact ⟨c, v, hc, hi.keeps k, hr.mono vv⟩
  · obtain ⟨o, ho, hr⟩ := D.ld p hp; exact ⟨o, k _ _ ho, hr.mono vv⟩
  · obtain ⟨v, h⟩ := D.own c hc; exact ⟨v, h.keeps k⟩
  · rcases List.mem_cons.mp ha with rfl | ha
    · exact hI
    · obtain ⟨o, h⟩ := D.low a ha; exact ⟨o, k _ _ h⟩
  · rcases List.mem_cons.mp h with q | q
    · obtain ⟨p, hp, rfl⟩ := List.mem_map.mp ha
      obtain ⟨o, ho, _⟩ := D.ld p hp
      rw [q, n] at ho; cases ho
    · exact D.dis a ha q
theorem vis_less {fm : Fm} {led : Led} {h : Heap} {I : Addr} : Ext (vis { fm with hid := I :: fm.hid } led h) (vis fm led h) := fun b o e => hideAll_get _ (hide_le _ _ e) fun hb => by
  refine hide_none e ?_
  rcases away_mem.mp hb with q | q | q | q
  · exact away_mem.mpr (.inl q)
  · exact away_mem.mpr (.inr (.inl q))
  · exact away_mem.mpr (.inr (.inr (.inl q)))
  · exact away_mem.mpr (.inr (.inr (.inr (List.mem_cons_of_mem _ q))))
theorem St.less {P : Params} {h00 : Heap} {R : Shared} {fm : Fm} {loc : Loc} {led : Led} {s : Shared} {I : Addr} (nI : I ∉ fm.outs) (D : St P h00 R { fm with hid := I :: fm.hid } loc led s) : St P h00 R fm loc led s := by
  refine ⟨D.base.trans vis_less, ?_, fun x av e l => ?_, fun p hp => ?_, D.nd, D.own, fun a ha => D.low a (List.mem_cons_of_mem _ ha), D.gens, D.drawn, D.os, fun a ha h => D.dis a ha (List.mem_cons_of_mem _ h), fun a ha => by obtain ⟨h1, h2, h3, o, ho, hd⟩ := D.fr a ha; exact ⟨(List.mem_cons.mp h1).resolve_left fun q => nI (q ▸ ha), h2, h3, o, ho, hd⟩⟩
  · obtain ⟨m, hn, hl⟩ := D.ns
    exact ⟨m, hn, fun x av e l => by obtain ⟨v, hv, hr⟩ := hl x av e l; exact ⟨v, hv, hr.mono vis_less⟩⟩
  · obtain ⟨c, v, hc, hi, hr⟩ := D.cel x av e l; exact ⟨c, v, hc, hi, hr.mono vis_less⟩
  · obtain ⟨o, ho, hr⟩ := D.ld p hp; exact ⟨o, ho, hr.mono vis_less⟩
/-- the state when all but one hidden address stays -/
theorem St.turned {P : Params} {h00 : Heap} {R : Shared} {fm : Fm} {loc : Loc} {led : Led} {s : Shared} {I : Addr} (D : St P h00 R { fm with hid := I :: fm.hid } loc led s) {h' : Heap} {tk : Nat} (k : ∀ b o, b ≠ I → s.heap.get? b = some o → h'.get? b = some o)
    (hJ : ∃ o, s.heap.get? I = some o ∧ ∀ u, o.data ≠ .cell u) (hI : ∃ o, h'.get? I = some o) (hL : I ≠ fm.env.locals) (hO : I ∉ fm.own) (hl : I ∉ led.map (·.1)) (nI : I ∉ fm.outs) : St P h00 R { fm with hid := I :: fm.hid } loc led { s with heap := h', toks := tk } := by
  have vv : Ext (vis { fm with hid := I :: fm.hid } led s.heap) (vis { fm with hid := I :: fm.hid } led h') := fun b o e => hideAll_get _ (k _ _ (fun q => hide_none e (away_mem.mpr (.inr (.inr (.inr (q ▸ List.mem_cons_self)))))) (hide_le _ _ e)) (hide_none e)
  refine ⟨D.base.trans vv, ?_, fun x av e l => ?_, fun p hp => ?_, D.nd, fun c hc => ?_, fun a ha => ?_, D.gens, D.drawn, D.os, D.dis, fun a ha => by obtain ⟨h1, h2, h3, o, ho, hd⟩ := D.fr a ha; exact ⟨h1, h2, h3, o, k _ _ (fun q => nI (q ▸ ha)) ho, hd⟩⟩
  · obtain ⟨m, ⟨o, es, ep, ho, r⟩, h2⟩ := D.ns
    exact ⟨m, ⟨o, es, ep, k _ _ (fun q => hL q.symm) ho, r⟩, fun x av e l => by obtain ⟨v, hv, hr⟩ := h2 x av e l; exact ⟨v, hv, hr.mono vv⟩⟩
  · obtain ⟨c, v, hc, ⟨o, ho, hd⟩, hr⟩ := D.cel x av e l
    by_cases q : c = I
    · obtain ⟨o', e', n'⟩ := hJ
      rw [q, e'] at ho; cases ho
      exact absurd hd (n' _)
    · exact ⟨c, v, hc, ⟨o, k _ _ q ho, hd⟩, hr.mono vv⟩
  · obtain ⟨o, ho, hr⟩ := D.ld p hp; exact ⟨o, k _ _ (fun q => hl (q ▸ List.mem_map_of_mem hp)) ho, hr.mono vv⟩
  · obtain ⟨v, o, h, hd⟩ := D.own c hc; exact ⟨v, o, k _ _ (fun q => hO (q ▸ hc)) h, hd⟩
  · by_cases q : a = I
    · exact q ▸ hI
    · obtain ⟨o, h⟩ := D.low a ha; exact ⟨o, k _ _ q h⟩

section
variable {prog : Program} {w : World} {h00 : Heap} {R : Shared} {A : Around} {fm : Fm} {loc : Loc} {led : Led}
theorem Step.less {I : Addr} {l1 l2 : Led} {s s' : Shared} (nI : I ∉ fm.outs) (x : Step { fm with hid := I :: fm.hid } l1 l2 s s') : Step fm l1 l2 s s' := ⟨x.keep, x.new, x.off, fun a ha => ⟨(List.mem_cons.mp (x.turn a ha).1).resolve_left fun q => nI (q ▸ ha), (x.turn a ha).2⟩⟩
theorem Step.more {I : Addr} {l1 l2 : Led} {s s' : Shared} (x : Step fm l1 l2 s s') : Step { fm with hid := I :: fm.hid } l1 l2 s s' := ⟨x.keep, x.new, x.off, fun a ha => ⟨List.mem_cons_of_mem _ (x.turn a ha).1, (x.turn a ha).2⟩⟩

theorem Step.after {I : Addr} {l1 l2 l3 : Led} {s1 s2 s3 : Shared} (x : Step fm l1 l2 s1 s2) (nI : s1.heap.get? I = none)
    (keep : ∀ b o, s2.heap.get? b = some o → b ≠ I → b ≠ fm.env.locals → b ∉ fm.own → b ∉ l2.map (·.1) → b ∉ fm.outs → s3.heap.get? b = some o) (new : ∀ a ∈ l3.map (·.1), a ∈ l2.map (·.1) ∨ s2.heap.get? a = none)
    (off : ∀ a ∈ l3.map (·.1), a ≠ fm.env.locals ∧ a ∉ fm.own) (turn : ∀ a ∈ fm.outs, ∀ o, s2.heap.get? a = some o → ∃ sl, s3.heap.get? a = some { o with slots := sl }) : Step fm l1 l3 s1 s3 where
  keep := fun b o e hL ho hl ht => keep b o (x.keep b o e hL ho hl ht) (fun q => by rw [q, nI] at e; cases e) hL ho (fun h2 => by
    rcases x.new b h2 with q | q
    · exact hl q
    · rw [e] at q; cases q) ht
  turn := fun a ha => ⟨(x.turn a ha).1, fun o e => by
    obtain ⟨sl, h1⟩ := (x.turn a ha).2 o e
    obtain ⟨sl', h2⟩ := turn a ha _ h1
    exact ⟨sl', h2⟩⟩
  new := fun a ha => by
    rcases new a ha with q | q
    · exact x.new a q
    · by_cases h1 : a ∈ l1.map (·.1)
      · exact .inl h1
      · cases hz : s1.heap.get? a with
        | none => exact .inr rfl
        | some o =>
          have f := off a ha
          by_cases ht : a ∈ fm.outs
          · obtain ⟨sl, z⟩ := (x.turn a ht).2 o hz
            rw [q] at z; cases z
          · have z := x.keep a o hz f.1 f.2 h1 ht
            rw [q] at z; cases z
  off := off

/-- for x in what may be gone through, by what holds between the turns -/
theorem TX.for {x : Str} {px pos : Pos} {iter : Expr} {body : List Stmt} {av : AV} {xs : List AV} {Φ : AF → Loc → Led → Prop} (hk : fm.env.scope.kind = .function) (hx : Stores fm x)
    (he : PE prog w h00 R A fm loc led iter av) (hi : IterP prog w h00 R A av xs) (Inv : Nat → Loc → Led → Prop) (h0 : Inv 0 loc led)
    (turn : ∀ hid i a l d, xs[i]? = some a → Inv i l d → TS prog w h00 R A { fm with hid := hid } ((x, a) :: l) d body fun af l' d' => match af with
      | .next => Inv (i + 1) l' d' | .cont => Inv (i + 1) l' d' | .brk => Φ .next l' d' | .ret r => Φ (.ret r) l' d')
    (fin : ∀ l d, Inv xs.length l d → Φ .next l d) (hs : ∀ x, foldedSetIterable iter fm.env x = pure x := by intro _; rfl) :
    TX prog w h00 R A fm loc led (.For (.Name x px) iter body [] pos) Φ := fun s D Q E q => by
  refine wpAny_For (he s D _ _ fun v h1 t1 k1 r1 => ?_) hs
  have D1 := D.quiet (tk := t1) k1
  refine hi _ _ v _ _ D1.bs r1 fun I fp h2 t2 Stt k2 nI hN hfp W st => ?_
  have eI := hN _ _ st
  have D2 : St w.params h00 R { fm with hid := I :: fm.hid } loc led { s with heap := h2, toks := t2 } := D1.more k2 nI (let ⟨o, h, _⟩ := eI; ⟨o, h⟩)
  have nI0 : s.heap.get? I = none := by
    cases e : s.heap.get? I with
    | none => rfl
    | some o => have := k1 _ _ e; rw [show ({ s with heap := h1, toks := t1 } : Shared).heap.get? I = h1.get? I from rfl] at nI; rw [this] at nI; cases nI
  have S2 : Step fm led led s { s with heap := h2, toks := t2 } := (Step.quiet D k1).trans (Step.quiet D1 k2)
  have nled : I ∉ led.map (·.1) := fun h => by
    obtain ⟨p, hp, e⟩ := List.mem_map.mp h
    obtain ⟨o, ho, _⟩ := D1.ld p hp
    rw [e, nI] at ho; cases ho
  have nL : I ≠ fm.env.locals := fun h => by obtain ⟨m, ⟨o, _, _, ho, _⟩, _⟩ := D1.ns; rw [← h, nI] at ho; cases ho
  have nO : I ∉ fm.own := fun h => by obtain ⟨v, o, ho, _⟩ := D1.own I h; rw [nI] at ho; cases ho
  have nT : I ∉ fm.outs := fun h => by obtain ⟨_, _, _, o, ho, _⟩ := D1.fr I h; rw [nI] at ho; cases ho
  have hx2 : Stores { fm with hid := I :: fm.hid } x := hx
  have up : ∀ {s' : Shared} {d : Led}, Step fm led d s s' → Ext (hideAll h1 (away fm led)) (vis fm d s'.heap) → True := fun _ _ => trivial
  refine codeAny_forLoop_any (fun n s' => ∃ i l d, n = xs.length + 1 - i ∧ i ≤ xs.length ∧ St w.params h00 R { fm with hid := I :: fm.hid } l d s' ∧ Stt i s'.heap ∧ Inv i l d ∧ Step fm led d s s' ∧ I ∉ d.map (·.1) ∧ Step fm led d { s with heap := h1, toks := t1 } s') ?_ (xs.length + 1)
    ⟨0, loc, led, rfl, Nat.zero_le _, D2, st, h0, S2, nled, Step.quiet D1 k2⟩
  rintro n s' ⟨i, l, d, rfl, hle, D', st', iv, S', nd, S1'⟩
  have stay : ∀ {s'' : Shared} {d'' : Led} (h : ∀ b o, s'.heap.get? b = some o → b ≠ I → b ≠ fm.env.locals → b ∉ fm.own → b ∉ d.map (·.1) → b ∉ fm.outs → s''.heap.get? b = some o) (new : ∀ a ∈ d''.map (·.1), a ∈ d.map (·.1) ∨ s'.heap.get? a = none)
      (off : ∀ a ∈ d''.map (·.1), a ≠ fm.env.locals ∧ a ∉ fm.own) (turn : ∀ a ∈ fm.outs, ∀ o, s'.heap.get? a = some o → ∃ sl, s''.heap.get? a = some { o with slots := sl }), Step fm led d'' s s'' ∧ Step fm led d'' { s with heap := h1, toks := t1 } s'' := fun h n o t => ⟨S'.after nI0 h n o t, S1'.after nI h n o t⟩
  by_cases hlt : i < xs.length
  · refine W.item i s' _ _ hlt st' fun u h3 t3 hp st3 k3 => ?_
    obtain ⟨a, ha, ra⟩ := hp
    have k3' : ∀ b o, b ≠ I → s'.heap.get? b = some o → h3.get? b = some o := fun b o hb e => k3 b o (by simpa using hb) e
    have D3 := D'.turned (h' := h3) (tk := t3) k3' (hN _ _ st') (let ⟨o, h, _⟩ := hN _ _ st3; ⟨o, h⟩) nL nO nd nT
    have ra3 : VR (vis { fm with hid := I :: fm.hid } d h3) a u := by
      have e1 := (stay (s'' := { s' with heap := h3, toks := t3 }) (d'' := d) (fun b o e n1 _ _ _ _ => k3' b o n1 e) (fun a ha => .inl ha) D'.off (fun a ha o e => ⟨o.slots, k3' a o (fun q => nT (q ▸ ha)) e⟩)).2
      refine ra.mono fun b o e => ?_
      have e2 := e1.ext b o e
      have nb := hide_none e2
      refine hideAll_get _ (hide_le _ _ e2) fun hb => nb ?_
      rcases away_mem.mp hb with z | z | z | z
      · exact away_mem.mpr (.inl z)
      · exact away_mem.mpr (.inr (.inl z))
      · exact away_mem.mpr (.inr (.inr (.inl z)))
      · rcases List.mem_cons.mp z with z | z
        · exfalso
          have := hide_le _ _ e
          rw [z] at this
          rw [show ({ s with heap := h1, toks := t1 } : Shared).heap.get? I = h1.get? I from rfl] at nI
          rw [nI] at this; cases this
        · exact away_mem.mpr (.inr (.inr (.inr z)))
    refine wpAny_pure (wpAny_assign_Name (show wpAny _ _ (storeName ({ fm with hid := I :: fm.hid } : Fm).env x u) _ _ _ from store_name D3 ra3 hk (hx2.l _) fun s4 S4 _ D4 => ?_))
    refine turn (I :: fm.hid) i a l d ha iv s4 D4 _ _ fun fl s5 af l' d' S5 D5 r5 p5 => ?_
    have S45 : Step { fm with hid := I :: fm.hid } d d' { s' with heap := h3, toks := t3 } s5 := S4.trans S5
    have T := stay (s'' := s5) (d'' := d') (fun b o e n1 n2 n3 n4 n5 => S45.keep b o (k3' b o n1 e) n2 n3 n4 n5) (fun a ha => by
      rcases S45.new a ha with z | z
      · exact .inl z
      · refine .inr ?_
        cases e : s'.heap.get? a with
        | none => rfl
        | some o =>
          by_cases hb : a = I
          · obtain ⟨o', h', _⟩ := hN _ _ st3
            rw [hb, show ({ s' with heap := h3, toks := t3 } : Shared).heap.get? I = h3.get? I from rfl, h'] at z; cases z
          · have := k3' a o hb e
            rw [show ({ s' with heap := h3, toks := t3 } : Shared).heap.get? a = h3.get? a from rfl, this] at z; cases z) S45.off (fun a ha o e => (S45.turn a ha).2 o (k3' a o (fun q => nT (q ▸ ha)) e))
    have st5 : Stt (i + 1) s5.heap := W.frame _ _ _ st3 fun b hb o e => by
      rcases hfp b hb with rfl | ⟨nX, o', eo⟩
      · refine S45.keep _ o e nL nO nd nT
      · rw [away_mem] at nX
        simp only [not_or] at nX
        have nd2 : b ∉ d.map (·.1) := fun h => by
          rcases S1'.new b h with z | z
          · exact nX.2.2.1 z
          · rw [eo] at z; cases z
        exact S45.keep b o e nX.1 nX.2.1 nd2 fun h => nX.2.2.2 (D1.fr b h).1
    have nd5 : I ∉ d'.map (·.1) := fun h => by
      rcases S45.new I h with z | z
      · exact nd z
      · obtain ⟨o', h', _⟩ := hN _ _ st3
        rw [show ({ s' with heap := h3, toks := t3 } : Shared).heap.get? I = h3.get? I from rfl, h'] at z; cases z
    cases af with
    | next => cases r5; exact ⟨xs.length + 1 - (i + 1), by omega, i + 1, l', d', rfl, hlt, D5, st5, p5, T.1, nd5, T.2⟩
    | cont => cases r5; exact ⟨xs.length + 1 - (i + 1), by omega, i + 1, l', d', rfl, hlt, D5, st5, p5, T.1, nd5, T.2⟩
    | brk => cases r5; exact q _ s5 .next l' d' T.1 (D5.less nT) rfl p5
    | ret r => obtain ⟨v', rfl, r5⟩ := r5; exact q _ s5 (.ret r) l' d' T.1 (D5.less nT) ⟨v', rfl, r5.mono vis_less⟩ p5
  · have hi' : i = xs.length := Nat.le_antisymm hle (Nat.not_lt.mp hlt)
    subst hi'
    refine W.done s' _ _ st' fun h3 t3 k3 => ?_
    have k3' : ∀ b o, b ≠ I → s'.heap.get? b = some o → h3.get? b = some o := fun b o hb e => k3 b o (by simpa using hb) e
    have T := stay (s'' := { s' with heap := h3, toks := t3 }) (d'' := d) (fun b o e n1 _ _ _ _ => k3' b o n1 e) (fun a ha => .inl ha) D'.off (fun a ha o e => ⟨o.slots, k3' a o (fun q => nT (q ▸ ha)) e⟩)
    refine wpAny_execs_nil (q _ _ .next l d T.1 ?_ rfl (fin l d iv))
    have D0 := D'.less nT
    have vv : Ext (vis { fm with hid := I :: fm.hid } d s'.heap) (vis fm d h3) := fun b o e => by
      have nb := hide_none e
      exact hideAll_get _ (k3' _ _ (fun z => nb (away_mem.mpr (.inr (.inr (.inr (z ▸ List.mem_cons_self)))))) (hide_le _ _ e)) fun hb => by
        refine nb ?_
        rcases away_mem.mp hb with z | z | z | z
        · exact away_mem.mpr (.inl z)
        · exact away_mem.mpr (.inr (.inl z))
        · exact away_mem.mpr (.inr (.inr (.inl z)))
        · exact away_mem.mpr (.inr (.inr (.inr (List.mem_cons_of_mem _ z))))
    refine ⟨D'.base.trans vv, ?_, fun y av e l => ?_, fun p hp => ?_, D'.nd, fun c hc => ?_, fun a ha => ?_, D'.gens, D'.drawn, D'.os, fun a ha h => D'.dis a ha (List.mem_cons_of_mem _ h), fun a ha => by obtain ⟨h1, h2, h3, o, ho, hd⟩ := D0.fr a ha; exact ⟨h1, h2, h3, o, k3' _ _ (fun q => nT (q ▸ ha)) ho, hd⟩⟩
    · obtain ⟨m, ⟨o, es, ep, ho, r⟩, h2⟩ := D'.ns
      exact ⟨m, ⟨o, es, ep, k3' _ _ (fun z => nL z.symm) ho, r⟩, fun y av e l => by obtain ⟨v, hv, hr⟩ := h2 y av e l; exact ⟨v, hv, hr.mono vv⟩⟩
    · obtain ⟨c, v, hc, ⟨o, ho, hd⟩, hr⟩ := D'.cel y av e l
      by_cases z : c = I
      · obtain ⟨o', e', n'⟩ := hN _ _ st'
        rw [z, e'] at ho; cases ho
        exact absurd hd (n' _)
      · exact ⟨c, v, hc, ⟨o, k3' _ _ z ho, hd⟩, hr.mono vv⟩
    · obtain ⟨o, ho, hr⟩ := D'.ld p hp; exact ⟨o, k3' _ _ (fun z => nd (z ▸ List.mem_map_of_mem hp)) ho, hr.mono vv⟩
    · obtain ⟨v, o, h, hd⟩ := D'.own c hc; exact ⟨v, o, k3' _ _ (fun z => nO (z ▸ hc)) h, hd⟩
    · obtain ⟨o, h⟩ := D0.low a ha
      refine ⟨o, k3' _ _ (fun z => ?_) h⟩
      obtain ⟨o', h'⟩ := D.low a ha
      rw [z, nI0] at h'; cases h'
end
end Mine
end
section
open PySem PySem.Spec PySem.Calls PyProof.Rows PySem.W
set_option maxRecDepth 100000
set_option linter.unusedVariables false
namespace Mine

theorem lookup_relabel_cell {env : Env} : ∀ {names : List (Str × NameKind)} {x : Str}, names.lookup x = some .cell →
    (names.map fun (n, k) => if (k == NameKind.free && env.scope.kind == .function && env.kindOf n == some .cell) then (n, NameKind.cell) else (n, k)).lookup x = some .cell
  | [], _, h => by simp at h
  | (n, k) :: r, x, h => by
    have ih := @lookup_relabel_cell env r x
    show List.lookup x ((if (k == NameKind.free && env.scope.kind == .function && env.kindOf n == some .cell) = true then (n, NameKind.cell) else (n, k)) :: _) = _
    cases hx : x == n with
    | true =>
      simp only [List.lookup_cons, hx] at h
      cases h
      simp [List.lookup_cons, hx]
    | false =>
      simp only [List.lookup_cons, hx] at h
      by_cases hc : (k == NameKind.free && env.scope.kind == .function && env.kindOf n == some .cell) = true
      · rw [if_pos hc]; simp only [List.lookup_cons, hx]; exact ih h
      · rw [if_neg hc]; simp only [List.lookup_cons, hx]; exact ih h
theorem cellsFrom_app : ∀ (names : List (Str × NameKind)) (n : Nat) (acc : List (Str × Addr)), cellsFrom n names acc = cellsFrom n names [] ++ acc
  | [], _, _ => rfl
  | (nm, k) :: r, n, acc => by
    unfold cellsFrom
    split
    · rw [cellsFrom_app r (n + 1) ((nm, n) :: acc), cellsFrom_app r (n + 1) [(nm, n)], List.append_assoc]; rfl
    · exact cellsFrom_app r n acc

/-- a list of told values that stays -/
noncomputable def lstHP (xs : List AV) : HP := ⟨fun B v => ∃ a vs n, v = .ref a ∧ B.get? a = some { cls := .type "list", data := .seq (List.toArray vs) n } ∧ VRs B xs vs, fun B B' v x ⟨a, vs, n, e, h, r⟩ => ⟨a, vs, n, e, x _ _ h, r.mono x⟩⟩
noncomputable abbrev AV.lst (xs : List AV) : AV := .x (lstHP xs)
theorem readsAll_vrs {B : Heap} : ∀ {vs : List Value} {ds : List PyData} {as : List Addr}, ReadsAll B vs ds as → VRs B (ds.map .d) vs
  | _, _, _, .nil => .nil
  | _, _, _, .cons r rs => .cons ⟨_, r⟩ (readsAll_vrs rs)
theorem vrs_readsAll {B : Heap} : ∀ {ds : List PyData} {vs : List Value}, VRs B (ds.map .d) vs → ∃ as, ReadsAll B vs ds as
  | [], _, .nil => ⟨_, .nil⟩
  | d :: ds, _, .cons ⟨_, r⟩ rs => by obtain ⟨_, h⟩ := vrs_readsAll rs; exact ⟨_, .cons r h⟩
theorem lst_of_d {B : Heap} {ds : List PyData} {v : Value} (h : VR B (.d (.list ds)) v) : ∃ a o vs n, v = .ref a ∧ B.get? a = some o ∧ o.cls = .type "list" ∧ o.data = .seq (List.toArray vs) n ∧ VRs B (ds.map .d) vs := by
  obtain ⟨as, h⟩ := h
  cases h with
  | list e c d r => exact ⟨_, _, _, _, rfl, e, c, (by rw [d]), readsAll_vrs r⟩
theorem d_of_lst {B : Heap} {ds : List PyData} {v : Value} (h : VR B (.lst (ds.map .d)) v) : VR B (.d (.list ds)) v := by
  obtain ⟨a, vs, n, rfl, e, r⟩ := h
  obtain ⟨as, r⟩ := vrs_readsAll r
  exact ⟨_, .list e rfl rfl (by simpa using r)⟩

section
variable {M : Model} {A : Around} {E : Value → Shared → Prop} {s : Shared}
theorem env_comp {scope : Scope} {globals : Addr} {cl : List (Str × Addr)} {qual : Str} {outer : Env} {Q : Env → Shared → Prop}
    (h : Q (newEnv scope s.heap.objs.size globals (cellsFrom (s.heap.objs.size + 1) scope.names cl) qual none .none (some outer) builtinsNs) { s with heap := pushCells (s.heap.push { cls := .type "dict", data := .dict #[] }) scope.names }) :
    wpAny M A (newFunctionEnv scope globals cl [] qual none .none (some outer)) Q E s := by
  simp only [newFunctionEnv, Option.isSome_some, if_true]
  refine wpAny_bind (wpAny_alloc ?_)
  refine wpAny_bind (wpAny_layCells _ (fun name kind cells => by cases hkc : kind == NameKind.cell <;> simp) _ _ _ _ ?_)
  rw [show ({ s with heap := s.heap.push { cls := .type "dict", data := .dict #[] } } : Shared).heap.objs.size = s.heap.objs.size + 1 from Heap.size_push ..]
  refine wpAny_bind ?_
  rw [List.forIn_nil]
  exact wpAny_pure (wpAny_pure h)
end

section
variable (prog : Program) (w : World) (A : Around)
/-- how a loop of a comprehension turns -/
noncomputable def LoopRule (e : Expr) (d : Nat) (x : Str) (px : Pos) (ifs : List Expr) (emit : Value → Sem Unit) (env : Env) : Prop :=
  ∀ (R : Result → Shared → Prop) (it acc : Value) (I : Nat → Shared → Prop)
    (_ : ∀ n s, I n s → wpAny (model prog w) A (pyNext it) (fun r s₁ => match r with
      | none => R (.ok .next) s₁
      | some v => wpAny (model prog w) A (assign (.Name x px) env v) (fun _ s₂ =>
          wpAny (model prog w) A (forIn ifs true fun c r => if r = true then do let ok ← isTrue c env (eval c env); pure (ForInStep.yield ok) else pure (ForInStep.yield r)) (fun ok s₃ =>
            if ok = true then wpAny (model prog w) A (emit acc) (fun _ s₅ => ∃ m, m < n ∧ I m s₅) (notedBy (model prog w) A env fun e s' => R (.error e) s') s₃
            else ∃ m, m < n ∧ I m s₃) (notedBy (model prog w) A env fun e s' => R (.error e) s') s₂) (notedBy (model prog w) A env fun e s' => R (.error e) s') s₁) (notedBy (model prog w) A env fun e s' => R (.error e) s') s)
    (n : Nat) (s : Shared), I n s → codeAny (model prog w) A (.compLoop e d it acc env) R s
variable (h00 : Heap) (R : Shared) (fm : Fm) (loc : Loc) (led : Led)
/-- the tests of a clause -/
noncomputable def PIfs (ifs : List Expr) (b : Bool) : Prop := ∀ s, St w.params h00 R fm loc led s → ∀ (Q : Bool → Shared → Prop) (E : Value → Shared → Prop),
  (∀ h' tk, Ext s.heap h' → Q b { s with heap := h', toks := tk }) →
    wpAny (model prog w) A (forIn ifs true fun c r => if r = true then do let ok ← isTrue c fm.env (eval c fm.env); pure (ForInStep.yield ok) else pure (ForInStep.yield r)) Q E s
end

section
variable {prog : Program} {w : World} {h00 : Heap} {R : Shared} {A : Around} {fm : Fm} {loc : Loc} {led : Led}
noncomputable abbrev emitOne (elt : Expr) (env : Env) (acc : Value) : Sem Unit := do let _ ← call (.builtin "list.append") [acc, ← eval elt env]
noncomputable abbrev emitTwo (e : Expr) (d : Nat) (iter : Expr) (env : Env) (acc : Value) : Sem Unit := do
  let x ← eval iter env
  standAt iter.pos
  let x ← foldedSetIterable iter env x
  let _ ← runOwn (.compStart e d (← holding [x] (pyIter x)) acc env) env
theorem LoopRule.one {elt iter : Expr} {x : Str} {px : Pos} {ifs : List Expr} {scope : Scope} {pos : Pos} {env : Env} : LoopRule prog w A (.ListComp elt [⟨.Name x px, iter, ifs, 0⟩] scope pos) 0 x px ifs (emitOne elt env) env := fun R it acc I turn n s h => by
  refine codeAny_loop rfl I (fun n s hI => ?_) n h
  show wpAny _ A ((compTurn _ 0 it acc env).onRaise (fun x => do noteFrame x env; theTreesLotGoes x)) _ _ s
  refine wpAny_noted ?_
  refine wpAny_bind (wpAny_standAt (wpAny_bind (wpAny_mono (turn n s hI) (fun r s₁ h₁ => ?_) fun _ _ h' => h')))
  cases r with
  | none => exact wpAny_pure h₁
  | some v =>
    refine wpAny_bind (wpAny_of_eq rfl ?_)
    refine wpAny_bind (wpAny_mono h₁ (fun _ s₂ h₂ => wpAny_bind (wpAny_mono h₂ (fun ok s₃ h₃ => ?_) fun _ _ h' => h')) fun _ _ h' => h')
    cases ok with
    | false => exact wpAny_pure ⟨rfl, h₃⟩
    | true => exact wpAny_bind (wpAny_mono h₃ (fun _ s₄ h₄ => wpAny_pure ⟨rfl, h₄⟩) fun _ _ x => x)
theorem LoopRule.outer {elt iter iter2 : Expr} {x x2 : Str} {px px2 : Pos} {ifs ifs2 : List Expr} {scope : Scope} {pos : Pos} {env : Env} : LoopRule prog w A (.ListComp elt [⟨.Name x px, iter, ifs, 0⟩, ⟨.Name x2 px2, iter2, ifs2, 0⟩] scope pos) 0 x px ifs
    (emitTwo (.ListComp elt [⟨.Name x px, iter, ifs, 0⟩, ⟨.Name x2 px2, iter2, ifs2, 0⟩] scope pos) 1 iter2 env) env := fun R it acc I turn n s h => by
  refine codeAny_loop rfl I (fun n s hI => ?_) n h
  show wpAny _ A ((compTurn _ 0 it acc env).onRaise (fun x => do noteFrame x env; theTreesLotGoes x)) _ _ s
  refine wpAny_noted ?_
  refine wpAny_bind (wpAny_standAt (wpAny_bind (wpAny_mono (turn n s hI) (fun r s₁ h₁ => ?_) fun _ _ h' => h')))
  cases r with
  | none => exact wpAny_pure h₁
  | some v =>
    refine wpAny_bind (wpAny_of_eq rfl ?_)
    refine wpAny_bind (wpAny_mono h₁ (fun _ s₂ h₂ => wpAny_bind (wpAny_mono h₂ (fun ok s₃ h₃ => ?_) fun _ _ h' => h')) fun _ _ h' => h')
    cases ok with
    | false => exact wpAny_pure ⟨rfl, h₃⟩
    | true =>
      have eq : ∀ (T : Sem Fin) (Q : Fin → Shared → Prop) (E : Value → Shared → Prop), T = (emitTwo (.ListComp elt [⟨.Name x px, iter, ifs, 0⟩, ⟨.Name x2 px2, iter2, ifs2, 0⟩] scope pos) 1 iter2 env acc >>= fun _ => again (.compLoop (.ListComp elt [⟨.Name x px, iter, ifs, 0⟩, ⟨.Name x2 px2, iter2, ifs2, 0⟩] scope pos) 0 it acc env)) → (∀ s₄, (∃ m, m < n ∧ I m s₄) → Q (.again (.compLoop (.ListComp elt [⟨.Name x px, iter, ifs, 0⟩, ⟨.Name x2 px2, iter2, ifs2, 0⟩] scope pos) 0 it acc env)) s₄) → (∀ e s', notedBy (model prog w) A env (fun e s' => R (.error e) s') e s' → E e s') → wpAny (model prog w) A T Q E s₃ := fun T Q E h k ke => by
        subst h
        exact wpAny_bind (wpAny_mono h₃ (fun _ s₄ h₄ => wpAny_pure (k s₄ h₄)) ke)
      refine eq _ _ _ ?_ (fun _ h => ⟨rfl, h⟩) (fun _ _ h => h)
      simp only [emitTwo, bind_assoc, pure_bind]
      rfl
theorem LoopRule.inner {elt iter iter2 : Expr} {x x2 : Str} {px px2 : Pos} {ifs ifs2 : List Expr} {scope : Scope} {pos : Pos} {env : Env} : LoopRule prog w A (.ListComp elt [⟨.Name x px, iter, ifs, 0⟩, ⟨.Name x2 px2, iter2, ifs2, 0⟩] scope pos) 1 x2 px2 ifs2
    (emitOne elt env) env := fun R it acc I turn n s h => by
  refine codeAny_loop rfl I (fun n s hI => ?_) n h
  show wpAny _ A ((compTurn _ 1 it acc env).onRaise (fun x => do noteFrame x env; theTreesLotGoes x)) _ _ s
  refine wpAny_noted ?_
  refine wpAny_bind (wpAny_standAt (wpAny_bind (wpAny_mono (turn n s hI) (fun r s₁ h₁ => ?_) fun _ _ h' => h')))
  cases r with
  | none => exact wpAny_pure h₁
  | some v =>
    refine wpAny_bind (wpAny_of_eq rfl ?_)
    refine wpAny_bind (wpAny_mono h₁ (fun _ s₂ h₂ => wpAny_bind (wpAny_mono h₂ (fun ok s₃ h₃ => ?_) fun _ _ h' => h')) fun _ _ h' => h')
    cases ok with
    | false => exact wpAny_pure ⟨rfl, h₃⟩
    | true => exact wpAny_bind (wpAny_mono h₃ (fun _ s₄ h₄ => wpAny_pure ⟨rfl, h₄⟩) fun _ _ x => x)
theorem PIfs.nil : PIfs prog w A h00 R fm loc led [] true := fun s D Q E k => wpAny_tests_nil (k s.heap s.toks Ext.rfl)
theorem PIfs.one {c : Expr} {b : Bool} (h : PT prog w h00 R A fm loc led c b) : PIfs prog w A h00 R fm loc led [c] b := fun s D Q E k => wpAny_tests_one (h s D Q E k)

/-- the list that a comprehension fills -/
noncomputable def AccAt (fm : Fm) (led : Led) (s : Shared) (D : Addr) (ds : List PyData) : Prop :=
  ∃ vs : List Value, ∃ n, s.heap.get? D = some { cls := .type "list", data := .seq vs.toArray n } ∧ ∃ as, ReadsAll (vis fm led s.heap) vs ds as

theorem readsAll_snoc {h : Heap} : ∀ {vs : List Value} {ds : List PyData} {as : List Addr} {v : Value} {d : PyData} {bs : List Addr}, ReadsAll h vs ds as → Reads h v d bs → ∃ cs, ReadsAll h (vs ++ [v]) (ds ++ [d]) cs
  | _, _, _, _, _, _, .nil, r => ⟨_, .cons r .nil⟩
  | _, _, _, _, _, _, .cons a as, r => by obtain ⟨cs, h⟩ := readsAll_snoc as r; exact ⟨_, .cons a h⟩
theorem readsAll_len {h : Heap} : ∀ {vs : List Value} {ds : List PyData} {as : List Addr}, ReadsAll h vs ds as → vs.length = ds.length
  | _, _, _, .nil => rfl
  | _, _, _, .cons _ r => by rw [List.length_cons, List.length_cons, readsAll_len r]

/-- when the object that turned the loop is let go -/
theorem St.over {P : Params} {h00 : Heap} {R : Shared} {fm : Fm} {loc : Loc} {led : Led} {s : Shared} {I : Addr} (D : St P h00 R { fm with hid := I :: fm.hid } loc led s) {h' : Heap} {tk : Nat} (k : ∀ b o, b ≠ I → s.heap.get? b = some o → h'.get? b = some o)
    (hJ : ∃ o, s.heap.get? I = some o ∧ ∀ u, o.data ≠ .cell u) (nL : I ≠ fm.env.locals) (nO : I ∉ fm.own) (nd : I ∉ led.map (·.1)) (nh : I ∉ fm.hid) (nT : I ∉ fm.outs) :
    St P h00 R fm loc led { s with heap := h', toks := tk } ∧ Ext (vis { fm with hid := I :: fm.hid } led s.heap) (vis fm led h') := by
  have vv : Ext (vis { fm with hid := I :: fm.hid } led s.heap) (vis fm led h') := fun b o e => by
    have nb := hide_none e
    exact hideAll_get _ (k _ _ (fun z => nb (away_mem.mpr (.inr (.inr (.inr (z ▸ List.mem_cons_self)))))) (hide_le _ _ e)) fun hb => by
      refine nb ?_
      rcases away_mem.mp hb with z | z | z | z
      · exact away_mem.mpr (.inl z)
      · exact away_mem.mpr (.inr (.inl z))
      · exact away_mem.mpr (.inr (.inr (.inl z)))
      · exact away_mem.mpr (.inr (.inr (.inr (List.mem_cons_of_mem _ z))))
  refine ⟨⟨D.base.trans vv, ?_, fun y av e l => ?_, fun p hp => ?_, D.nd, fun c hc => ?_, fun a ha => ?_, D.gens, D.drawn, D.os, fun a ha h => D.dis a ha (List.mem_cons_of_mem _ h), fun a ha => by obtain ⟨h1, h2, h3, o, ho, hd⟩ := D.fr a ha; exact ⟨(List.mem_cons.mp h1).resolve_left fun q => nT (q ▸ ha), h2, h3, o, k _ _ (fun q => nT (q ▸ ha)) ho, hd⟩⟩, vv⟩
  · obtain ⟨m, ⟨o, es, ep, ho, r⟩, h2⟩ := D.ns
    exact ⟨m, ⟨o, es, ep, k _ _ (fun z => nL z.symm) ho, r⟩, fun y av e l => by obtain ⟨v, hv, hr⟩ := h2 y av e l; exact ⟨v, hv, hr.mono vv⟩⟩
  · obtain ⟨c, v, hc, ⟨o, ho, hd⟩, hr⟩ := D.cel y av e l
    by_cases z : c = I
    · obtain ⟨o', e', n'⟩ := hJ
      rw [z, e'] at ho; cases ho
      exact absurd hd (n' _)
    · exact ⟨c, v, hc, ⟨o, k _ _ z ho, hd⟩, hr.mono vv⟩
  · obtain ⟨o, ho, hr⟩ := D.ld p hp; exact ⟨o, k _ _ (fun z => nd (z ▸ List.mem_map_of_mem hp)) ho, hr.mono vv⟩
  · obtain ⟨v, o, h, hd⟩ := D.own c hc; exact ⟨v, o, k _ _ (fun z => nO (z ▸ hc)) h, hd⟩
  · obtain ⟨o, h⟩ := D.low a (List.mem_cons_of_mem _ ha)
    exact ⟨o, k _ _ (fun z => nh (z ▸ ha)) h⟩

/-- a hidden object that changes -/
theorem St.spot {P : Params} {h00 : Heap} {R : Shared} {fm : Fm} {loc : Loc} {led : Led} {s : Shared} {z : Addr} (D : St P h00 R fm loc led s) (hz : z ∈ fm.hid) {h : Heap} {t : Nat}
    (n1 : z ≠ fm.env.locals) (n2 : z ∉ fm.own) (n3 : z ∉ led.map (·.1)) (hj : ∃ o, s.heap.get? z = some o ∧ ∀ u, o.data ≠ .cell u) (hi : ∃ o, h.get? z = some o) (k : ∀ b o, b ≠ z → s.heap.get? b = some o → h.get? b = some o) (nT : z ∉ fm.outs) :
    St P h00 R fm loc led { s with heap := h, toks := t } ∧ Ext (vis fm led s.heap) (vis fm led h) := by
  have vv : Ext (vis fm led s.heap) (vis fm led h) := fun b o e => hideAll_get _ (k _ _ (fun q => hide_none e (away_mem.mpr (.inr (.inr (.inr (q ▸ hz)))))) (hide_le _ _ e)) (hide_none e)
  refine ⟨⟨D.base.trans vv, ?_, fun x av e l => ?_, fun p hp => ?_, D.nd, fun c hc => ?_, fun a ha => ?_, D.gens, D.drawn, D.os, D.dis, fun a ha => by obtain ⟨h1, h2, h3, o, ho, hd⟩ := D.fr a ha; exact ⟨h1, h2, h3, o, k _ _ (fun q => nT (q ▸ ha)) ho, hd⟩⟩, vv⟩
  · obtain ⟨m, ⟨o, es, ep, ho, r⟩, h2⟩ := D.ns
    exact ⟨m, ⟨o, es, ep, k _ _ (fun q => n1 q.symm) ho, r⟩, fun x av e l => by obtain ⟨v, hv, hr⟩ := h2 x av e l; exact ⟨v, hv, hr.mono vv⟩⟩
  · obtain ⟨c, v, hc, ⟨o, ho, hd⟩, hr⟩ := D.cel x av e l
    by_cases q : c = z
    · obtain ⟨o', e', n'⟩ := hj
      rw [q, e'] at ho; cases ho
      exact absurd hd (n' _)
    · exact ⟨c, v, hc, ⟨o, k _ _ q ho, hd⟩, hr.mono vv⟩
  · obtain ⟨o, ho, hr⟩ := D.ld p hp; exact ⟨o, k _ _ (fun q => n3 (q ▸ List.mem_map_of_mem hp)) ho, hr.mono vv⟩
  · obtain ⟨v, o, h, hd⟩ := D.own c hc; exact ⟨v, o, k _ _ (fun q => n2 (q ▸ hc)) h, hd⟩
  · by_cases q : a = z
    · exact q ▸ hi
    · obtain ⟨o, h⟩ := D.low a ha; exact ⟨o, k _ _ q h⟩

theorem AccAt.move {fm fm' : Fm} {led : Led} {s1 s2 : Shared} {D : Addr} {ds : List PyData} (a : AccAt fm led s1 D ds) (k : ∀ o, s1.heap.get? D = some o → s2.heap.get? D = some o) (v : Ext (vis fm led s1.heap) (vis fm' led s2.heap)) : AccAt fm' led s2 D ds :=
  let ⟨vs, n, e, as, r⟩ := a; ⟨vs, n, k _ e, as, ReadsAll.keeps v r⟩

/-- what a turn adds to the list -/
noncomputable def EmitP (prog : Program) (w : World) (A : Around) (h00 : Heap) (R : Shared) (fm : Fm) (loc : Loc) (led : Led) (emit : Value → Sem Unit) (ys : List PyData) : Prop :=
  fm.outs = [] → ∀ (D : Addr) s ds, D ∈ fm.hid → D ≠ fm.env.locals ∧ D ∉ fm.own ∧ D ∉ led.map (·.1) → St w.params h00 R fm loc led s → AccAt fm led s D ds → ds.length + ys.length ≤ sizeLine → ∀ (Q : Unit → Shared → Prop) (E : Value → Shared → Prop),
    (∀ s', St w.params h00 R fm loc led s' → AccAt fm led s' D (ds ++ ys) → (∀ b o, s.heap.get? b = some o → b ≠ D → b ≠ fm.env.locals → b ∉ fm.own → s'.heap.get? b = some o) → Q () s') → wpAny (model prog w) A (emit (.ref D)) Q E s

theorem EmitP.one {elt : Expr} {y : PyData} (h : PE prog w h00 R A fm loc led elt (.d y)) : EmitP prog w A h00 R fm loc led (emitOne elt fm.env) [y] := fun hO D s ds hD nD D5 acc5 hlen Q E k => by
  refine wpAny_bind (h _ D5 _ _ fun v h6 t6 k6 r6 => wpAny_bind ?_)
  have D6 := D5.quiet (tk := t6) k6
  obtain ⟨vs, n, e6, as, rr⟩ := acc5.move (s2 := { s with heap := h6, toks := t6 }) (fun o e => k6 _ _ e) (hide_ext k6)
  refine append_at (hsz := ?_) e6 fun h7 hs7 hD7 => ?_
  rotate_left
  · rw [List.size_toArray, readsAll_len rr]
    simp at hlen; omega
  · obtain ⟨D7, v7⟩ := D6.spot (h := h7) (t := t6) hD nD.1 nD.2.1 nD.2.2 ⟨_, e6, fun u => by simp⟩ ⟨_, hD7⟩ (fun b o hb e => (hs7.2 b hb).trans e) (by rw [hO]; exact nofun)
    obtain ⟨bs, r6⟩ := r6
    obtain ⟨cs, rc⟩ := readsAll_snoc rr r6
    rw [List.push_toArray] at hD7
    exact wpAny_pure (k _ D7 ⟨vs ++ [v], _, hD7, cs, ReadsAll.keeps v7 rc⟩ fun b o e n1 n2 n3 => (hs7.2 b n1).trans (k6 _ _ e))

theorem walk_map {α : Type} {I : Addr} {fp wr : List Addr} {xs : List α} {g : α → AV} {B : Heap} {S : Nat → Heap → Prop} (W : Walks prog w A I fp wr (xs.map g).length (fun i u => ∃ a, (xs.map g)[i]? = some a ∧ VR B a u) S) :
    Walks prog w A I fp wr xs.length (fun i u => ∃ a, xs[i]? = some a ∧ VR B (g a) u) S := by
  rw [List.length_map] at W
  refine ⟨W.sub, W.frame, fun i s Q E hi st k => W.item i s Q E hi st fun v h' tk p st' kk => k v h' tk ?_ st' kk, W.done, W.self⟩
  obtain ⟨a, ha, r⟩ := p
  rw [List.getElem?_map] at ha
  obtain ⟨b, hb, rfl⟩ := Option.map_eq_some_iff.mp ha
  exact ⟨b, hb, r⟩
/-- the turns of a comprehension's loop that gives out an item a turn: frame fm stands for the block, D lies hidden -/
theorem comp_turns {e : Expr} {d : Nat} {x : Str} {px : Pos} {ifs : List Expr} {emit : Value → Sem Unit} {I D : Addr} {fp : List Addr} {Stt : Nat → Heap → Prop} {α : Type} {xs : List α} {g : α → AV} {F : α → List PyData} {B : Heap} {s0 : Shared} {ds0 : List PyData} {RR : Result → Shared → Prop}
    (hO : fm.outs = []) (rule : LoopRule prog w A e d x px ifs emit fm.env) (hk : fm.env.scope.kind = .function) (hx : StoresL fm loc x)
    (W : Walks prog w A I fp [I] xs.length (fun i u => ∃ a, xs[i]? = some a ∧ VR B (g a) u) Stt) (hN : ∀ i h, Stt i h → ∃ o, h.get? I = some o ∧ ∀ u, o.data ≠ .cell u)
    (hD : D ∈ fm.hid) (hID : I ≠ D) (hfp : ∀ b ∈ fp, b = I ∨ (b ∉ away fm led ∧ ∃ o, s0.heap.get? b = some o)) (hDf : D ∉ fp)
    (nI : I ≠ fm.env.locals ∧ I ∉ fm.own ∧ I ∉ led.map (·.1) ∧ I ∉ fm.hid) (nD : D ≠ fm.env.locals ∧ D ∉ fm.own ∧ D ∉ led.map (·.1))
    (hB : Ext B (vis { fm with hid := I :: fm.hid } led s0.heap)) (D0 : St w.params h00 R { fm with hid := I :: fm.hid } loc led s0) (st0 : Stt 0 s0.heap) (acc0 : AccAt { fm with hid := I :: fm.hid } led s0 D ds0) (hlen : ds0.length + (xs.flatMap F).length ≤ sizeLine) (hloc : loc.lookup x = none)
    (turn : ∀ hid, ∀ a ∈ xs, ∃ b, PIfs prog w A h00 R { fm with hid := hid } ((x, g a) :: loc) led ifs b ∧ (b = false → F a = []) ∧ (b = true → EmitP prog w A h00 R { fm with hid := hid } ((x, g a) :: loc) led emit (F a)))
    (fin : ∀ s', St w.params h00 R fm loc led s' → AccAt fm led s' D (ds0 ++ xs.flatMap F) → (∀ b o, s0.heap.get? b = some o → b ≠ I → b ≠ D → b ≠ fm.env.locals → b ∉ fm.own → s'.heap.get? b = some o) → RR (.ok .next) s') :
    codeAny (model prog w) A (.compLoop e d (.ref I) (.ref D) fm.env) RR s0 := by
  refine rule _ _ _ (fun n s' => ∃ i, n = xs.length + 1 - i ∧ i ≤ xs.length ∧ St w.params h00 R { fm with hid := I :: fm.hid } loc led s' ∧ Stt i s'.heap ∧ AccAt { fm with hid := I :: fm.hid } led s' D (ds0 ++ (xs.take i).flatMap F) ∧
    (∀ b o, s0.heap.get? b = some o → b ≠ I → b ≠ D → b ≠ fm.env.locals → b ∉ fm.own → s'.heap.get? b = some o)) ?_ (xs.length + 1) s0 ⟨0, rfl, Nat.zero_le _, D0, st0, by simpa using acc0, fun b o e _ _ _ _ => e⟩
  rintro n s' ⟨i, rfl, hle, D', st', acc', kp⟩
  have hI : I ∈ ({ fm with hid := I :: fm.hid } : Fm).hid := List.mem_cons_self
  have hD1 : D ∈ ({ fm with hid := I :: fm.hid } : Fm).hid := List.mem_cons_of_mem _ hD
  by_cases hlt : i < xs.length
  · refine W.item i s' _ _ hlt st' fun u h3 t3 hp st3 k3 => ?_
    obtain ⟨a, ha, ra⟩ := hp
    have k3' : ∀ b o, b ≠ I → s'.heap.get? b = some o → h3.get? b = some o := fun b o hb e => k3 b o (by simpa using hb) e
    obtain ⟨D3, v3⟩ := D'.spot (h := h3) (t := t3) hI nI.1 nI.2.1 nI.2.2.1 (hN _ _ st') (let ⟨o, h, _⟩ := hN _ _ st3; ⟨o, h⟩) k3' (by show I ∉ fm.outs; rw [hO]; exact nofun)
    have hB' : Ext (vis { fm with hid := I :: fm.hid } led s0.heap) (vis { fm with hid := I :: fm.hid } led s'.heap) := fun b o e => by
      have nb := hide_none e
      have nb' := nb
      rw [away_mem] at nb'
      simp only [not_or] at nb'
      exact hideAll_get _ (kp b o (hide_le _ _ e) (fun q => nb'.2.2.2 (q ▸ hI)) (fun q => nb'.2.2.2 (q ▸ hD1)) nb'.1 nb'.2.1) nb
    have ra3 : VR (vis { fm with hid := I :: fm.hid } led h3) (g a) u := ra.mono ((hB.trans hB').trans v3)
    have acc3 := acc'.move (s2 := { s' with heap := h3, toks := t3 }) (fun o e => k3' _ _ (fun q => hID q.symm) e) v3
    refine wpAny_assign_Name (show wpAny _ _ (storeName ({ fm with hid := I :: fm.hid } : Fm).env x u) _ _ _ from store_name D3 ra3 hk hx fun s4 S4 K4 D4 => ?_)
    have acc4 := acc3.move (fun o e => S4.keep _ _ e nD.1 nD.2.1 nD.2.2 (by show D ∉ fm.outs; rw [hO]; exact nofun)) S4.ext
    have st4 : Stt (i + 1) s4.heap := W.frame _ _ _ st3 fun b hb o e => by
      rcases hfp b hb with rfl | ⟨nX, o', eo⟩
      · exact S4.keep _ o e nI.1 nI.2.1 nI.2.2.1 (by show _ ∉ fm.outs; rw [hO]; exact nofun)
      · rw [away_mem] at nX
        simp only [not_or] at nX
        exact S4.keep b o e nX.1 nX.2.1 nX.2.2.1 (by show _ ∉ fm.outs; rw [hO]; exact nofun)
    obtain ⟨b, hifs, hfalse, htrue⟩ := turn (I :: fm.hid) a (List.mem_of_getElem? ha)
    have htake : (xs.take (i + 1)).flatMap F = (xs.take i).flatMap F ++ F a := by
      have hx' : xs.take (i + 1) = xs.take i ++ [a] := by rw [List.take_add_one, ha]; rfl
      rw [hx', List.flatMap_append]; simp
    have hsum : ((xs.take (i + 1)).flatMap F).length ≤ (xs.flatMap F).length := by
      conv => rhs; rw [← List.take_append_drop (i + 1) xs, List.flatMap_append, List.length_append]
      exact Nat.le_add_right _ _
    have kp4 : ∀ b o, s0.heap.get? b = some o → b ≠ I → b ≠ D → b ≠ fm.env.locals → b ∉ fm.own → s4.heap.get? b = some o := fun b o e n1 n2 n3 n4 => by
      have e1 := kp b o e n1 n2 n3 n4
      exact K4 b o (k3' b o n1 e1) n3 n4
    refine hifs s4 D4 _ _ fun h5 t5 k5 => ?_
    have D5 := D4.quiet (tk := t5) k5
    have st5 : Stt (i + 1) h5 := W.frame _ _ _ st4 fun b hb o e => k5 b o e
    have acc5 := acc4.move (s2 := { s4 with heap := h5, toks := t5 }) (fun o e => k5 _ _ e) (hide_ext k5)
    have drop : ∀ y a', loc.lookup y = some a' → ((x, g a) :: loc).lookup y = some a' := fun y a' e => by
      rw [List.lookup_cons]
      by_cases q : y = x
      · rw [q, hloc] at e; cases e
      · have : (y == x) = false := by simpa using q
        rw [this]; exact e
    cases b with
    | false =>
      simp only [Bool.false_eq_true, if_false]
      refine ⟨xs.length + 1 - (i + 1), by omega, i + 1, rfl, hlt, D5.forget drop, st5, ?_, fun b o e n1 n2 n3 n4 => k5 _ _ (kp4 b o e n1 n2 n3 n4)⟩
      rw [htake, hfalse rfl]; simpa using acc5
    | true =>
      simp only [if_true]
      rw [htake] at hsum
      refine htrue rfl hO D _ _ hD1 nD D5 acc5 (by rw [List.length_append] at hsum ⊢; omega) _ _ fun s7 D7 acc7 kp7 => ?_
      refine ⟨xs.length + 1 - (i + 1), by omega, i + 1, rfl, hlt, D7.forget drop, W.frame _ _ _ st5 fun b hb o e => ?_, ?_, fun b o e n1 n2 n3 n4 => kp7 _ _ (k5 _ _ (kp4 b o e n1 n2 n3 n4)) n2 n3 n4⟩
      · refine kp7 b o e (fun q => hDf (q ▸ hb)) (fun q => ?_) (fun q => ?_)
        · rcases hfp b hb with z | ⟨z, _⟩
          · exact nI.1 (z ▸ q)
          · exact z (away_mem.mpr (.inl q))
        · rcases hfp b hb with z | ⟨z, _⟩
          · exact nI.2.1 (z ▸ q)
          · exact z (away_mem.mpr (.inr (.inl q)))
      · rw [htake, ← List.append_assoc]; exact acc7
  · have hi' : i = xs.length := Nat.le_antisymm hle (Nat.not_lt.mp hlt)
    subst hi'
    refine W.done s' _ _ st' fun h3 t3 k3 => ?_
    have k3' : ∀ b o, b ≠ I → s'.heap.get? b = some o → h3.get? b = some o := fun b o hb e => k3 b o (by simpa using hb) e
    obtain ⟨D3, v3⟩ := D'.over (tk := t3) k3' (hN _ _ st') nI.1 nI.2.1 nI.2.2.1 nI.2.2.2 (by rw [hO]; exact nofun)
    rw [List.take_length] at acc'
    exact fin _ D3 (acc'.move (fun o e => k3' _ _ (fun q => hID q.symm) e) v3) fun b o e n1 n2 n3 n4 => k3' b o n1 (kp b o e n1 n2 n3 n4)

noncomputable abbrev compFm (fm : Fm) (scope : Scope) (cl : List (Str × Addr)) (C : Addr) (hid : List Addr) : Fm := ⟨compEnvC scope (cellsFrom (C + 1) scope.names cl) C fm.env, (cellsFrom (C + 1) scope.names []).map (·.2), hid, []⟩

/-- a list comprehension of one clause, up to what is done with the list -/
theorem comp_core {elt iter : Expr} {x : Str} {px : Pos} {ifs : List Expr} {rest : List Comprehension} {scope : Scope} {pos : Pos} {cl : List (Str × Addr)} {av : AV} {α : Type} {xs : List α} {g : α → AV} {F : α → List PyData} {emit : Env → Value → Sem Unit} {cap : Loc} {s : Shared} {v : Value} {RR : Value → Addr → Result → Shared → Prop} {E : Value → Shared → Prop}
    (hrule : ∀ env, LoopRule prog w A (.ListComp elt (⟨.Name x px, iter, ifs, 0⟩ :: rest) scope pos) 0 x px ifs (emit env) env) (hkind : scope.kind = .function) (hx : (∀ C hid, Stores (compFm fm scope cl C hid) x) ∨ (scope.names.lookup x = some .cell ∧ ((cellsFrom 0 scope.names []).map (·.1)).Nodup))
    (hi : IterP prog w h00 R A av (xs.map g)) (hlen : (xs.flatMap F).length ≤ sizeLine) (hxc : cap.lookup x = none)
    (hcap : ∀ y a, cap.lookup y = some a → ∀ C hid, (compFm fm scope cl C hid).env.kindOf y ≠ some .local ∧ (compFm fm scope cl C hid).env.cells.lookup y = fm.env.cells.lookup y ∧ loc.lookup y = some a ∧ fm.env.kindOf y ≠ some .local)
    (turn : ∀ C hid, ∀ a ∈ xs, ∃ b, PIfs prog w A h00 R (compFm fm scope cl C hid) ((x, g a) :: cap) led ifs b ∧ (b = false → F a = []) ∧ (b = true → EmitP prog w A h00 R (compFm fm scope cl C hid) ((x, g a) :: cap) led (emit (compFm fm scope cl C hid).env) (F a)))
    (D0 : St w.params h00 R fm loc led s) (rv : VR (vis fm led s.heap) av v)
    (fin : ∀ C Dd h' tk B vs n as, Ext s.heap h' → s.heap.get? C = none → s.heap.get? Dd = none → C ≠ Dd → (∃ m, h'.Ns C m) → h'.get? Dd = some { cls := .type "list", data := .seq (List.toArray vs) n } → ReadsAll B vs (xs.flatMap F) as → Ext B h' → (∀ b o, B.get? b = some o → b ≠ C ∧ b ∉ away fm led) → RR (.ref Dd) C (.ok .next) { s with heap := h', toks := tk }) :
    wpAny (model prog w) A (pyIter v) (fun it s₂ => wpAny (model prog w) A (newList []) (fun acc s₃ => wpAny (model prog w) A (newFunctionEnv scope fm.env.globals cl [] fm.env.qual none .none (some fm.env)) (fun cenv s₄ =>
      codeAny (model prog w) A (.compStart (.ListComp elt (⟨.Name x px, iter, ifs, 0⟩ :: rest) scope pos) 0 it acc { cenv with scope := relabel scope fm.env }) (RR acc cenv.locals) s₄) E s₃) E s₂) E s := by
  refine hi _ _ v _ _ D0.bs rv fun I fp h2 t2 Stt k2 nI hN hfp W0 st => ?_
  have W := walk_map W0
  refine wpAny_newObj_type ?_
  refine env_comp ?_
  generalize hD : h2.objs.size = D
  have hD' : (({ s with heap := h2, toks := t2 } : Shared)).heap.objs.size = D := hD
  generalize hH3 : h2.push { cls := .type "list", dict := none, data := .seq ([] : List Value).toArray } = H3
  generalize hC : H3.objs.size = C
  have hCD : C = D + 1 := by rw [← hC, ← hH3, Heap.size_push, hD]
  generalize hH4 : H3.push { cls := .type "dict", data := .dict #[] } = H4
  generalize hH5 : pushCells H4 scope.names = H5
  have gone : ∀ {a : Addr} {h : Heap}, h.objs.size ≤ a → h.get? a = none := fun {a h} ha => by
    cases e : h.get? a with
    | none => rfl
    | some o => exact absurd (Heap.lt_size e) (Nat.not_lt.mpr ha)
  have k23 : Ext h2 H3 := fun b o e => hH3 ▸ Heap.get?_push_of_some _ e
  have k34 : Ext H3 H4 := fun b o e => hH4 ▸ Heap.get?_push_of_some _ e
  have k45 : Ext H4 H5 := fun b o e => hH5 ▸ pushCells_keeps _ _ _ _ e
  have k25 : Ext h2 H5 := k23.trans (k34.trans k45)
  have k5 : Ext s.heap H5 := k2.trans k25
  have sD : s.heap.get? D = none := by
    cases e : s.heap.get? D with
    | none => rfl
    | some o => exact absurd (Heap.lt_size (k2 _ _ e)) (by rw [hD]; exact Nat.lt_irrefl _)
  have above : ∀ c, D < c → s.heap.get? c = none := fun c hc => by
    cases e : s.heap.get? c with
    | none => rfl
    | some o => exact absurd (Heap.lt_size (k2 _ _ e)) (by rw [hD]; exact Nat.not_lt.mpr (Nat.le_of_lt hc))
  have sC : s.heap.get? C = none := above C (by omega)
  have eI := hN _ _ st
  have ltI : I < D := by obtain ⟨o, e, _⟩ := eI; have := Heap.lt_size e; rw [hD] at this; exact this
  have ltDC : D < C := by rw [hCD]; exact Nat.lt_succ_self _
  have ltC : I < C := Nat.lt_trans ltI ltDC
  have ok := cellsFrom_ok scope.names H4 (C + 1) [] ⟨fun _ _ hm => (nomatch hm), List.Pairwise.nil⟩ (by rw [← hH4, Heap.size_push, hC]; exact Nat.le_refl _)
  have h4s : H4.objs.size = C + 1 := by rw [← hH4, Heap.size_push, hC]
  rw [h4s, hH5] at ok
  have own_hi : ∀ c ∈ (cellsFrom (C + 1) scope.names []).map (·.2), H5.IsCell c none ∧ C + 1 ≤ c := fun c hc => by
    obtain ⟨⟨n, c'⟩, hm, rfl⟩ := List.mem_map.mp hc
    exact ok.empty n c' hm
  have gD : H5.get? D = some { cls := .type "list", data := .seq ([] : List Value).toArray } := (k34.trans k45) _ _ (by rw [← hH3, ← hD]; exact Heap.get?_push_size _ rfl)
  have gC : H5.Ns C (fun _ => none) := by
    have := (Heap.Ns.new H3 (.type "dict")).keeps (h' := H5) (fun b o e => k45 b o (hH4 ▸ e))
    rwa [hC] at this
  have there : ∀ a ∈ away fm led, ∃ o, s.heap.get? a = some o := D0.bs.there
  have nin : ∀ {b : Addr}, s.heap.get? b = none → b ∉ away fm led := fun {b} e hb => by obtain ⟨o, h⟩ := there b hb; rw [e] at h; cases h
  have vv : Ext (vis fm led s.heap) (vis { (compFm fm scope cl C (D :: fm.env.locals :: (fm.own ++ fm.hid))) with hid := I :: D :: fm.env.locals :: (fm.own ++ fm.hid) } led H5) := fun b o e => by
    have nb := hide_none e
    have e' := hide_le _ _ e
    refine hideAll_get _ (k5 _ _ e') fun hb => ?_
    rcases away_mem.mp hb with q | q | q | q
    · rw [show b = C from q, sC] at e'; cases e'
    · rw [above b (by have := (own_hi b q).2; omega)] at e'; cases e'
    · exact nb (away_mem.mpr (.inr (.inr (.inl q))))
    · rcases List.mem_cons.mp q with q | q
      · rw [q] at e'; rw [nI] at e'; cases e'
      · rcases List.mem_cons.mp q with q | q
        · rw [q, sD] at e'; cases e'
        · rcases List.mem_cons.mp q with q | q
          · exact nb (away_mem.mpr (.inl q))
          · rcases List.mem_append.mp q with q | q
            · exact nb (away_mem.mpr (.inr (.inl q)))
            · exact nb (away_mem.mpr (.inr (.inr (.inr q))))
  have old_led : ∀ a ∈ led.map (·.1), ∃ o, s.heap.get? a = some o := fun a ha => there a (away_mem.mpr (.inr (.inr (.inl ha))))
  have nof : ∀ {a : Addr} {P : Prop}, s.heap.get? a = none → (∃ o, s.heap.get? a = some o) → P := fun {a P} e ⟨o, h⟩ => by rw [e] at h; cases h
  have D5 : St w.params h00 R { (compFm fm scope cl C (D :: fm.env.locals :: (fm.own ++ fm.hid))) with hid := I :: D :: fm.env.locals :: (fm.own ++ fm.hid) } cap led { s with heap := H5, toks := t2 } := by
    refine ⟨D0.base.trans vv, ⟨_, gC, fun y a e l => absurd l (hcap y a e C _).1⟩, fun y a e l => ?_, fun p hp => ?_, ?_, fun c hc => ⟨none, (own_hi c hc).1⟩, fun a ha => ?_, D0.gens, D0.drawn, D0.os, fun a ha h => ?_, fun a ha => nomatch ha⟩
    · obtain ⟨q1, q2, q3, q4⟩ := hcap y a e C (I :: D :: fm.env.locals :: (fm.own ++ fm.hid))
      obtain ⟨c, u, hc, hi, hr⟩ := D0.cel y a q3 q4
      exact ⟨c, u, q2.trans hc, hi.keeps k5, hr.mono vv⟩
    · obtain ⟨o, ho, hr⟩ := D0.ld p hp; exact ⟨o, k5 _ _ ho, hr.mono vv⟩
    · refine List.nodup_cons.mpr ⟨fun h => ?_, List.nodup_append.mpr ⟨?_, (List.nodup_append.mp (List.nodup_cons.mp D0.nd).2).2.1, fun a ha b hb q => ?_⟩⟩
      · rcases List.mem_append.mp h with h | h
        · exact absurd (own_hi _ h).2 (Nat.not_succ_le_self _)
        · exact nof sC (old_led _ h)
      · exact List.pairwise_map.mpr (ok.apart.imp fun h => h)
      · subst q
        exact nof (above a (by have := (own_hi a ha).2; omega)) (old_led a hb)
    · rcases List.mem_cons.mp ha with rfl | ha
      · obtain ⟨o, h, _⟩ := eI; exact ⟨o, k25 _ _ h⟩
      · rcases List.mem_cons.mp ha with rfl | ha
        · exact ⟨_, gD⟩
        · have : ∃ o, s.heap.get? a = some o := there a (by
            rcases List.mem_cons.mp ha with q | q
            · exact away_mem.mpr (.inl q)
            · rcases List.mem_append.mp q with q | q
              · exact away_mem.mpr (.inr (.inl q))
              · exact away_mem.mpr (.inr (.inr (.inr q))))
          obtain ⟨o, h⟩ := this; exact ⟨o, k5 _ _ h⟩
    · rcases List.mem_cons.mp h with q | q
      · exact nof nI (q ▸ old_led a ha)
      · rcases List.mem_cons.mp q with q | q
        · exact nof sD (q ▸ old_led a ha)
        · rcases List.mem_cons.mp q with q | q
          · exact (D0.off a ha).1 q
          · rcases List.mem_append.mp q with q | q
            · exact (D0.off a ha).2 q
            · exact D0.dis a ha q
  have st5 : Stt 0 H5 := W.frame _ _ _ st fun b hb o e => k25 b o e
  have nIa : I ∉ away fm led := nin nI
  have nIa' := nIa
  rw [away_mem] at nIa'
  simp only [not_or] at nIa'
  have nDa := nin sD
  rw [away_mem] at nDa
  simp only [not_or] at nDa
  have hxC : StoresL (compFm fm scope cl C (D :: fm.env.locals :: (fm.own ++ fm.hid))) cap x := by
    rcases hx with hx | ⟨h1, h2⟩
    · exact (hx C _).l _
    · have hs := cellsFrom_some scope.names (C + 1) [] (.inl h1)
      obtain ⟨c, hc⟩ := Option.isSome_iff_exists.mp hs
      have hcl : (cellsFrom (C + 1) scope.names cl).lookup x = some c := by
        rw [cellsFrom_app, List.lookup_append, hc]; rfl
      have hm := List.mem_map_of_mem (f := (·.2)) (PySem.mem_of_lookup hc)
      refine .inr ⟨lookup_relabel_cell h1, c, hcl, hm, fun y c' a ny hy hk' hc' q => ?_⟩
      obtain ⟨q1, q2, q3, q4⟩ := hcap y a hy C (D :: fm.env.locals :: (fm.own ++ fm.hid))
      obtain ⟨c2, u, hc2, hi2, _⟩ := D0.cel y a q3 q4
      rw [show (compFm fm scope cl C (D :: fm.env.locals :: (fm.own ++ fm.hid))).env.cells.lookup y = some c' from hc', hc2] at q2
      obtain ⟨o, ho, _⟩ := hi2
      have : s.heap.get? c = none := above c (by have := (own_hi c hm).2; omega)
      rw [← q, Option.some.inj q2, ho] at this; cases this
  have hcore : codeAny (model prog w) A (.compLoop (.ListComp elt (⟨.Name x px, iter, ifs, 0⟩ :: rest) scope pos) 0 (.ref I) (.ref D) (compFm fm scope cl C (D :: fm.env.locals :: (fm.own ++ fm.hid))).env) (RR (.ref D) C) { s with heap := H5, toks := t2 } := by
    refine comp_turns (fm := compFm fm scope cl C (D :: fm.env.locals :: (fm.own ++ fm.hid))) (F := F) (ds0 := []) rfl (hrule _) hkind hxC W hN List.mem_cons_self (Nat.ne_of_lt ltI) (fun b hb => ?_) (fun h => ?_) ⟨?_, ?_, nIa'.2.2.1, ?_⟩ ⟨?_, ?_, nDa.2.2.1⟩ vv D5 st5 ⟨[], _, gD, [], .nil⟩ (by rw [List.length_nil, Nat.zero_add]; exact hlen) hxc (fun hid a ha => turn C hid a ha) fun s' D' acc kp => ?_
    · rcases hfp b hb with q | ⟨q, o, e⟩
      · exact .inl q
      · refine .inr ⟨fun h => ?_, o, k5 _ _ e⟩
        rcases away_mem.mp h with z | z | z | z
        · rw [show b = C from z] at e; exact nof sC ⟨_, e⟩
        · exact nof (above b (by have := (own_hi b z).2; omega)) ⟨_, e⟩
        · exact q (away_mem.mpr (.inr (.inr (.inl z))))
        · rcases List.mem_cons.mp z with z | z
          · rw [z] at e; exact nof sD ⟨_, e⟩
          · rcases List.mem_cons.mp z with z | z
            · exact q (away_mem.mpr (.inl z))
            · rcases List.mem_append.mp z with z | z
              · exact q (away_mem.mpr (.inr (.inl z)))
              · exact q (away_mem.mpr (.inr (.inr (.inr z))))
    · rcases hfp D h with q | ⟨q, e⟩
      · exact Nat.ne_of_lt ltI q.symm
      · exact nof sD e
    · exact Nat.ne_of_lt ltC
    · intro h; exact absurd (own_hi I h).2 (Nat.not_le.mpr (Nat.lt_succ_of_lt ltC))
    · intro h
      rcases List.mem_cons.mp h with q | q
      · exact Nat.ne_of_lt ltI q
      · rcases List.mem_cons.mp q with q | q
        · exact nIa'.1 q
        · rcases List.mem_append.mp q with q | q
          · exact nIa'.2.1 q
          · exact nIa'.2.2.2 q
    · exact Nat.ne_of_lt ltDC
    · intro h; exact absurd (own_hi D h).2 (Nat.not_le.mpr (Nat.lt_succ_of_lt ltDC))
    · obtain ⟨vs, n, e, as, r⟩ := acc
      have es : s' = { s with heap := s'.heap, toks := s'.toks } := by
        have h1 := D'.gens.trans D0.gens.symm
        have h2 := D'.drawn.trans D0.drawn.symm
        have h3 := D'.os.trans D0.os.symm
        obtain ⟨a, b, c, d, e⟩ := s'
        obtain ⟨a', b', c', d', e'⟩ := s
        dsimp only at h1 h2 h3
        subst h1 h2 h3; rfl
      obtain ⟨mC, nC, _⟩ := D'.ns
      rw [es]
      rw [List.nil_append] at r
      refine fin C D s'.heap s'.toks _ vs n as (fun b o e => kp b o (k5 _ _ e) ?_ ?_ ?_ ?_) sC sD (Nat.ne_of_gt ltDC) ⟨mC, nC⟩ e r hide_le fun b o e => ⟨fun q => ?_, fun h => ?_⟩
      · intro q; exact nof (q ▸ nI) ⟨_, e⟩
      · intro q; exact nof (q ▸ sD) ⟨_, e⟩
      · intro q; exact nof (q ▸ sC) ⟨_, e⟩
      · intro q; exact nof (above b (by have := (own_hi b q).2; omega)) ⟨_, e⟩
      · exact hide_none e (away_mem.mpr (.inl q))
      · refine hide_none e ?_
        rcases away_mem.mp h with z | z | z | z
        · exact away_mem.mpr (.inr (.inr (.inr (List.mem_cons_of_mem _ (z ▸ List.mem_cons_self)))))
        · exact away_mem.mpr (.inr (.inr (.inr (List.mem_cons_of_mem _ (List.mem_cons_of_mem _ (List.mem_append_left _ z))))))
        · exact away_mem.mpr (.inr (.inr (.inl z)))
        · exact away_mem.mpr (.inr (.inr (.inr (List.mem_cons_of_mem _ (List.mem_cons_of_mem _ (List.mem_append_right _ z))))))
  have hfin : codeAny (model prog w) A (.compStart (.ListComp elt (⟨.Name x px, iter, ifs, 0⟩ :: rest) scope pos) 0 (.ref I) (.ref D) (compFm fm scope cl C (D :: fm.env.locals :: (fm.own ++ fm.hid))).env) (RR (.ref D) C) { s with heap := H5, toks := t2 } :=
    codeAny_compStart_list hcore (W.self 0 _ _ _ st5 hcore)
  subst hH5 hH4 hC hH3 hD
  exact hfin

/-- what a comprehension's frame reads behind its own names -/
noncomputable def Caps (fm : Fm) (loc : Loc) (scope : Scope) (cl : List (Str × Addr)) (cap : Loc) : Prop :=
  ∀ y a, cap.lookup y = some a → ∀ C hid, (compFm fm scope cl C hid).env.kindOf y ≠ some .local ∧ (compFm fm scope cl C hid).env.cells.lookup y = fm.env.cells.lookup y ∧ loc.lookup y = some a ∧ fm.env.kindOf y ≠ some .local

theorem PE.compX {elt iter : Expr} {x : Str} {px : Pos} {ifs : List Expr} {rest : List Comprehension} {scope : Scope} {pos : Pos} {cl : List (Str × Addr)} {av : AV} {α : Type} {xs : List α} {g : α → AV} (F : α → List PyData) (emit : Env → Value → Sem Unit) (cap : Loc)
    (hrule : ∀ env, LoopRule prog w A (.ListComp elt (⟨.Name x px, iter, ifs, 0⟩ :: rest) scope pos) 0 x px ifs (emit env) env)
    (he : PE prog w h00 R A fm loc led iter av)
    (hi : IterP prog w h00 R A av (xs.map g)) (hlen : (xs.flatMap F).length ≤ sizeLine)
    (turn : ∀ C hid, ∀ a ∈ xs, ∃ b, PIfs prog w A h00 R (compFm fm scope cl C hid) ((x, g a) :: cap) led ifs b ∧ (b = false → F a = []) ∧ (b = true → EmitP prog w A h00 R (compFm fm scope cl C hid) ((x, g a) :: cap) led (emit (compFm fm scope cl C hid).env) (F a)))
    (hclos : closureFor scope fm.env = pure cl)
    (hx : (∀ C hid, Stores (compFm fm scope cl C hid) x) ∨ (scope.names.lookup x = some .cell ∧ ((cellsFrom 0 scope.names []).map (·.1)).Nodup)) (hcap : Caps fm loc scope cl cap)
    (hxc : cap.lookup x = none) (hkind : scope.kind = .function) (hnames : ∀ y ∈ scope.names, y.2 = .local → scope.names.lookup y.1 = some .local)
    (hs : ∀ x, foldedSetIterable iter fm.env x = pure x) :
    PE prog w h00 R A fm loc led (.ListComp elt (⟨.Name x px, iter, ifs, 0⟩ :: rest) scope pos) (.lst ((xs.flatMap F).map .d)) := fun s D Q E k => by
  rw [eval_ListComp]
  refine wpAny_comprehension_free (use := none) rfl hs hclos hkind hnames (he s D _ _ fun v h1 t1 k1 r1 => ?_)
  refine comp_core (F := F) hrule hkind hx hi hlen hxc hcap turn (D.quiet (tk := t1) k1) r1 fun C Dd h' tk B vs n as kk nC nD hne hn e r hB hout => ?_
  obtain ⟨m, hm⟩ := hn
  refine ⟨m, hm, fun h'' hs'' => ?_⟩
  have kC : ∀ b o, b ≠ C → h'.get? b = some o → h''.get? b = some o := fun b o hb e => (hs''.2 b hb).trans e
  have k'' : Ext h1 h'' := fun b o e => kC b o (fun q => by rw [q] at e; rw [show ({ s with heap := h1, toks := t1 } : Shared).heap.get? C = h1.get? C from rfl] at nC; rw [nC] at e; cases e) (kk b o e)
  refine k (.ref Dd) h'' tk (k1.trans k'') ⟨Dd, vs, n, rfl, hideAll_get _ (kC Dd _ hne.symm e) fun h => ?_, readsAll_vrs (ReadsAll.keeps (fun b o e => hideAll_get _ (kC b o (hout b o e).1 (hB b o e)) (hout b o e).2) r)⟩
  obtain ⟨o, h⟩ := (D.quiet (tk := t1) k1).bs.there Dd h
  rw [nD] at h; cases h

/-- a comprehension whose list goes straight to a name -/
theorem TX.compX {elt iter : Expr} {x y : Str} {px py : Pos} {ifs : List Expr} {rest : List Comprehension} {scope : Scope} {pos spos : Pos} {cl : List (Str × Addr)} {av : AV} {α : Type} {xs : List α} {g : α → AV} {Φ : AF → Loc → Led → Prop} (F : α → List PyData) (emit : Env → Value → Sem Unit) (cap : Loc)
    (hrule : ∀ env, LoopRule prog w A (.ListComp elt (⟨.Name x px, iter, ifs, 0⟩ :: rest) scope pos) 0 x px ifs (emit env) env)
    (hk : fm.env.scope.kind = .function) (hy : Stores fm y)
    (he : PE prog w h00 R A fm loc led iter av)
    (hi : IterP prog w h00 R A av (xs.map g)) (hlen : (xs.flatMap F).length ≤ sizeLine)
    (turn : ∀ C hid, ∀ a ∈ xs, ∃ b, PIfs prog w A h00 R (compFm fm scope cl C hid) ((x, g a) :: cap) led ifs b ∧ (b = false → F a = []) ∧ (b = true → EmitP prog w A h00 R (compFm fm scope cl C hid) ((x, g a) :: cap) led (emit (compFm fm scope cl C hid).env) (F a)))
    (fin : Φ .next ((y, .d (.list (xs.flatMap F))) :: loc) led)
    (hclos : closureFor scope fm.env = pure cl)
    (hx : (∀ C hid, Stores (compFm fm scope cl C hid) x) ∨ (scope.names.lookup x = some .cell ∧ ((cellsFrom 0 scope.names []).map (·.1)).Nodup)) (hcap : Caps fm loc scope cl cap)
    (hxc : cap.lookup x = none) (hkind : scope.kind = .function) (hnames : ∀ y ∈ scope.names, y.2 = .local → scope.names.lookup y.1 = some .local)
    (hs : ∀ x, foldedSetIterable iter fm.env x = pure x)
    (hsw : swapsWith (.ListComp elt (⟨.Name x px, iter, ifs, 0⟩ :: rest) scope pos) (some (.Name y py)) spos.line fm.env = pure true) :
    TX prog w h00 R A fm loc led (.Assign [.Name y py] (.ListComp elt (⟨.Name x px, iter, ifs, 0⟩ :: rest) scope pos) spos) Φ := fun s D Q E k => by
  rw [exec_Assign_Name_used _ _ _ _ hsw]
  refine wpAny_bind (wpAny_standAt (wpAny_bind ?_))
  show wpAny _ A (do let _ ← comprehension (.ListComp elt (⟨Expr.Name x px, iter, ifs, 0⟩ :: rest) scope pos) scope fm.env iter.pos (newList []) false (eval iter fm.env) (some (PySem.assign (Expr.Name y py) fm.env))) _ _ s
  refine wpAny_bind (wpAny_mono (wpAny_comprehension_free (use := some (PySem.assign (.Name y py) fm.env)) (Q := fun _ s' => Q .next s') rfl hs hclos hkind hnames
    (he s D _ _ fun v h1 t1 k1 r1 => ?_)) (fun _ s' hq => wpAny_pure (wpAny_pure hq)) fun _ _ e => e)
  have D1 := D.quiet (tk := t1) k1
  refine comp_core (F := F) hrule hkind hx hi hlen hxc hcap turn D1 r1 fun C Dd h' tk B vs n as kk nC nD hne hn e r hB hout => ?_
  obtain ⟨m, hm⟩ := hn
  show wpAny _ A (PySem.assign (.Name y py) fm.env (.ref Dd)) _ _ _
  have D2 : St w.params h00 R { fm with hid := C :: fm.hid } loc led { s with heap := h', toks := tk } := D1.more kk nC (by obtain ⟨o, _, _, ho, _⟩ := hm; exact ⟨o, ho⟩)
  have nCa : C ∉ away fm led := fun h => by obtain ⟨o, h⟩ := D1.bs.there C h; rw [nC] at h; cases h
  rw [away_mem] at nCa
  simp only [not_or] at nCa
  have nDa : Dd ∉ away fm led := fun h => by obtain ⟨o, h⟩ := D1.bs.there Dd h; rw [nD] at h; cases h
  have sub : Ext B (vis { fm with hid := C :: fm.hid } led h') := fun b o e => hideAll_get _ (hB _ _ e) fun h => by
    rcases away_mem.mp h with q | q | q | q
    · exact (hout b o e).2 (away_mem.mpr (.inl q))
    · exact (hout b o e).2 (away_mem.mpr (.inr (.inl q)))
    · exact (hout b o e).2 (away_mem.mpr (.inr (.inr (.inl q))))
    · rcases List.mem_cons.mp q with q | q
      · exact (hout b o e).1 q
      · exact (hout b o e).2 (away_mem.mpr (.inr (.inr (.inr q))))
  have rD : VR (vis { fm with hid := C :: fm.hid } led h') (.d (.list (xs.flatMap F))) (.ref Dd) := ⟨_, .list (hideAll_get _ e fun h => by
    rcases away_mem.mp h with q | q | q | q
    · exact nDa (away_mem.mpr (.inl q))
    · exact nDa (away_mem.mpr (.inr (.inl q)))
    · exact nDa (away_mem.mpr (.inr (.inr (.inl q))))
    · rcases List.mem_cons.mp q with q | q
      · exact hne q.symm
      · exact nDa (away_mem.mpr (.inr (.inr (.inr q))))) rfl rfl (ReadsAll.keeps sub r)⟩
  refine wpAny_assign_Name (show wpAny _ _ (storeName ({ fm with hid := C :: fm.hid } : Fm).env y (.ref Dd)) _ _ _ from store_name D2 rD hk (hy.l _) fun s3 S3 K3 D3 => ?_)
  obtain ⟨o, es, ep, hC, hd, r3⟩ := hm
  have hC3 := K3 C o hC nCa.1 nCa.2.1
  refine ⟨m, ⟨o, es, ep, hC3, hd, r3⟩, fun h'' hs'' => ?_⟩
  have kC : ∀ b o, b ≠ C → s3.heap.get? b = some o → h''.get? b = some o := fun b o hb e => (hs''.2 b hb).trans e
  obtain ⟨D4, _⟩ := D3.over (h' := h'') (tk := s3.toks) kC ⟨o, hC3, fun u => by rw [hd]; simp⟩ nCa.1 nCa.2.1 nCa.2.2.1 nCa.2.2.2 (fun q => by obtain ⟨_, _, _, o, ho, _⟩ := D1.fr C q; rw [nC] at ho; cases ho)
  refine k .next _ .next _ led ((Step.quiet D k1).trans ⟨fun b o e n1 n2 n3 n4 => kC b o (fun q => ?_) (K3 b o (kk b o e) n1 n2), fun a h => .inl h, D1.off, fun a ha => ⟨(D1.fr a ha).1, fun o e => ⟨o.slots, kC a o (fun q => by rw [q, nC] at e; cases e) (K3 a o (kk a o e) (D1.fr a ha).2.1 (D1.fr a ha).2.2.1)⟩⟩⟩) D4 rfl fin
  rw [q, nC] at e; cases e

theorem PE.compL {elt iter : Expr} {x : Str} {px : Pos} {ifs : List Expr} {scope : Scope} {pos : Pos} {cl : List (Str × Addr)} {av : AV} {α : Type} {xs : List α} {g : α → AV} (F : α → List PyData) (cap : Loc)
    (he : PE prog w h00 R A fm loc led iter av)
    (hi : IterP prog w h00 R A av (xs.map g)) (hlen : (xs.flatMap F).length ≤ sizeLine)
    (turn : ∀ C hid, ∀ a ∈ xs, ∃ b, PIfs prog w A h00 R (compFm fm scope cl C hid) ((x, g a) :: cap) led ifs b ∧ (b = false → F a = []) ∧ (b = true → ∃ y, F a = [y] ∧ PE prog w h00 R A (compFm fm scope cl C hid) ((x, g a) :: cap) led elt (.d y)))
    (hcap : Caps fm loc scope cl cap)
    (hclos : closureFor scope fm.env = pure cl := by rfl)
    (hx : (∀ C hid, Stores (compFm fm scope cl C hid) x) ∨ (scope.names.lookup x = some .cell ∧ ((cellsFrom 0 scope.names []).map (·.1)).Nodup) := by first | exact .inl fun _ _ => .inl rfl | exact .inr ⟨rfl, by decide⟩) 
    (hxc : cap.lookup x = none := by rfl) (hkind : scope.kind = .function := by rfl) (hnames : ∀ y ∈ scope.names, y.2 = .local → scope.names.lookup y.1 = some .local := by decide)
    (hs : ∀ x, foldedSetIterable iter fm.env x = pure x := by intro _; rfl) :
    PE prog w h00 R A fm loc led (.ListComp elt [⟨.Name x px, iter, ifs, 0⟩] scope pos) (.lst ((xs.flatMap F).map .d)) :=
  PE.compX F (fun env => emitOne elt env) cap (fun _ => LoopRule.one) he hi hlen (fun C hid a ha => by
    obtain ⟨b, h1, h2, h3⟩ := turn C hid a ha
    exact ⟨b, h1, h2, fun q => by obtain ⟨y, e, h⟩ := h3 q; rw [e]; exact .one h⟩) hclos hx hcap hxc hkind hnames hs
theorem PE.comp {elt iter : Expr} {x : Str} {px : Pos} {ifs : List Expr} {scope : Scope} {pos : Pos} {cl : List (Str × Addr)} {av : AV} {α : Type} {xs : List α} {g : α → AV} (F : α → List PyData) (cap : Loc)
    (he : PE prog w h00 R A fm loc led iter av)
    (hi : IterP prog w h00 R A av (xs.map g)) (hlen : (xs.flatMap F).length ≤ sizeLine)
    (turn : ∀ C hid, ∀ a ∈ xs, ∃ b, PIfs prog w A h00 R (compFm fm scope cl C hid) ((x, g a) :: cap) led ifs b ∧ (b = false → F a = []) ∧ (b = true → ∃ y, F a = [y] ∧ PE prog w h00 R A (compFm fm scope cl C hid) ((x, g a) :: cap) led elt (.d y)))
    (hcap : Caps fm loc scope cl cap)
    (hclos : closureFor scope fm.env = pure cl := by rfl)
    (hx : (∀ C hid, Stores (compFm fm scope cl C hid) x) ∨ (scope.names.lookup x = some .cell ∧ ((cellsFrom 0 scope.names []).map (·.1)).Nodup) := by first | exact .inl fun _ _ => .inl rfl | exact .inr ⟨rfl, by decide⟩) 
    (hxc : cap.lookup x = none := by rfl) (hkind : scope.kind = .function := by rfl) (hnames : ∀ y ∈ scope.names, y.2 = .local → scope.names.lookup y.1 = some .local := by decide)
    (hs : ∀ x, foldedSetIterable iter fm.env x = pure x := by intro _; rfl) :
    PE prog w h00 R A fm loc led (.ListComp elt [⟨.Name x px, iter, ifs, 0⟩] scope pos) (.d (.list (xs.flatMap F))) := fun s D Q E q =>
  PE.compL F cap he hi hlen turn hcap hclos hx hxc hkind hnames hs s D Q E fun v h' tk x r => q v h' tk x (d_of_lst r)
theorem TX.comp {elt iter : Expr} {x y : Str} {px py : Pos} {ifs : List Expr} {scope : Scope} {pos spos : Pos} {cl : List (Str × Addr)} {av : AV} {α : Type} {xs : List α} {g : α → AV} {Φ : AF → Loc → Led → Prop} (F : α → List PyData) (cap : Loc)
    (hk : fm.env.scope.kind = .function) (hy : Stores fm y)
    (he : PE prog w h00 R A fm loc led iter av)
    (hi : IterP prog w h00 R A av (xs.map g)) (hlen : (xs.flatMap F).length ≤ sizeLine)
    (turn : ∀ C hid, ∀ a ∈ xs, ∃ b, PIfs prog w A h00 R (compFm fm scope cl C hid) ((x, g a) :: cap) led ifs b ∧ (b = false → F a = []) ∧ (b = true → ∃ y, F a = [y] ∧ PE prog w h00 R A (compFm fm scope cl C hid) ((x, g a) :: cap) led elt (.d y)))
    (fin : Φ .next ((y, .d (.list (xs.flatMap F))) :: loc) led)
    (hcap : Caps fm loc scope cl cap)
    (hclos : closureFor scope fm.env = pure cl := by rfl)
    (hx : (∀ C hid, Stores (compFm fm scope cl C hid) x) ∨ (scope.names.lookup x = some .cell ∧ ((cellsFrom 0 scope.names []).map (·.1)).Nodup) := by first | exact .inl fun _ _ => .inl rfl | exact .inr ⟨rfl, by decide⟩) 
    (hxc : cap.lookup x = none := by rfl) (hkind : scope.kind = .function := by rfl) (hnames : ∀ y ∈ scope.names, y.2 = .local → scope.names.lookup y.1 = some .local := by decide)
    (hs : ∀ x, foldedSetIterable iter fm.env x = pure x := by intro _; rfl)
    (hsw : swapsWith (.ListComp elt [⟨.Name x px, iter, ifs, 0⟩] scope pos) (some (.Name y py)) spos.line fm.env = pure true := by rfl) :
    TX prog w h00 R A fm loc led (.Assign [.Name y py] (.ListComp elt [⟨.Name x px, iter, ifs, 0⟩] scope pos) spos) Φ :=
  TX.compX F (fun env => emitOne elt env) cap (fun _ => LoopRule.one) hk hy he hi hlen (fun C hid a ha => by
    obtain ⟨b, h1, h2, h3⟩ := turn C hid a ha
    exact ⟨b, h1, h2, fun q => by obtain ⟨y, e, h⟩ := h3 q; rw [e]; exact .one h⟩) fin hclos hx hcap hxc hkind hnames hs hsw
end
end Mine
end
section
open PySem PySem.Spec PySem.Calls PyProof.Rows PySem.W
set_option maxRecDepth 100000
set_option linter.unusedVariables false
namespace Mine
section
variable {prog : Program} {w : World} {h00 : Heap} {R : Shared} {A : Around} {fm : Fm} {loc : Loc} {led : Led}

theorem compStart_two {elt iter iter2 : Expr} {x x2 : Str} {px px2 : Pos} {ifs ifs2 : List Expr} {scope : Scope} {pos : Pos} {it acc : Value} {env : Env} {R : Result → Shared → Prop} {s : Shared}
    (h0 : codeAny (model prog w) A (.compLoop (.ListComp elt [⟨.Name x px, iter, ifs, 0⟩, ⟨.Name x2 px2, iter2, ifs2, 0⟩] scope pos) 1 it acc env) R s)
    (h : wpAny (model prog w) A (pyIter it) (fun it' s' => codeAny (model prog w) A (.compLoop (.ListComp elt [⟨.Name x px, iter, ifs, 0⟩, ⟨.Name x2 px2, iter2, ifs2, 0⟩] scope pos) 1 it' acc env) R s')
      (notedBy (model prog w) A env fun x s' => R (.error x) s') s) :
    codeAny (model prog w) A (.compStart (.ListComp elt [⟨.Name x px, iter, ifs, 0⟩, ⟨.Name x2 px2, iter2, ifs2, 0⟩] scope pos) 1 it acc env) R s := by
  refine codeAny_of_tree ?_
  show wpAny _ _ ((compStart (.ListComp elt [⟨.Name x px, iter, ifs, 0⟩, ⟨.Name x2 px2, iter2, ifs2, 0⟩] scope pos) 1 it acc env).onRaise (fun x => do noteFrame x env; standAt theWindowsPlace)) _ _ s
  refine wpAny_notedAt ?_
  unfold compStart
  show wpAny _ _ (ask >>= _) _ _ s
  refine wpAny_bind (wpAny_askSetting (wpAny_ite ?_))
  split
  · first
      | exact wpAny_bind (wpAny_pure (wpAny_pure (And.intro rfl h0)))
      | exact wpAny_pure (And.intro rfl h0)
  · first
      | exact wpAny_bind (wpAny_rule (wpAny_bind (wpAny_standAt (wpAny_bind (wpAny_mono h (fun it' s' h' => wpAny_pure (And.intro rfl h')) fun _ _ x => x)))))
      | (refine wpAny_bind (wpAny_rule ?_); show wpAny _ _ (standAt iter2.pos >>= _) _ _ s; exact wpAny_bind (wpAny_standAt (wpAny_bind (wpAny_mono h (fun it' s' h' => wpAny_pure (And.intro rfl h')) fun _ _ x => x))))

theorem EmitP.two {elt iter iter2 : Expr} {x x2 : Str} {px px2 : Pos} {ifs ifs2 : List Expr} {scope : Scope} {pos : Pos} {av : AV} {α : Type} {xs : List α} {g : α → AV} (F : α → List PyData)
    (hk : fm.env.scope.kind = .function) (hx : StoresL fm loc x2)
    (he : PE prog w h00 R A fm loc led iter2 av) (hi : IterP prog w h00 R A av (xs.map g)) (hxc : loc.lookup x2 = none)
    (turn : ∀ hid, ∀ a ∈ xs, ∃ b, PIfs prog w A h00 R { fm with hid := hid } ((x2, g a) :: loc) led ifs2 b ∧ (b = false → F a = []) ∧ (b = true → EmitP prog w A h00 R { fm with hid := hid } ((x2, g a) :: loc) led (emitOne elt fm.env) (F a)))
    (hs : ∀ x, foldedSetIterable iter2 fm.env x = pure x) :
    EmitP prog w A h00 R fm loc led (emitTwo (.ListComp elt [⟨.Name x px, iter, ifs, 0⟩, ⟨.Name x2 px2, iter2, ifs2, 0⟩] scope pos) 1 iter2 fm.env) (xs.flatMap F) := fun hO D s ds hD nD D0 acc0 hlen Q E k => by
  refine wpAny_bind (he s D0 _ _ fun v h1 t1 k1 r1 => wpAny_bind (wpAny_standAt (wpAny_bind ?_)))
  rw [hs v]
  refine wpAny_pure (wpAny_bind (wpAny_holding ?_))
  have D1 := D0.quiet (tk := t1) k1
  refine hi _ _ v _ _ D1.bs r1 fun I fp h2 t2 Stt k2 nI hN hfp W0 st => ?_
  have W := walk_map W0
  have eI := hN _ _ st
  have D2 : St w.params h00 R { fm with hid := I :: fm.hid } loc led { s with heap := h2, toks := t2 } := D1.more k2 nI (let ⟨o, h, _⟩ := eI; ⟨o, h⟩)
  have nI0 : s.heap.get? I = none := by
    cases e : s.heap.get? I with
    | none => rfl
    | some o => have := k1 _ _ e; rw [show ({ s with heap := h1, toks := t1 } : Shared).heap.get? I = h1.get? I from rfl] at nI; rw [this] at nI; cases nI
  have nin : I ∉ away fm led := fun hb => by obtain ⟨o, h⟩ := D1.bs.there _ hb; rw [nI] at h; cases h
  have nIa := nin
  rw [away_mem] at nIa
  simp only [not_or] at nIa
  have hID : I ≠ D := fun q => nIa.2.2.2 (q ▸ hD)
  have vv : Ext (vis fm led s.heap) (vis { fm with hid := I :: fm.hid } led h2) := fun b o e => by
    have e1 := k1 _ _ (hide_le _ _ e)
    refine hideAll_get _ (k2 _ _ e1) fun hb => ?_
    have nb := hide_none e
    rcases away_mem.mp hb with q | q | q | q
    · exact nb (away_mem.mpr (.inl q))
    · exact nb (away_mem.mpr (.inr (.inl q)))
    · exact nb (away_mem.mpr (.inr (.inr (.inl q))))
    · rcases List.mem_cons.mp q with q | q
      · rw [show ({ s with heap := h1, toks := t1 } : Shared).heap.get? I = h1.get? I from rfl] at nI
        rw [q, nI] at e1; cases e1
      · exact nb (away_mem.mpr (.inr (.inr (.inr q))))
  have vv1 : Ext (hideAll h1 (away fm led)) (vis { fm with hid := I :: fm.hid } led h2) := fun b o e => by
    have e1 := hide_le _ _ e
    refine hideAll_get _ (k2 _ _ e1) fun hb => ?_
    have nb := hide_none e
    rcases away_mem.mp hb with q | q | q | q
    · exact nb (away_mem.mpr (.inl q))
    · exact nb (away_mem.mpr (.inr (.inl q)))
    · exact nb (away_mem.mpr (.inr (.inr (.inl q))))
    · rcases List.mem_cons.mp q with q | q
      · rw [show ({ s with heap := h1, toks := t1 } : Shared).heap.get? I = h1.get? I from rfl] at nI
        rw [q, nI] at e1; cases e1
      · exact nb (away_mem.mpr (.inr (.inr (.inr q))))
  have acc2 : AccAt { fm with hid := I :: fm.hid } led { s with heap := h2, toks := t2 } D ds := acc0.move (fun o e => k2 _ _ (k1 _ _ e)) vv
  refine wpAny_bind (wpAny_runOwn ?_)
  have loop : ∀ RR : Result → Shared → Prop, (∀ s', Q () s' → RR (.ok .next) s') → codeAny (model prog w) A (.compLoop (.ListComp elt [⟨.Name x px, iter, ifs, 0⟩, ⟨.Name x2 px2, iter2, ifs2, 0⟩] scope pos) 1 (.ref I) (.ref D) fm.env) RR { s with heap := h2, toks := t2 } := fun RR hRR => by
    refine comp_turns (F := F) hO LoopRule.inner hk hx W hN hD hID (fun b hb => ?_) (fun h => ?_) ⟨nIa.1, nIa.2.1, nIa.2.2.1, nIa.2.2.2⟩ nD vv1 D2 st acc2 hlen hxc turn fun s' D' acc' kp => hRR _ ?_
    · rcases hfp b hb with q | ⟨q, o, e⟩
      · exact .inl q
      · exact .inr ⟨q, o, k2 _ _ e⟩
    · rcases hfp D h with q | ⟨q, e⟩
      · exact hID q.symm
      · exact q (away_mem.mpr (.inr (.inr (.inr hD))))
    · exact k s' D' acc' fun b o e n1 n2 n3 => kp b o (k2 _ _ (k1 _ _ e)) (fun q => by rw [q, nI0] at e; cases e) n1 n2 n3
  refine compStart_two (loop _ fun s' h => ?_) (W.self 0 _ _ _ st (loop _ fun s' h => ?_))
  · exact wpAny_pure h
  · exact wpAny_pure h
end
end Mine
end
section
open PySem PySem.Spec PySem.Calls PyProof.Rows PySem.W
set_option maxRecDepth 100000
set_option linter.unusedVariables false
namespace Mine

/-- the ledger with one object told anew -/
noncomputable def upd (led : Led) (a : Addr) (ao : AO) : Led := led.map fun p => if p.1 = a then (a, ao) else p
theorem upd_addrs (led : Led) (a : Addr) (ao : AO) : (upd led a ao).map (·.1) = led.map (·.1) := by
  unfold upd; rw [List.map_map]
  refine List.map_congr_left fun p _ => ?_
  show (if p.1 = a then (a, ao) else p).1 = p.1
  split
  · next h => exact h.symm
  · rfl
theorem away_upd (fm : Fm) (led : Led) (a : Addr) (ao : AO) : away fm (upd led a ao) = away fm led := by unfold away; rw [upd_addrs]

section
variable {prog : Program} {w : World} {h00 : Heap} {R : Shared} {A : Around} {fm : Fm} {loc : Loc} {led : Led}

/-- a ledger object that changes, the rest kept -/
theorem St.put {P : Params} {s : Shared} {a : Addr} {ao : AO} {h' : Heap} {tk : Nat} {o' : Obj} (D : St P h00 R fm loc led s) (ha : a ∈ led.map (·.1)) (k : ∀ b o, b ≠ a → s.heap.get? b = some o → h'.get? b = some o) (g : h'.get? a = some o') (r : OR P (vis fm led s.heap) ao o') (hj : ∃ o, s.heap.get? a = some o ∧ ∀ u, o.data ≠ .cell u) :
    St P h00 R fm loc (upd led a ao) { s with heap := h', toks := tk } ∧ Step fm led (upd led a ao) s { s with heap := h', toks := tk } := by
  have off := D.off a ha
  have vv : Ext (vis fm led s.heap) (vis fm (upd led a ao) h') := fun b o e => by
    rw [vis, away_upd]
    exact hideAll_get _ (k _ _ (fun q => hide_none e (away_mem.mpr (.inr (.inr (.inl (q ▸ ha)))))) (hide_le _ _ e)) (hide_none e)
  refine ⟨⟨D.base.trans vv, ?_, fun x av e l => ?_, fun p hp => ?_, ?_, fun c hc => ?_, fun b hb => ?_, D.gens, D.drawn, D.os, fun b hb => D.dis b (by rwa [upd_addrs] at hb), fun b hb => by obtain ⟨h1, h2, h3, o, ho, hd⟩ := D.fr b hb; exact ⟨h1, h2, h3, o, k _ _ (fun q => D.dis a ha (q ▸ h1)) ho, hd⟩⟩, ⟨fun b o e _ _ n _ => k b o (fun q => n (q ▸ ha)) e, fun b hb => .inl (by rwa [upd_addrs] at hb), fun b hb => D.off b (by rwa [upd_addrs] at hb), fun b hb => ⟨(D.fr b hb).1, fun o e => ⟨o.slots, k _ _ (fun q => D.dis a ha (q ▸ (D.fr b hb).1)) e⟩⟩⟩⟩
  · obtain ⟨m, ⟨o, es, ep, ho, r⟩, h2⟩ := D.ns
    exact ⟨m, ⟨o, es, ep, k _ _ (fun q => off.1 q.symm) ho, r⟩, fun x av e l => by obtain ⟨v, hv, hr⟩ := h2 x av e l; exact ⟨v, hv, hr.mono vv⟩⟩
  · obtain ⟨c, v, hc, ⟨o, ho, hd⟩, hr⟩ := D.cel x av e l
    by_cases q : c = a
    · obtain ⟨o', e', n'⟩ := hj
      rw [q, e'] at ho; cases ho
      exact absurd hd (n' _)
    · exact ⟨c, v, hc, ⟨o, k _ _ q ho, hd⟩, hr.mono vv⟩
  · obtain ⟨p0, hp0, rfl⟩ := List.mem_map.mp hp
    by_cases q : p0.1 = a
    · simp only [q, if_true]
      exact ⟨o', g, r.mono vv⟩
    · simp only [q, if_false]
      obtain ⟨o, ho, hr⟩ := D.ld p0 hp0; exact ⟨o, k _ _ q ho, hr.mono vv⟩
  · rw [upd_addrs]; exact D.nd
  · obtain ⟨v, o, h, hd⟩ := D.own c hc; exact ⟨v, o, k _ _ (fun q => off.2 (q ▸ hc)) h, hd⟩
  · by_cases q : b = a
    · exact ⟨o', q ▸ g⟩
    · obtain ⟨o, h⟩ := D.low b hb; exact ⟨o, k _ _ q h⟩

/-- a new object in the ledger -/
theorem St.add {P : Params} {s : Shared} {a : Addr} {ao : AO} {h' : Heap} {tk : Nat} {o' : Obj} (D : St P h00 R fm loc led s) (na : s.heap.get? a = none) (k : Ext s.heap h') (g : h'.get? a = some o') (r : OR P (vis fm led s.heap) ao o') :
    St P h00 R fm loc ((a, ao) :: led) { s with heap := h', toks := tk } ∧ Step fm led ((a, ao) :: led) s { s with heap := h', toks := tk } := by
  have nin : a ∉ away fm led := fun h => by obtain ⟨o, h⟩ := D.bs.there a h; rw [na] at h; cases h
  have nin' := nin
  rw [away_mem] at nin'
  simp only [not_or] at nin'
  have vv : Ext (vis fm led s.heap) (vis fm ((a, ao) :: led) h') := fun b o e => hideAll_get _ (k _ _ (hide_le _ _ e)) fun hb => by
    have nb := hide_none e
    rcases away_mem.mp hb with q | q | q | q
    · exact nb (away_mem.mpr (.inl q))
    · exact nb (away_mem.mpr (.inr (.inl q)))
    · rcases List.mem_cons.mp q with q | q
      · have := hide_le _ _ e; rw [q, na] at this; cases this
      · exact nb (away_mem.mpr (.inr (.inr (.inl q))))
    · exact nb (away_mem.mpr (.inr (.inr (.inr q))))
  refine ⟨⟨D.base.trans vv, ?_, fun x av e l => ?_, fun p hp => ?_, ?_, fun c hc => ?_, fun b hb => ?_, D.gens, D.drawn, D.os, fun b hb h => ?_, fun b hb => by obtain ⟨h1, h2, h3, o, ho, hd⟩ := D.fr b hb; exact ⟨h1, h2, h3, o, k _ _ ho, hd⟩⟩, ⟨fun b o e _ _ n _ => k b o e, fun b hb => ?_, fun b hb => ?_, fun b hb => ⟨(D.fr b hb).1, fun o e => ⟨o.slots, k _ _ e⟩⟩⟩⟩
  · obtain ⟨m, hn, h2⟩ := D.ns
    exact ⟨m, hn.keeps k, fun x av e l => by obtain ⟨v, hv, hr⟩ := h2 x av e l; exact ⟨v, hv, hr.mono vv⟩⟩
  · obtain ⟨c, v, hc, hi, hr⟩ := D.cel x av e l; exact ⟨c, v, hc, hi.keeps k, hr.mono vv⟩
  · rcases List.mem_cons.mp hp with rfl | hp
    · exact ⟨o', g, r.mono vv⟩
    · obtain ⟨o, ho, hr⟩ := D.ld p hp; exact ⟨o, k _ _ ho, hr.mono vv⟩
  · have z := List.nodup_cons.mp D.nd
    have y := List.nodup_append.mp z.2
    refine List.nodup_cons.mpr ⟨fun h => ?_, List.nodup_append.mpr ⟨y.1, List.nodup_cons.mpr ⟨nin'.2.2.1, y.2.1⟩, fun p hp q hq e => ?_⟩⟩
    · rcases List.mem_append.mp h with h | h
      · exact z.1 (List.mem_append_left _ h)
      · rcases List.mem_cons.mp h with h | h
        · exact nin'.1 h.symm
        · exact z.1 (List.mem_append_right _ h)
    · rcases List.mem_cons.mp hq with h | h
      · exact nin'.2.1 (by rw [e, h] at hp; exact hp)
      · exact y.2.2 p hp q h e
  · obtain ⟨v, h⟩ := D.own c hc; exact ⟨v, h.keeps k⟩
  · obtain ⟨o, h⟩ := D.low b hb; exact ⟨o, k _ _ h⟩
  · rcases List.mem_cons.mp hb with q | q
    · exact nin'.2.2.2 (by rw [q] at h; exact h)
    · exact D.dis b q h
  · rcases List.mem_cons.mp hb with h | h
    · exact .inr (h ▸ na)
    · exact .inl h
  · rcases List.mem_cons.mp hb with h | h
    · exact h ▸ ⟨nin'.1, nin'.2.1⟩
    · exact D.off b h

theorem TX.while {test : Expr} {body orelse : List Stmt} {pos : Pos} {Φ : AF → Loc → Led → Prop} (Inv : Nat → Loc → Led → Prop) (n0 : Nat) (h0 : Inv n0 loc led)
    (turn : ∀ n l d, Inv n l d → ∃ b, PT prog w h00 R A fm l d test b ∧ (b = true → TS prog w h00 R A fm l d body fun af l' d' => match af with
        | .next => ∃ m, m < n ∧ Inv m l' d' | .cont => ∃ m, m < n ∧ Inv m l' d' | .brk => Φ .next l' d' | .ret r => Φ (.ret r) l' d')
      ∧ (b = false → TS prog w h00 R A fm l d orelse Φ)) :
    TX prog w h00 R A fm loc led (.While test body orelse pos) Φ := fun s D Q E q => by
  refine wpAny_While (codeAny_whileLoop (fun n s' => ∃ l d, Inv n l d ∧ St w.params h00 R fm l d s' ∧ Step fm led d s s') ?_ n0 ⟨loc, led, h0, D, Step.quiet (tk := s.toks) D Ext.rfl⟩)
  rintro n s' ⟨l, d, iv, D', S'⟩
  obtain ⟨b, ht, h1, h2⟩ := turn n l d iv
  refine ht s' D' _ _ fun h3 t3 k3 => ?_
  have D3 := D'.quiet (tk := t3) k3
  have S3 := S'.trans (Step.quiet (tk := t3) D' k3)
  cases b with
  | true =>
    refine h1 rfl _ D3 _ _ fun fl s4 af l' d' S4 D4 r4 p4 => ?_
    cases af with
    | next => cases r4; obtain ⟨m, hm, iv'⟩ := p4; exact ⟨m, hm, l', d', iv', D4, S3.trans S4⟩
    | cont => cases r4; obtain ⟨m, hm, iv'⟩ := p4; exact ⟨m, hm, l', d', iv', D4, S3.trans S4⟩
    | brk => cases r4; exact q _ s4 .next l' d' (S3.trans S4) D4 rfl p4
    | ret r => obtain ⟨v', rfl, r4⟩ := r4; exact q _ s4 (.ret r) l' d' (S3.trans S4) D4 ⟨v', rfl, r4⟩ p4
  | false =>
    exact h2 rfl _ D3 _ _ fun fl s4 af l' d' S4 D4 r4 p4 => q fl s4 af l' d' (S3.trans S4) D4 r4 p4

/-- what holds of a test told by its value -/
theorem PT.val {e : Expr} {b : Bool} (h : PE prog w h00 R A fm loc led e (.d (.bool b))) (he : ∀ whole, isTrue e fm.env whole = (do let v ← whole; standAt e.pos; holding [v] (truthy v)) := by intro _; rfl) : PT prog w h00 R A fm loc led e b := fun s D Q E k =>
  wpAny_isTrue_value (h s D _ _ fun v h1 t1 k1 r1 => by
    obtain ⟨as, r1⟩ := r1
    cases r1
    exact wpAny_truthy_bool (k h1 t1 k1)) (he _)
theorem VRs.at {B : Heap} : ∀ {as : List AV} {vs : List Value}, VRs B as vs → ∀ i : Nat, (∀ a, as[i]? = some a → ∃ v, vs[i]? = some v ∧ VR B a v) ∧ (∀ v, vs[i]? = some v → ∃ a, as[i]? = some a ∧ VR B a v)
  | _, _, .nil, i => ⟨fun a h => (by simp at h), fun v h => (by simp at h)⟩
  | _, _, .cons r rs, i => by
    cases i with
    | zero => exact ⟨fun a h => (by cases h; exact ⟨_, rfl, r⟩), fun v h => (by cases h; exact ⟨_, rfl, r⟩)⟩
    | succ i => simpa using VRs.at rs i
/-- a list of the ledger, asked whether it is empty -/
theorem PT.list {e : Expr} {a : Addr} {xs : List AV} (h : PE prog w h00 R A fm loc led e (.raw (.ref a))) (hm : (a, .list xs) ∈ led) (hz : xs.length ≤ sizeLine) (he : ∀ whole, isTrue e fm.env whole = (do let v ← whole; standAt e.pos; holding [v] (truthy v)) := by intro _; rfl) :
    PT prog w h00 R A fm loc led e (!xs.isEmpty) := fun s D Q E k =>
  wpAny_isTrue_value (h s D _ _ fun v h1 t1 k1 r1 => by
    cases r1
    obtain ⟨o, ho, vs, n, rfl, hv⟩ := (D.quiet (tk := t1) k1).ld _ hm
    refine wpAny_truthy_list (items := vs.toArray) ⟨_, ho, rfl, n, rfl⟩ ?_ ?_
    · have := hv.len
      have hb : (sizeLine : Int) < 2 ^ 63 := by decide
      have : ((vs.toArray.size : Nat) : Int) ≤ sizeLine := by rw [List.size_toArray, this]; exact Int.ofNat_le.mpr hz
      omega
    · have : vs.toArray.isEmpty = xs.isEmpty := by
        have := hv.len
        cases xs <;> cases vs <;> simp_all
      rw [this]
      exact k h1 _ k1) (he _)
theorem PT.cTrue {k : Nat} {pos : Pos} : PT prog w h00 R A fm loc led (.Constant (.bool true) k pos) true := PT.val PE.cBool
end
end Mine
end
section
open PySem PySem.Spec PySem.Calls PyProof.Rows PySem.W
set_option maxRecDepth 100000
set_option linter.unusedVariables false
namespace Mine
section
variable (prog : Program) (w : World) (h00 : Heap) (R : Shared) (A : Around) (fm : Fm) (loc : Loc) (led : Led)
/-- a call that may change what the ledger tells -/
noncomputable def CallT (f : Value) (args : List AV) (Φ : AV → Led → Prop) : Prop := ∀ s, St w.params h00 R fm loc led s → ∀ (vals : List Value), VRs (vis fm led s.heap) args vals → ∀ (Q : Value → Shared → Prop) (E : Value → Shared → Prop),
  (∀ v s' av led', Step fm led led' s s' → St w.params h00 R fm loc led' s' → VR (vis fm led' s'.heap) av v → Φ av led' → Q v s') → wpAny (model prog w) A (call f vals) Q E s
/-- a method of a known object, taken for a call -/
noncomputable def MethX (u : Value) (name : Str) (f : Value) (first : List Value) : Prop := ∀ s, St w.params h00 R fm loc led s → ∀ (pl : Sem Bool) (Q : Value × List Value → Shared → Prop) (E : Value → Shared → Prop),
  (∀ tk, Q (f, first) { s with toks := tk }) → wpAny (model prog w) A (getMethod u name pl) Q E s
end

section
variable {prog : Program} {w : World} {h00 : Heap} {R : Shared} {A : Around} {fm : Fm} {loc : Loc} {led : Led}

theorem CallT.pure {f : Value} {args : List AV} {c : AV} {Φ : AV → Led → Prop} (h : CallP prog w h00 R A f args c) (k : Φ c led) : CallT prog w h00 R A fm loc led f args Φ := fun s D vals rv Q E q =>
  h _ s vals Q E D.bs rv fun r h' tk x rr => q r _ c led (Step.quiet D x) (D.quiet x) rr k
theorem CallT.mono {f : Value} {args : List AV} {Φ Ψ : AV → Led → Prop} (h : CallT prog w h00 R A fm loc led f args Φ) (k : ∀ a d, Φ a d → Ψ a d) : CallT prog w h00 R A fm loc led f args Ψ := fun s D vals rv Q E q =>
  h s D vals rv Q E fun v s' av led' x D' r p => q v s' av led' x D' r (k _ _ p)
theorem TE.mono {e : Expr} {Φ Ψ : AV → Loc → Led → Prop} (h : TE prog w h00 R A fm loc led e Φ) (k : ∀ a l d, Φ a l d → Ψ a l d) : TE prog w h00 R A fm loc led e Ψ := fun s D Q E q =>
  h s D Q E fun v s' av l' led' x D' r p => q v s' av l' led' x D' r (k _ _ _ p)

theorem St.step {P : Params} {s s' : Shared} {led' : Led} (D : St P h00 R fm loc led s) {h' : Heap} {tk : Nat} (k : Ext s.heap h') (S : Step fm led led' { s with heap := h', toks := tk } s') : Step fm led led' s s' := (Step.quiet D k).trans S

/-- a method of an object that the ledger tells, called -/
theorem TE.methB {o : Expr} {name : Str} {apos pos : Pos} {args : List Expr} {id : String} {u : Value} {first : List Value} {fav : List AV} {as : List AV} {Φ : AV → Loc → Led → Prop} {pl : Sem Bool} (ho : PE prog w h00 R A fm loc led o (.raw u))
    (hm : MethX prog w h00 R A fm loc led u name (.builtin id) first) (hfirst : fav = first.map .raw) (ha : PEs prog w h00 R A fm loc led args as) (hc : CallT prog w h00 R A fm loc led (.builtin id) (fav ++ as) fun a d => Φ a loc d)
    (hne : args ≠ [] := by decide)
    (hs : ∀ e r, args = e :: r → starEach (e :: r) fm.env = (false, eval e fm.env) :: starEach r fm.env := by intro _ _ q; cases q; rfl)
    (hp : ∀ e r, args = e :: r → (backTo pos (starEach r fm.env)).any (·.1) = false := by intro _ _ q; cases q; rfl)
    (he : eval (.Call (.Attribute o name apos) args [] pos) fm.env = (do
      let ov ← eval o fm.env
      standAt apos.atName
      let (f, first) ← holding [ov] (getMethod ov name pl)
      callWith pos f first (backTo pos (starEach args fm.env)) []) := by rfl) :
    TE prog w h00 R A fm loc led (.Call (.Attribute o name apos) args [] pos) Φ := fun s D Q E k => by
  refine MethodCall_ (pl := pl) (ho s D _ _ fun v h1 t1 k1 r1 => ?_) he
  cases r1
  have D1 := D.quiet (tk := t1) k1
  refine hm _ D1 pl _ _ fun t1' => ?_
  have D1' : St w.params h00 R fm loc led { s with heap := h1, toks := t1' } := D.quiet k1
  cases args with
  | nil => exact absurd rfl hne
  | cons e r =>
    refine callWith_method1 (ha pos _ D1' _ _ fun vs h2 t2 k2 r2 => ?_) (hs e r rfl) (hp e r rfl)
    have D2 := D1'.quiet (tk := t2) k2
    refine hc _ D2 _ ?_ _ _ fun v s' av d x D3 r3 p => k v s' av loc d (D.step k1 (D1'.step k2 x)) D3 r3 p
    subst hfirst
    clear hm hc he
    induction first with
    | nil => exact r2
    | cons a l ih => exact .cons rfl ih
theorem TE.methB0 {o : Expr} {name : Str} {apos pos : Pos} {id : String} {u : Value} {first : List Value} {fav : List AV} {Φ : AV → Loc → Led → Prop} {pl : Sem Bool} (ho : PE prog w h00 R A fm loc led o (.raw u))
    (hm : MethX prog w h00 R A fm loc led u name (.builtin id) first) (hfirst : fav = first.map .raw) (hc : CallT prog w h00 R A fm loc led (.builtin id) fav fun a d => Φ a loc d)
    (he : eval (.Call (.Attribute o name apos) [] [] pos) fm.env = (do
      let ov ← eval o fm.env
      standAt apos.atName
      let (f, first) ← holding [ov] (getMethod ov name pl)
      callWith pos f first (backTo pos (starEach [] fm.env)) []) := by rfl) :
    TE prog w h00 R A fm loc led (.Call (.Attribute o name apos) [] [] pos) Φ := fun s D Q E k => by
  refine MethodCall_ (pl := pl) (ho s D _ _ fun v h1 t1 k1 r1 => ?_) he
  cases r1
  have D1 := D.quiet (tk := t1) k1
  refine hm _ D1 pl _ _ fun t1' => ?_
  have D1' : St w.params h00 R fm loc led { s with heap := h1, toks := t1' } := D.quiet k1
  refine callWith_method0 ?_
  rw [← List.append_nil first]
  refine hc _ D1' _ ?_ _ _ fun v s' av d x D3 r3 p => k v s' av loc d (D.step k1 x) D3 r3 p
  subst hfirst
  clear hm hc he
  induction first with
  | nil => exact .nil
  | cons a l ih => exact .cons rfl ih
theorem St.K {K : Frag} {P : Params} {s : Shared} (D : St P h00 R fm loc led s) (X : K.In h00) : K.In s.heap := (X.keeps D.base).keeps hide_le
theorem TE.methK {K : Frag} {o : Expr} {name : Str} {apos pos : Pos} {args : List Expr} {f u : Value} {first : List Value} {fav : List AV} {as : List AV} {Φ : AV → Loc → Led → Prop} {pl : Sem Bool} (X : K.In h00) (hk : keepIn K f = true) (ho : PE prog w h00 R A fm loc led o (.raw u))
    (hm : MethX prog w h00 R A fm loc led u name f first) (hfirst : fav = first.map .raw) (ha : PEs prog w h00 R A fm loc led args as) (hc : CallT prog w h00 R A fm loc led f (fav ++ as) fun a d => Φ a loc d)
    (hne : args ≠ [] := by decide)
    (hs : ∀ e r, args = e :: r → starEach (e :: r) fm.env = (false, eval e fm.env) :: starEach r fm.env := by intro _ _ q; cases q; rfl)
    (hp : ∀ e r, args = e :: r → (backTo pos (starEach r fm.env)).any (·.1) = false := by intro _ _ q; cases q; rfl)
    (he : eval (.Call (.Attribute o name apos) args [] pos) fm.env = (do
      let ov ← eval o fm.env
      standAt apos.atName
      let (f, first) ← holding [ov] (getMethod ov name pl)
      callWith pos f first (backTo pos (starEach args fm.env)) []) := by rfl) :
    TE prog w h00 R A fm loc led (.Call (.Attribute o name apos) args [] pos) Φ := fun s D Q E k => by
  refine MethodCall_ (pl := pl) (ho s D _ _ fun v h1 t1 k1 r1 => ?_) he
  cases r1
  have D1 := D.quiet (tk := t1) k1
  refine hm _ D1 pl _ _ fun t1' => ?_
  have D1' : St w.params h00 R fm loc led { s with heap := h1, toks := t1' } := D.quiet k1
  cases args with
  | nil => exact absurd rfl hne
  | cons e r =>
    refine callWith_K (K := K) X hk (ha pos _ D1' _ _ fun vs h2 t2 k2 r2 => ?_) (hs e r rfl) (hp e r rfl)
    have D2 := D1'.quiet (tk := t2) k2
    refine ⟨D2.K X, hc _ D2 _ ?_ _ _ fun v s' av d x D3 r3 p => k v s' av loc d (D.step k1 (D1'.step k2 x)) D3 r3 p⟩
    subst hfirst
    clear hm hc he
    induction first with
    | nil => exact r2
    | cons a l ih => exact .cons rfl ih
/-- a name of the text, called -/
theorem TE.callK {K : Frag} {func : Expr} {args : List Expr} {pos : Pos} {f : Value} {as : List AV} {Φ : AV → Loc → Led → Prop} (X : K.In h00) (hk : keepIn K f = true) (hf : PE prog w h00 R A fm loc led func (.raw f)) (ha : PEs prog w h00 R A fm loc led args as)
    (hc : CallT prog w h00 R A fm loc led f as fun a d => Φ a loc d)
    (hne : args ≠ [] := by decide)
    (hs : ∀ e r, args = e :: r → starEach (e :: r) fm.env = (false, eval e fm.env) :: starEach r fm.env := by intro _ _ q; cases q; rfl)
    (hp : ∀ e r, args = e :: r → (backTo pos (starEach r fm.env)).any (·.1) = false := by intro _ _ q; cases q; rfl)
    (he : eval (.Call func args [] pos) fm.env = (do callWith pos (← eval func fm.env) [] (backTo pos (starEach args fm.env)) (backToKw pos (keywordEach [] fm.env))) := by rfl) :
    TE prog w h00 R A fm loc led (.Call func args [] pos) Φ := fun s D Q E k => by
  refine Call_ (hf s D _ _ fun g h1 t1 k1 r1 => ?_) he
  cases r1
  have D1 := D.quiet (tk := t1) k1
  cases args with
  | nil => exact absurd rfl hne
  | cons e r =>
    refine callWith_K (K := K) X hk (ha pos _ D1 _ _ fun vs h2 t2 k2 r2 => ?_) (hs e r rfl) (hp e r rfl)
    have D2 := D1.quiet (tk := t2) k2
    exact ⟨D2.K X, hc _ D2 _ r2 _ _ fun v s' av d x D3 r3 p => k v s' av loc d (D.step k1 (D1.step k2 x)) D3 r3 p⟩
theorem TE.callK0 {K : Frag} {func : Expr} {pos : Pos} {f : Value} {Φ : AV → Loc → Led → Prop} (X : K.In h00) (hk : keepIn K f = true) (hf : PE prog w h00 R A fm loc led func (.raw f))
    (hc : CallT prog w h00 R A fm loc led f [] fun a d => Φ a loc d)
    (he : eval (.Call func [] [] pos) fm.env = (do callWith pos (← eval func fm.env) [] (backTo pos (starEach [] fm.env)) (backToKw pos (keywordEach [] fm.env))) := by rfl) :
    TE prog w h00 R A fm loc led (.Call func [] [] pos) Φ := fun s D Q E k => by
  refine Call_ (hf s D _ _ fun g h1 t1 k1 r1 => ?_) he
  cases r1
  have D1 := D.quiet (tk := t1) k1
  refine callWith_K0 (K := K) (first := []) (D1.K X) hk ?_
  exact hc _ D1 _ .nil _ _ fun v s' av d x D3 r3 p => k v s' av loc d (D.step k1 x) D3 r3 p

theorem OR.nocell {P : Params} {B : Heap} : ∀ {a : AO} {o : Obj}, OR P B a o → ∀ u, o.data ≠ .cell u
  | .list _, _, ⟨_, _, e, _⟩ => by subst e; simp
  | .dict _, _, ⟨_, _, e, _⟩ => by subst e; simp
  | .sset _, _, ⟨_, _, _, e, _⟩ => by subst e; simp
  | .inst _ _, _, e => by cases e; intro u; simp [instObj]
  | .slots _ _ _, _, ⟨_, e, _⟩ => by subst e; simp
  | .dead, _, h => h.2
  | .liter _ _, _, e => by cases e; simp
  | .bnext _, _, e => by cases e; simp
/-- what the def does with the part of the ledger that it is handed -/
theorem St.of_def {K : Frag} {p : Program} {loose : List Str} {mg mb : Str → Option Value} {f : Addr} {fd : FuncData} {oc : Value} {od : Option Addr} {osl : Array (Option Value)} {body : List Stmt} {names : List Str} {args : List AV} {led1 led2 : Led} {Φ : AV → Led → Prop}
    (X : K.In h00) (T : TopRead p loose mg mb h00) (ho : K.lookup f = some ⟨oc, od, .func fd, osl⟩) (hcd : codeIn K fd.code fd.qualname = true) (hroom : A.depth < recursionLimit) (hbody : fd.body = .stmts body) (hclo : fd.closure = [])
    (hbind : ∀ vals : List Value, vals.length = args.length → bindArgs fd ⟨vals, []⟩ = Pure.pure (names.zip vals)) (hnd : names.Nodup)
    (hkind : ∀ n, ∀ x ∈ names, fd.scope.names.lookup x = some .local ∨ (fd.scope.names.lookup x = some .cell ∧ ((cellsFrom n fd.scope.names []).lookup x).isSome = true))
    (hown : ∀ n, ∀ c ∈ (cellsFrom n fd.scope.names []).map (·.2), ∃ x, (cellsFrom n fd.scope.names []).lookup x = some c)
    (go : ∀ L hid, TS prog w h00 R (A.deeper (callEnvC fd L f)) (fmOf fd L f hid) (names.zip args) led1 body fun af _ d => ∃ c, Φ c (led2 ++ d) ∧ (af = .ret c ∨ (af = .next ∧ c = .d .none)))
    {s : Shared} {vals : List Value} {RR : Result → Shared → Prop} (D : St w.params h00 R fm loc (led2 ++ led1) s) (rv : VRs (vis fm (led2 ++ led1) s.heap) args vals)
    (k : ∀ v s' av led', Step fm (led2 ++ led1) led' s s' → St w.params h00 R fm loc led' s' → VR (vis fm led' s'.heap) av v → Φ av led' → RR (.ok (.ret v)) s')
    (hco : fd.scope.isCoroutine = false := by rfl) (hgen : fd.scope.isGenerator = false := by rfl) (hk : fd.scope.kind = .function := by rfl) : codeAny (model prog w) A (.call (.ref f) ⟨vals, []⟩) RR s := by
  have hX : ∀ b, b ∈ led1.map (·.1) ++ (fm.env.locals :: (fm.own ++ (led2.map (·.1) ++ fm.hid))) ↔ b ∈ away fm (led2 ++ led1) := fun b => by
    rw [away_mem, List.map_append]; simp only [List.mem_append, List.mem_cons]; constructor
    · rintro (q | q | q | q | q)
      · exact .inr (.inr (.inl (.inr q)))
      · exact .inl q
      · exact .inr (.inl q)
      · exact .inr (.inr (.inl (.inl q)))
      · exact .inr (.inr (.inr q))
    · rintro (q | q | (q | q) | q)
      · exact .inr (.inl q)
      · exact .inr (.inr (.inl q))
      · exact .inr (.inr (.inr (.inl q)))
      · exact .inl q
      · exact .inr (.inr (.inr (.inr q)))
  have vX : Ext (vis fm (led2 ++ led1) s.heap) (hideAll s.heap (led1.map (·.1) ++ (fm.env.locals :: (fm.own ++ (led2.map (·.1) ++ fm.hid))))) := fun b o e => hideAll_get _ (hide_le _ _ e) fun h => hide_none e ((hX b).mp h)
  have vX' : Ext (vis fm (led2 ++ led1) s.heap) (hideAll s.heap (fm.env.locals :: (fm.own ++ (led2.map (·.1) ++ fm.hid)))) := fun b o e => hideAll_get _ (hide_le _ _ e) fun h => hide_none e ((hX b).mp (List.mem_append_right _ h))
  have ndm : (led2.map (·.1) ++ led1.map (·.1)).Nodup := by have := (List.nodup_append.mp (List.nodup_cons.mp D.nd).2).2.1; rwa [List.map_append] at this
  have B : Bs h00 R (fm.env.locals :: (fm.own ++ (led2.map (·.1) ++ fm.hid))) s := ⟨D.base.trans vX', fun x hx => D.bs.there x ((hX x).mp (List.mem_append_right _ hx)), D.gens, D.drawn, D.os⟩
  have a1 : ∀ a ∈ led1.map (·.1), a ≠ fm.env.locals ∧ a ∉ fm.own := fun a h => D.off a (by rw [List.map_append]; exact List.mem_append_right _ h)
  refine (enter_def (R := R) X T ho hcd hroom hbody hclo hbind hnd hkind hown B (rv.mono vX') led1 (fun a ha h => ?_) (fun p hp => ?_) (List.nodup_append.mp ndm).2.1 (rv.mono vX) (D.base.trans vX) (fun s1 D1 kp nL nO => ?_) hco hgen hk)
  · rcases List.mem_cons.mp h with q | q
    · exact (a1 a ha).1 q
    · rcases List.mem_append.mp q with q | q
      · exact (a1 a ha).2 q
      · rcases List.mem_append.mp q with q | q
        · exact (List.nodup_append.mp ndm).2.2 a q a ha rfl
        · exact D.dis a (by rw [List.map_append]; exact List.mem_append_right _ ha) q
  · obtain ⟨o, h, r⟩ := D.ld p (List.mem_append_right _ hp)
    exact ⟨o, h, r.mono vX⟩
  · refine go _ _ s1 D1 _ _ fun fl s' af loc' led' x D' r φ => ?_
    obtain ⟨c, hΦ, hc⟩ := φ
    have kk : ∀ b o, s.heap.get? b = some o → b ∉ led1.map (·.1) → s'.heap.get? b = some o := fun b o e h =>
      x.keep b o (kp b o e) (fun q => by rw [show b = s.heap.objs.size from q, nL] at e; cases e) (fun q => by rw [nO b q] at e; cases e) h (fun h => nomatch h)
    have newl : ∀ a ∈ led'.map (·.1), a ∈ led1.map (·.1) ∨ s.heap.get? a = none := fun a ha => by
      rcases x.new a ha with q | q
      · exact .inl q
      · refine .inr ?_
        cases e : s.heap.get? a with
        | none => rfl
        | some o => have := kp a o e; rw [q] at this; cases this
    have th : ∀ a ∈ away fm (led2 ++ led1), ∃ o, s.heap.get? a = some o := D.bs.there
    have nof : ∀ {a : Addr} {P : Prop}, s.heap.get? a = none → (∃ o, s.heap.get? a = some o) → P := fun {a P} e ⟨o, h⟩ => by rw [e] at h; cases h
    have m2 : ∀ a ∈ led2.map (·.1), a ∈ (led2 ++ led1).map (·.1) := fun a h => by rw [List.map_append]; exact List.mem_append_left _ h
    have m1 : ∀ a ∈ led1.map (·.1), a ∈ (led2 ++ led1).map (·.1) := fun a h => by rw [List.map_append]; exact List.mem_append_right _ h
    have n21 : ∀ a ∈ led2.map (·.1), a ∉ led1.map (·.1) := fun a h h' => (List.nodup_append.mp ndm).2.2 a h a h' rfl
    have nd2 : ∀ a ∈ led2.map (·.1), a ∉ led'.map (·.1) := fun a h h' => by
      rcases newl a h' with q | q
      · exact n21 a h q
      · exact nof q (th a (away_mem.mpr (.inr (.inr (.inl (m2 a h))))))
    have offn : ∀ a ∈ led'.map (·.1), a ≠ fm.env.locals ∧ a ∉ fm.own := fun a ha => by
      rcases newl a ha with q | q
      · exact a1 a q
      · exact ⟨fun h => nof q (th a (away_mem.mpr (.inl h))), fun h => nof q (th a (away_mem.mpr (.inr (.inl h))))⟩
    have S : Step fm (led2 ++ led1) (led2 ++ led') s s' := by
      refine ⟨fun b o e _ _ h _ => kk b o e fun h' => h (m1 b h'), fun a ha => ?_, fun a ha => ?_, fun a ha => ⟨(D.fr a ha).1, fun o e => ⟨o.slots, kk a o e fun h' => D.dis a (m1 a h') (D.fr a ha).1⟩⟩⟩
      · rw [List.map_append] at ha
        rcases List.mem_append.mp ha with h | h
        · exact .inl (m2 a h)
        · rcases newl a h with q | q
          · exact .inl (m1 a q)
          · exact .inr q
      · rw [List.map_append] at ha
        rcases List.mem_append.mp ha with h | h
        · exact D.off a (m2 a h)
        · exact offn a h
    have vv := S.ext
    have sub : Ext (vis (fmOf fd s.heap.objs.size f (fm.env.locals :: (fm.own ++ (led2.map (·.1) ++ fm.hid)))) led' s'.heap) (vis fm (led2 ++ led') s'.heap) := fun b o e => hideAll_get _ (hide_le _ _ e) fun hb => by
      refine hide_none e ?_
      rcases away_mem.mp hb with q | q | q | q
      · exact away_mem.mpr (.inr (.inr (.inr (q ▸ List.mem_cons_self))))
      · exact away_mem.mpr (.inr (.inr (.inr (List.mem_cons_of_mem _ (List.mem_append_left _ q)))))
      · rw [List.map_append] at q
        rcases List.mem_append.mp q with q | q
        · exact away_mem.mpr (.inr (.inr (.inr (List.mem_cons_of_mem _ (List.mem_append_right _ (List.mem_append_left _ q))))))
        · exact away_mem.mpr (.inr (.inr (.inl q)))
      · exact away_mem.mpr (.inr (.inr (.inr (List.mem_cons_of_mem _ (List.mem_append_right _ (List.mem_append_right _ q))))))
    have D3 : St w.params h00 R fm loc (led2 ++ led') s' := by
      refine ⟨D.base.trans vv, ?_, fun y av e l => ?_, fun p hp => ?_, ?_, fun c hc => ?_, fun a ha => ?_, D'.gens, D'.drawn, D'.os, fun a ha h => ?_, fun a ha => by obtain ⟨h1, h2, h3, o, ho, hd⟩ := D.fr a ha; exact ⟨h1, h2, h3, o, kk _ _ ho fun h' => D.dis a (m1 a h') h1, hd⟩⟩
      · obtain ⟨m, ⟨o, es, ep, ho, r⟩, h2⟩ := D.ns
        exact ⟨m, ⟨o, es, ep, kk _ _ ho fun h => (a1 _ h).1 rfl, r⟩, fun y av e l => by obtain ⟨v, hv, hr⟩ := h2 y av e l; exact ⟨v, hv, hr.mono vv⟩⟩
      · obtain ⟨c, v, hc, ⟨o, ho, hd⟩, hr⟩ := D.cel y av e l
        refine ⟨c, v, hc, ⟨o, kk _ _ ho fun h => ?_, hd⟩, hr.mono vv⟩
        obtain ⟨p, hp, rfl⟩ := List.mem_map.mp h
        obtain ⟨o', ho', hr'⟩ := D.ld p (List.mem_append_right _ hp)
        rw [ho] at ho'; cases ho'
        exact OR.nocell hr' _ hd
      · rcases List.mem_append.mp hp with hp | hp
        · obtain ⟨o, ho, hr⟩ := D.ld p (List.mem_append_left _ hp)
          exact ⟨o, kk _ _ ho (n21 _ (List.mem_map_of_mem hp)), hr.mono vv⟩
        · obtain ⟨o, ho, hr⟩ := D'.ld p hp
          exact ⟨o, ho, hr.mono sub⟩
      · have z := List.nodup_cons.mp D.nd
        have y := List.nodup_append.mp z.2
        have z' := List.nodup_cons.mp D'.nd
        have y' := List.nodup_append.mp z'.2
        refine List.nodup_cons.mpr ⟨fun h => ?_, List.nodup_append.mpr ⟨y.1, ?_, fun a ha b hb e => ?_⟩⟩
        · rcases List.mem_append.mp h with h | h
          · exact z.1 (List.mem_append_left _ h)
          · rw [List.map_append] at h
            rcases List.mem_append.mp h with h | h
            · exact (D.off _ (m2 _ h)).1 rfl
            · exact (offn _ h).1 rfl
        · rw [List.map_append]
          exact List.nodup_append.mpr ⟨(List.nodup_append.mp ndm).1, y'.2.1, fun a ha b hb e => nd2 a ha (e ▸ hb)⟩
        · rw [List.map_append] at hb
          rcases List.mem_append.mp hb with h | h
          · exact (D.off _ (m2 _ h)).2 (e ▸ ha)
          · exact (offn _ h).2 (e ▸ ha)
      · obtain ⟨v, o, h, hd⟩ := D.own c hc
        exact ⟨v, o, kk _ _ h fun q => (a1 _ q).2 hc, hd⟩
      · obtain ⟨o, h⟩ := D.low a ha
        by_cases q : a ∈ led1.map (·.1)
        · exact D'.low a (List.mem_cons_of_mem _ (List.mem_append_right _ (List.mem_append_right _ ha)))
        · exact ⟨o, kk _ _ h q⟩
      · rw [List.map_append] at ha
        rcases List.mem_append.mp ha with q | q
        · exact D.dis a (m2 a q) h
        · exact D'.dis a q (List.mem_cons_of_mem _ (List.mem_append_right _ (List.mem_append_right _ h)))
    rcases hc with rfl | ⟨rfl, rfl⟩
    · obtain ⟨v, rfl, hr⟩ := r
      exact k v s' c _ S D3 (hr.mono sub) hΦ
    · cases r
      exact k .none s' (.d .none) _ S D3 ⟨_, .none⟩ hΦ
/-- what the def does with the part of the ledger that it is handed -/
theorem CallT.of_def {K : Frag} {p : Program} {loose : List Str} {mg mb : Str → Option Value} {f : Addr} {fd : FuncData} {oc : Value} {od : Option Addr} {osl : Array (Option Value)} {body : List Stmt} {names : List Str} {args : List AV} {led1 led2 : Led} {Φ : AV → Led → Prop}
    (X : K.In h00) (T : TopRead p loose mg mb h00) (ho : K.lookup f = some ⟨oc, od, .func fd, osl⟩) (hcd : codeIn K fd.code fd.qualname = true) (hroom : A.depth < recursionLimit) (hbody : fd.body = .stmts body) (hclo : fd.closure = [])
    (hbind : ∀ vals : List Value, vals.length = args.length → bindArgs fd ⟨vals, []⟩ = Pure.pure (names.zip vals)) (hnd : names.Nodup)
    (hkind : ∀ n, ∀ x ∈ names, fd.scope.names.lookup x = some .local ∨ (fd.scope.names.lookup x = some .cell ∧ ((cellsFrom n fd.scope.names []).lookup x).isSome = true))
    (hown : ∀ n, ∀ c ∈ (cellsFrom n fd.scope.names []).map (·.2), ∃ x, (cellsFrom n fd.scope.names []).lookup x = some c)
    (go : ∀ L hid, TS prog w h00 R (A.deeper (callEnvC fd L f)) (fmOf fd L f hid) (names.zip args) led1 body fun af _ d => ∃ c, Φ c (led2 ++ d) ∧ (af = .ret c ∨ (af = .next ∧ c = .d .none)))
    (hco : fd.scope.isCoroutine = false := by rfl) (hgen : fd.scope.isGenerator = false := by rfl) (hk : fd.scope.kind = .function := by rfl) : CallT prog w h00 R A fm loc (led2 ++ led1) (.ref f) args Φ := fun s D vals rv Q E k =>
  wpAny_call (St.of_def X T ho hcd hroom hbody hclo hbind hnd hkind hown go D rv (fun v s' av led' a b c d => k v s' av led' a b c d) hco hgen hk)
theorem St.swap {P : Params} {l1 l2 : Led} {s : Shared} (D : St P h00 R fm loc (l1 ++ l2) s) : St P h00 R fm loc (l2 ++ l1) s := by
  have hm : ∀ a, a ∈ (l2 ++ l1).map (·.1) → a ∈ (l1 ++ l2).map (·.1) := fun a h => by
    rw [List.map_append] at h ⊢
    rcases List.mem_append.mp h with h | h
    · exact List.mem_append_right _ h
    · exact List.mem_append_left _ h
  have vv : Ext (vis fm (l1 ++ l2) s.heap) (vis fm (l2 ++ l1) s.heap) := fun b o e => hideAll_get _ (hide_le _ _ e) fun h => by
    refine hide_none e ?_
    rcases away_mem.mp h with q | q | q | q
    · exact away_mem.mpr (.inl q)
    · exact away_mem.mpr (.inr (.inl q))
    · exact away_mem.mpr (.inr (.inr (.inl (hm b q))))
    · exact away_mem.mpr (.inr (.inr (.inr q)))
  refine ⟨D.base.trans vv, ?_, fun y av e l => ?_, fun p hp => ?_, ?_, D.own, D.low, D.gens, D.drawn, D.os, fun a h => D.dis a (hm a h), D.fr⟩
  · obtain ⟨m, hn, h2⟩ := D.ns
    exact ⟨m, hn, fun y av e l => by obtain ⟨v, hv, hr⟩ := h2 y av e l; exact ⟨v, hv, hr.mono vv⟩⟩
  · obtain ⟨c, v, hc, hi, hr⟩ := D.cel y av e l; exact ⟨c, v, hc, hi, hr.mono vv⟩
  · obtain ⟨o, ho, hr⟩ := D.ld p (by rcases List.mem_append.mp hp with q | q; exact List.mem_append_right _ q; exact List.mem_append_left _ q)
    exact ⟨o, ho, hr.mono vv⟩
  · refine (List.Perm.nodup_iff ?_).mp D.nd
    refine List.Perm.cons _ (List.Perm.append_left _ ?_)
    rw [List.map_append, List.map_append]
    exact List.perm_append_comm
end
end Mine
end
section
open PySem PySem.Spec PySem.Calls PyProof.Rows PySem.W
set_option maxRecDepth 100000
set_option linter.unusedVariables false
namespace Mine

noncomputable def tupHP (xs : List AV) : HP := ⟨fun B v => ∃ a vs n, v = .ref a ∧ B.get? a = some { cls := .type "tuple", data := .seq (List.toArray vs) n } ∧ VRs B xs vs, fun B B' v x ⟨a, vs, n, e, h, r⟩ => ⟨a, vs, n, e, x _ _ h, r.mono x⟩⟩
noncomputable abbrev AV.tup (xs : List AV) : AV := .x (tupHP xs)
/-- a range from 0 -/
noncomputable def rangeHP (n : Nat) : HP := ⟨fun B v => ∃ r t u w, v = .ref r ∧ IsRange B r 0 n 1 t u w, fun B B' v x ⟨r, t, u, w, e, h⟩ => ⟨r, t, u, w, e, x _ _ h⟩⟩

section
variable {prog : Program} {w : World} {h00 : Heap} {R : Shared} {A : Around} {fm : Fm} {loc : Loc} {led : Led}
theorem St.thaw {P : Params} {s : Shared} {led' : Led} (D : St P h00 R fm loc led s) (sub : led'.Sublist led) : St P h00 R fm loc led' s ∧ Ext (vis fm led s.heap) (vis fm led' s.heap) := by
  have ms : ∀ a ∈ led'.map (·.1), a ∈ led.map (·.1) := fun a h => (sub.map _).subset h
  have vv : Ext (vis fm led s.heap) (vis fm led' s.heap) := fun b o e => hideAll_get _ (hide_le _ _ e) fun h => by
    refine hide_none e ?_
    rcases away_mem.mp h with q | q | q | q
    · exact away_mem.mpr (.inl q)
    · exact away_mem.mpr (.inr (.inl q))
    · exact away_mem.mpr (.inr (.inr (.inl (ms b q))))
    · exact away_mem.mpr (.inr (.inr (.inr q)))
  refine ⟨⟨D.base.trans vv, ?_, fun y av e l => ?_, fun p hp => ?_, ?_, D.own, D.low, D.gens, D.drawn, D.os, fun a h => D.dis a (ms a h), D.fr⟩, vv⟩
  · obtain ⟨m, hn, h2⟩ := D.ns
    exact ⟨m, hn, fun y av e l => by obtain ⟨v, hv, hr⟩ := h2 y av e l; exact ⟨v, hv, hr.mono vv⟩⟩
  · obtain ⟨c, v, hc, hi, hr⟩ := D.cel y av e l; exact ⟨c, v, hc, hi, hr.mono vv⟩
  · obtain ⟨o, ho, hr⟩ := D.ld p (sub.subset hp); exact ⟨o, ho, hr.mono vv⟩
  · exact D.nd.sublist (List.Sublist.cons_cons _ (List.Sublist.append_left (sub.map _) _))
theorem TS.freeze {ss : List Stmt} {Φ : AF → Loc → Led → Prop} (led' : Led) (loc' : Loc) (sub : led'.Sublist led)
    (h : ∀ s, St w.params h00 R fm loc led s → ∀ y a', loc'.lookup y = some a' → ∃ a, loc.lookup y = some a ∧ ∀ v, VR (vis fm led s.heap) a v → VR (vis fm led' s.heap) a' v)
    (t : TS prog w h00 R A fm loc' led' ss Φ) : TS prog w h00 R A fm loc led ss Φ := fun s D Q E q => by
  have ms : ∀ a ∈ led'.map (·.1), a ∈ led.map (·.1) := fun a h => (sub.map _).subset h
  obtain ⟨D', vv⟩ := D.thaw sub
  have D2 : St w.params h00 R fm loc' led' s := by
    refine ⟨D'.base, ?_, fun y a' e l => ?_, D'.ld, D'.nd, D'.own, D'.low, D'.gens, D'.drawn, D'.os, D'.dis, D'.fr⟩
    · obtain ⟨m, hn, h2⟩ := D.ns
      refine ⟨m, hn, fun y a' e l => ?_⟩
      obtain ⟨a, ha, k⟩ := h s D y a' e
      obtain ⟨v, hv, hr⟩ := h2 y a ha l
      exact ⟨v, hv, k v hr⟩
    · obtain ⟨a, ha, k⟩ := h s D y a' e
      obtain ⟨c, v, hc, hi, hr⟩ := D.cel y a ha l
      exact ⟨c, v, hc, hi, k v hr⟩
  refine t s D2 Q E fun fl s' af l d x D3 r p => q fl s' af l d ⟨fun b o e n1 n2 n3 n4 => x.keep b o e n1 n2 (fun h => n3 (ms b h)) n4, fun a ha => ?_, x.off, x.turn⟩ D3 r p
  rcases x.new a ha with z | z
  · exact .inl (ms a z)
  · exact .inr z
/-- an object that leaves the ledger stays as it is -/
theorem St.seen {P : Params} {s : Shared} {led' : Led} {a : Addr} {ao : AO} (D : St P h00 R fm loc led s) (sub : led'.Sublist led) (hm : (a, ao) ∈ led) (hn : a ∉ led'.map (·.1)) : ∃ o, (vis fm led' s.heap).get? a = some o ∧ OR P (vis fm led' s.heap) ao o := by
  obtain ⟨D', vv⟩ := D.thaw sub
  obtain ⟨o, ho, r⟩ := D.ld _ hm
  have hma : a ∈ led.map (·.1) := List.mem_map_of_mem hm
  refine ⟨o, hideAll_get _ ho fun h => ?_, r.mono vv⟩
  rcases away_mem.mp h with q | q | q | q
  · exact (D.off a hma).1 q
  · exact (D.off a hma).2 q
  · exact hn q
  · exact D.dis a hma q
theorem St.seen_list {P : Params} {s : Shared} {led' : Led} {a : Addr} {xs : List AV} (D : St P h00 R fm loc led s) (sub : led'.Sublist led) (hm : (a, .list xs) ∈ led) (hn : a ∉ led'.map (·.1)) : VR (vis fm led' s.heap) (.lst xs) (.ref a) := by
  obtain ⟨o, e, vs, n, rfl, r⟩ := D.seen sub hm hn
  exact ⟨a, vs, n, rfl, e, r⟩

theorem Walks.weak {I : Addr} {fp wr : List Addr} {n : Nat} {P P' : Nat → Value → Prop} {S : Nat → Heap → Prop} (W : Walks prog w A I fp wr n P S) (h : ∀ i v, P i v → P' i v) : Walks prog w A I fp wr n P' S :=
  ⟨W.sub, W.frame, fun i s Q E hi st k => W.item i s Q E hi st fun v h' tk p st' kk => k v h' tk (h i v p) st' kk, W.done, W.self⟩

theorem IterP.lst {xs : List AV} (hh : A.handled = none) : IterP prog w h00 R A (.lst xs) xs := fun X s v Q E B rv k => by
  obtain ⟨a, vs, n, rfl, e, r⟩ := rv
  have e0 := hide_le _ _ e
  have hl : s.heap.IsList a vs.toArray := ⟨_, e0, rfl, n, rfl⟩
  have hlt : a < s.heap.objs.size := Heap.lt_size e0
  have up : Ext s.heap (s.heap.push { cls := .type "list_iterator", data := .fields #[.ref a, .int 0 0] }) := fun b o e => Heap.get?_push_of_some _ e
  refine wpAny_pyIter_list hl (k s.heap.objs.size [s.heap.objs.size, a] _ s.toks (fun i h => h.IsListIter s.heap.objs.size a i ∧ h.IsList a vs.toArray) up ?_ (fun i h st => ?_) (fun b hb => ?_) ?_ ⟨⟨_, Heap.get?_push_size _ rfl, rfl, rfl⟩, hl.push _⟩)
  · cases q : s.heap.get? s.heap.objs.size with
    | none => rfl
    | some o => exact absurd (Heap.lt_size q) (Nat.lt_irrefl _)
  · obtain ⟨o, ho, hc, hd⟩ := st.1; exact ⟨o, ho, fun u => by rw [hd]; simp⟩
  · rcases List.mem_cons.mp hb with rfl | hb
    · exact .inl rfl
    · rw [List.mem_singleton.mp hb]; exact .inr ⟨hide_none e, _, e0⟩
  · have W := Walks.list (prog := prog) (w := w) hh s.heap.objs.size a (Nat.ne_of_lt hlt) vs.toArray
    rw [show vs.toArray.size = xs.length from (List.size_toArray ..).trans r.len] at W
    exact Walks.weak W fun i v p => (r.at i).2 v (by simpa using p)
theorem IterP.list {ds : List PyData} (hh : A.handled = none) : IterP prog w h00 R A (.d (.list ds)) (ds.map .d) := fun X s v Q E B rv k => by
  obtain ⟨a, o, vs, n, rfl, e, hc, hd, r⟩ := lst_of_d rv
  have e0 := hide_le _ _ e
  have hl : s.heap.IsList a vs.toArray := ⟨_, e0, hc, n, hd⟩
  have hlt : a < s.heap.objs.size := Heap.lt_size e0
  have up : Ext s.heap (s.heap.push { cls := .type "list_iterator", data := .fields #[.ref a, .int 0 0] }) := fun b o e => Heap.get?_push_of_some _ e
  refine wpAny_pyIter_list hl (k s.heap.objs.size [s.heap.objs.size, a] _ s.toks (fun i h => h.IsListIter s.heap.objs.size a i ∧ h.IsList a vs.toArray) up ?_ (fun i h st => ?_) (fun b hb => ?_) ?_ ⟨⟨_, Heap.get?_push_size _ rfl, rfl, rfl⟩, hl.push _⟩)
  · cases q : s.heap.get? s.heap.objs.size with
    | none => rfl
    | some o => exact absurd (Heap.lt_size q) (Nat.lt_irrefl _)
  · obtain ⟨o, ho, hc, hd⟩ := st.1; exact ⟨o, ho, fun u => by rw [hd]; simp⟩
  · rcases List.mem_cons.mp hb with rfl | hb
    · exact .inl rfl
    · rw [List.mem_singleton.mp hb]; exact .inr ⟨hide_none e, _, e0⟩
  · have W := Walks.list (prog := prog) (w := w) hh s.heap.objs.size a (Nat.ne_of_lt hlt) vs.toArray
    rw [show vs.toArray.size = (ds.map AV.d).length from (List.size_toArray ..).trans r.len] at W
    exact Walks.weak W fun i v p => (r.at i).2 v (by simpa using p)
theorem IterP.tup {xs : List AV} (hh : A.handled = none) : IterP prog w h00 R A (.tup xs) xs := fun X s v Q E B rv k => by
  obtain ⟨a, vs, n, rfl, e, r⟩ := rv
  have e0 := hide_le _ _ e
  have hl : s.heap.IsTuple a vs.toArray := ⟨_, e0, rfl, n, rfl⟩
  have hlt : a < s.heap.objs.size := Heap.lt_size e0
  have up : Ext s.heap (s.heap.push { cls := .type "tuple_iterator", data := .fields #[.ref a, .int 0 0] }) := fun b o e => Heap.get?_push_of_some _ e
  refine wpAny_pyIter_tuple hl (k s.heap.objs.size [s.heap.objs.size, a] _ s.toks (fun i h => h.IsTupleIter s.heap.objs.size a i ∧ h.IsTuple a vs.toArray) up ?_ (fun i h st => ?_) (fun b hb => ?_) ?_ ⟨⟨_, Heap.get?_push_size _ rfl, rfl, rfl⟩, hl.at fun o e => Heap.get?_push_of_some _ e⟩)
  · cases q : s.heap.get? s.heap.objs.size with
    | none => rfl
    | some o => exact absurd (Heap.lt_size q) (Nat.lt_irrefl _)
  · obtain ⟨o, ho, hc, hd⟩ := st.1; exact ⟨o, ho, fun u => by rw [hd]; simp⟩
  · rcases List.mem_cons.mp hb with rfl | hb
    · exact .inl rfl
    · rw [List.mem_singleton.mp hb]; exact .inr ⟨hide_none e, _, e0⟩
  · have W := Walks.tuple (prog := prog) (w := w) hh s.heap.objs.size a (Nat.ne_of_lt hlt) vs.toArray
    rw [show vs.toArray.size = xs.length from (List.size_toArray ..).trans r.len] at W
    exact Walks.weak W fun i v p => (r.at i).2 v (by simpa using p)
theorem IterP.range {n : Nat} (hn : n < 2 ^ 62) (hh : A.handled = none) : IterP prog w h00 R A (.x (rangeHP n)) ((List.range n).map fun (i : Nat) => .d (.int (i : Int))) := fun X s v Q E B rv k => by
  obtain ⟨a, t, u, x, rfl, e⟩ := rv
  have e0 : IsRange s.heap a 0 n 1 t u x := hide_le _ _ e
  have up : ∀ o, Ext s.heap (s.heap.push o) := fun o b ob e => Heap.get?_push_of_some _ e
  have hz : Builtin.Range.rangeSize 0 n 1 = ((n : Nat) : Int) := by rw [rangeSize_nat]; simp
  have no : s.heap.get? s.heap.objs.size = none := by
    cases q : s.heap.get? s.heap.objs.size with
    | none => rfl
    | some o => exact absurd (Heap.lt_size q) (Nat.lt_irrefl _)
  refine wpAny_pyIter_range e0 (small_one (by omega) (by omega) (by omega) (by omega)) (k s.heap.objs.size [s.heap.objs.size] _ s.toks (fun i h => IsRangeIter h s.heap.objs.size (0 + (i : Nat) * 1) ((n : Int) - (i : Nat)) 1) (up _) no (fun i h st => ⟨_, st, fun u => by simp⟩) (fun b hb => .inl (List.mem_singleton.mp hb)) ?_ ?_)
  · have W := Walks.range (prog := prog) (w := w) hh s.heap.objs.size 0 1 n
    have W2 := Walks.bound W
    rw [show ((List.range n).map fun (i : Nat) => AV.d (.int (i : Int))).length = n by simp]
    refine Walks.weak W2 fun i v p => ?_
    obtain ⟨hi, t, rfl⟩ := p
    exact ⟨.d (.int i), by simp [hi], _, (by rw [Int.zero_add, Int.mul_one]; exact .int _ _)⟩
  · show IsRangeIter _ _ _ _ _
    rw [hz]; simpa using Heap.get?_push_size _ rfl
noncomputable def signsOf (x : Str) : List PyData := x.cps.toList.map fun c => .str ⟨#[c]⟩
theorem IterP.str {x : Str} (hh : A.handled = none) : IterP prog w h00 R A (.d (.str x)) ((signsOf x).map .d) := fun X s v Q E B rv k => by
  obtain ⟨as, rv⟩ := rv
  cases rv with
  | str x t =>
  have up : ∀ o, Ext s.heap (s.heap.push o) := fun o b ob e => Heap.get?_push_of_some _ e
  have no : s.heap.get? s.heap.objs.size = none := by
    cases q : s.heap.get? s.heap.objs.size with
    | none => rfl
    | some o => exact absurd (Heap.lt_size q) (Nat.lt_irrefl _)
  have get : ∀ i v, SignAt x i v → ∃ a, ((signsOf x).map AV.d)[i]? = some a ∧ VR (hideAll s.heap X) a v := fun i v ⟨c, u, hc, e⟩ => by
    subst e
    refine ⟨.d (.str ⟨#[c]⟩), ?_, _, .str _ _⟩
    have : x.cps.toList[i]? = some c := by rw [Array.getElem?_toList]; exact hc
    simp [signsOf, this]
  have len : ((signsOf x).map AV.d).length = x.cps.size := by simp [signsOf]
  cases ha : x.cps.all (· < 128)
  · refine wpAny_pyIter_wide ha (k s.heap.objs.size [s.heap.objs.size] _ s.toks (fun i h => h.IsStrIter s.heap.objs.size "str_iterator" x t i) (up _) no (fun i h st => ?_) (fun b hb => .inl (List.mem_singleton.mp hb)) ?_ ⟨_, Heap.get?_push_size _ rfl, rfl, rfl⟩)
    · obtain ⟨o, ho, hc, hd⟩ := st; exact ⟨o, ho, fun u => by rw [hd]; simp⟩
    · rw [len]; exact Walks.weak (Walks.strWide hh _ x t) get
  · refine wpAny_pyIter_ascii ha (k s.heap.objs.size [s.heap.objs.size] _ s.toks (fun i h => h.IsStrIter s.heap.objs.size "str_ascii_iterator" x t i) (up _) no (fun i h st => ?_) (fun b hb => .inl (List.mem_singleton.mp hb)) ?_ ⟨_, Heap.get?_push_size _ rfl, rfl, rfl⟩)
    · obtain ⟨o, ho, hc, hd⟩ := st; exact ⟨o, ho, fun u => by rw [hd]; simp⟩
    · rw [len]; exact Walks.weak (Walks.strAscii hh _ x t) get
end
end Mine
end
section
open PySem PySem.Spec PySem.Calls PyProof.Rows PySem.W PySem.SeqAt PySem.Builtin PySem.Builtin.Str
set_option maxRecDepth 100000
set_option linter.unusedVariables false
set_option autoImplicit false
namespace Mine
theorem reads_int {B : Heap} {i : Int} {v : Value} (h : VR B (.d (.int i)) v) : ∃ t, v = .int i t := by obtain ⟨as, h⟩ := h; cases h; exact ⟨_, rfl⟩
theorem reads_str {B : Heap} {x : Str} {v : Value} (h : VR B (.d (.str x)) v) : ∃ t, v = .str x t := by obtain ⟨as, h⟩ := h; cases h; exact ⟨_, rfl⟩
theorem vr_int {B : Heap} {i : Int} {t : Tok} : VR B (.d (.int i)) (.int i t) := ⟨_, .int _ _⟩
theorem vr_str {B : Heap} {x : Str} {t : Tok} : VR B (.d (.str x)) (.str x t) := ⟨_, .str _ _⟩
theorem vr_bool {B : Heap} {b : Bool} : VR B (.d (.bool b)) (.bool b) := ⟨_, .bool _⟩
theorem made_str {y : Str} {Q : Value → Shared → Prop} {s : Shared} (hz : y.length ≤ sizeLine) (k : ∀ v h' tk, Ext s.heap h' → (∀ B, VR B (.d (.str y)) v) → Q v { s with heap := h', toks := tk }) : (Made.str y).post Q s := ⟨hz, k _ s.heap _ Ext.rfl fun _ => vr_str⟩

section
variable {prog : Program} {w : World} {h00 : Heap} {R : Shared} {A : Around} {fm : Fm} {loc : Loc} {led : Led}

/-- an operation of two told values, by what it does on plain values -/
theorem Op2.ints {t : Value → Value → Sem Value} {a b : Int} {c : AV} (h : ∀ (s : Shared) (u v : Tok) (Q : Value → Shared → Prop) (E : Value → Shared → Prop), (∀ r tk, (∀ B, VR B c r) → Q r { s with toks := tk }) → wpAny (model prog w) A (t (.int a u) (.int b v)) Q E s) :
    Op2 prog w A t (.d (.int a)) (.d (.int b)) c := fun X s u v Q E lo ru rv k => by
  obtain ⟨t1, rfl⟩ := reads_int ru
  obtain ⟨t2, rfl⟩ := reads_int rv
  exact h s t1 t2 Q E fun r tk hr => k r s.heap tk Ext.rfl (hr _)
theorem Op2.add {a b : Int} : Op2 prog w A (binaryOp .Add) (.d (.int a)) (.d (.int b)) (.d (.int (a + b))) := .ints fun s u v Q E k => PyProof.Rows.add_int (k _ _ fun _ => vr_int)
theorem Op2.sub {a b : Int} : Op2 prog w A (binaryOp .Sub) (.d (.int a)) (.d (.int b)) (.d (.int (a - b))) := .ints fun s u v Q E k => PyProof.Rows.sub_int (k _ _ fun _ => vr_int)
theorem Op2.mod {a b : Int} (hb : b ≠ 0) : Op2 prog w A (binaryOp .Mod) (.d (.int a)) (.d (.int b)) (.d (.int (a.fmod b))) := .ints fun s u v Q E k => PyProof.Rows.mod_int hb (k _ _ fun _ => vr_int)
theorem Op2.lt {a b : Int} : Op2 prog w A (compareOp .Lt) (.d (.int a)) (.d (.int b)) (.d (.bool (decide (a < b)))) := .ints fun s u v Q E k => PyProof.Rows.lt_int (k _ s.toks fun _ => vr_bool)
theorem Op2.addS {x y : Str} (hz : (x ++ y).length ≤ sizeLine) (h0 : x ++ y = if x.length == 0 then y else if y.length == 0 then x else x ++ y) : Op2 prog w A (binaryOp .Add) (.d (.str x)) (.d (.str y)) (.d (.str (x ++ y))) := fun X s u v Q E lo ru rv k => by
  obtain ⟨t1, rfl⟩ := reads_str ru
  obtain ⟨t2, rfl⟩ := reads_str rv
  refine PySem.P.add_str ?_
  rw [h0] at k
  split
  · next h => rw [if_pos h] at k; exact k _ s.heap s.toks Ext.rfl vr_str
  · next h =>
    rw [if_neg h] at k
    split
    · next h' => rw [if_pos h'] at k; exact k _ s.heap s.toks Ext.rfl vr_str
    · next h' => rw [if_neg h'] at k; exact made_str hz fun v h' tk e r => k v h' tk e (r _)
/-- equality of told data -/
theorem Op2.eq {x y : PyData} (hx : shaped x = true) (hy : shaped y = true) (hu : A.units + 64 < cLine) : Op2 prog w A (compareOp .Eq) (.d x) (.d y) (.d (.bool (PyData.eqv x y))) := fun X s u v Q E lo ru rv k => by
  obtain ⟨as, ru⟩ := ru
  obtain ⟨bs, rv⟩ := rv
  exact PySem.SeqAt.compareEq_shaped (Reads.keeps hide_le ru) (Reads.keeps hide_le rv) hx hy hu (k _ s.heap s.toks Ext.rfl vr_bool)
theorem Op2.ne {x y : PyData} (hx : shaped x = true) (hy : shaped y = true) (hu : A.units + 64 < cLine) : Op2 prog w A (compareOp .NotEq) (.d x) (.d y) (.d (.bool (!PyData.eqv x y))) := fun X s u v Q E lo ru rv k => by
  obtain ⟨as, ru⟩ := ru
  obtain ⟨bs, rv⟩ := rv
  exact PySem.SeqAt.compareNe_shaped (Reads.keeps hide_le ru) (Reads.keeps hide_le rv) hx hy hu (k _ s.heap s.toks Ext.rfl vr_bool)
theorem Op2.inL {x : PyData} {xs : List PyData} (hs : shaped (.list xs) = true) (hx : shaped x = true) (hu : A.units + 65 < cLine) : Op2 prog w A (compareOp .In) (.d x) (.d (.list xs)) (.d (.bool (xs.any fun y => PyData.eqv y x))) := fun X s u v Q E lo ru rv k => by
  obtain ⟨as, ru⟩ := ru
  obtain ⟨bs, rv⟩ := rv
  exact in_list_reads (Reads.keeps hide_le rv) (Reads.keeps hide_le ru) (canLay_of_shaped hs) (canLay_of_shaped hx) (room_in_shaped hx hu) (k _ s.heap s.toks Ext.rfl vr_bool)
theorem Op2.notInL {x : PyData} {xs : List PyData} (hs : shaped (.list xs) = true) (hx : shaped x = true) (hu : A.units + 65 < cLine) : Op2 prog w A (compareOp .NotIn) (.d x) (.d (.list xs)) (.d (.bool (!xs.any fun y => PyData.eqv y x))) := fun X s u v Q E lo ru rv k => by
  obtain ⟨as, ru⟩ := ru
  obtain ⟨bs, rv⟩ := rv
  exact notIn_list_reads (Reads.keeps hide_le rv) (Reads.keeps hide_le ru) (canLay_of_shaped hs) (canLay_of_shaped hx) (room_in_shaped hx hu) (k _ s.heap s.toks Ext.rfl vr_bool)
theorem Op2.notInT {x : PyData} {xs : List PyData} (hs : shaped (.tuple xs) = true) (hx : shaped x = true) (hu : A.units + 65 < cLine) : Op2 prog w A (compareOp .NotIn) (.d x) (.d (.tuple xs)) (.d (.bool (!xs.any fun y => PyData.eqv y x))) := fun X s u v Q E lo ru rv k => by
  obtain ⟨as, ru⟩ := ru
  obtain ⟨bs, rv⟩ := rv
  exact notIn_tuple_reads (Reads.keeps hide_le rv) (Reads.keeps hide_le ru) (canLay_of_shaped hs) (canLay_of_shaped hx) (room_in_shaped hx hu) (k _ s.heap s.toks Ext.rfl vr_bool)
theorem Op2.inS {x y : Str} : Op2 prog w A (compareOp .In) (.d (.str y)) (.d (.str x)) (.d (.bool !(occurrences x y 0 x.length 1).isEmpty)) := fun X s u v Q E lo ru rv k => by
  obtain ⟨t1, rfl⟩ := reads_str ru
  obtain ⟨t2, rfl⟩ := reads_str rv
  exact PySem.P.in_str (k _ s.heap s.toks Ext.rfl vr_bool)

/-- an item of what may be asked by [ ] -/
noncomputable def ItemP (prog : Program) (w : World) (A : Around) (o i c : AV) : Prop :=
  ∀ (X : List Addr) (s : Shared) (u v : Value) (Q : Value → Shared → Prop) (E : Value → Shared → Prop), (∀ x ∈ X, x < s.heap.objs.size) → VR (hideAll s.heap X) o u → VR (hideAll s.heap X) i v →
    (∀ r h' tk, Ext s.heap h' → VR (hideAll h' X) c r → Q r { s with heap := h', toks := tk }) →
      ∃ T id, s.TypeIs u T ∧ typeLookup (.type T) "__getitem__" = pure (some (.builtin id)) ∧ wpAny (model prog w) A (getItem u v) Q E s

theorem sub_tail {value slice : Expr} {u v : Value} {T id : String} {s : Shared} {Q : Value → Shared → Prop} {E : Value → Shared → Prop} (hT : s.TypeIs u T) (hl : typeLookup (.type T) "__getitem__" = pure (some (.builtin id))) (h : wpAny (model prog w) A (getItem u v) Q E s)
    (hsl : subscripted slice false u v = operate [u, v] (getItem u v) ∨ subscripted slice false u v = operate [v, u] (getItem u v)) :
    wpAny (model prog w) A (subscriptTail value slice u v) Q E s := by
  unfold subscriptTail
  refine wpAny_bind ?_
  rw [getitemInPython_of_ne hT.not_modules]
  refine wpAny_bind (wpAny_specialOf hT hl ?_)
  refine wpAny_pure (wpAny_bind (wpAny_mono ?_ (fun r s' q => wpAny_bind (wpAny_letTemporaryGo (wpAny_pure q))) fun _ _ e => e))
  rcases hsl with e | e <;> rw [e] <;> exact wpAny_operate' h
theorem PE.item {value slice : Expr} {pos : Pos} {o i c : AV} (hv : PE prog w h00 R A fm loc led value o) (hi : PE prog w h00 R A fm loc led slice i) (hg : ItemP prog w A o i c)
    (hsl : ∀ u v, subscripted slice false u v = operate [u, v] (getItem u v) ∨ subscripted slice false u v = operate [v, u] (getItem u v) := by first | exact fun _ _ => .inl rfl | exact fun _ _ => .inr rfl) : PE prog w h00 R A fm loc led (.Subscript value slice pos) c := fun s D Q E k => by
  refine Subscript_ (hv s D _ _ fun u h1 t1 k1 r1 => hi _ (D.quiet k1) _ _ fun v h2 t2 k2 r2 => ?_)
  obtain ⟨T, id, hT, hl, h⟩ := hg _ { s with heap := h2, toks := t2 } u v Q E ((D.quiet (tk := t1) k1).quiet (tk := t2) k2).lo (r1.mono (hide_ext k2)) r2 fun r h3 t3 k3 r3 => k r h3 t3 (k1.trans (k2.trans k3)) r3
  exact sub_tail hT hl h (hsl u v)

theorem item_nat {α : Type} {n : Nat} {l : List α} {x : α} (h : l[n]? = some x) : n < l.length := by
  rcases Nat.lt_or_ge n l.length with q | q
  · exact q
  · rw [List.getElem?_eq_none q] at h; cases h
theorem ItemP.str {x : Str} {i : Int} {c : Nat} (hr : (decide (i < -(2 ^ 63 : Int)) || decide (i ≥ 2 ^ 63)) = false) (hc : (seqIndex? i x.length).bind (x.cps[·]?) = some c) : ItemP prog w A (.d (.str x)) (.d (.int i)) (.d (.str ⟨#[c]⟩)) := fun X s u v Q E lo ru rv k => by
  obtain ⟨t1, rfl⟩ := reads_str ru
  obtain ⟨t2, rfl⟩ := reads_int rv
  exact ⟨"str", _, typeIs_str s x t1, F.slot_str_getitem.lookup, PySem.P.getItem_str hr hc (k _ s.heap _ Ext.rfl vr_str)⟩
theorem Op.up {t : Value → Value → Sem Value} {a a' b c : AV} (h : ∀ B v, VR B a' v → VR B a v) (x : ItemP prog w A a b c) : ItemP prog w A a' b c := fun X s u v Q E lo ru rv k => x X s u v Q E lo (h _ _ ru) rv k
theorem lst_of {B : Heap} {ds : List PyData} {v : Value} (h : VR B (.d (.list ds)) v) : ∃ a o vs n, v = .ref a ∧ B.get? a = some o ∧ o.cls = .type "list" ∧ o.data = .seq (List.toArray vs) n ∧ VRs B (ds.map .d) vs := lst_of_d h
theorem ItemP.list {ds : List PyData} {n : Nat} {a : PyData} (h : ds[n]? = some a) (hz : ds.length < 2 ^ 62) : ItemP prog w A (.d (.list ds)) (.d (.int n)) (.d a) := fun X s u v Q E lo ru rv k => by
  obtain ⟨l, o, vs, m, rfl, e, hc, hd, r⟩ := lst_of_d ru
  obtain ⟨t2, rfl⟩ := reads_int rv
  obtain ⟨y, hy, ry⟩ := (r.at n).1 (.d a) (by simp [h])
  have hl : s.heap.IsList l vs.toArray := ⟨_, hide_le _ _ e, hc, m, hd⟩
  have := item_nat h
  exact ⟨"list", _, hl.typeIs, F.slot_list_getitem.lookup, wpAny_getItem_list hl (by omega) (by omega) (by simpa using hy) (k _ s.heap s.toks Ext.rfl ry)⟩

/-- a slice object -/
noncomputable def sliceHP (l u st : Option Int) : HP := ⟨fun B v => ∃ a x y z, v = .ref a ∧ B.IsSlice a x y z ∧ x.map (·.1) = l ∧ y.map (·.1) = u ∧ z.map (·.1) = st, fun B B' v k ⟨a, x, y, z, e, ⟨o, ho, r⟩, h⟩ => ⟨a, x, y, z, e, ⟨o, k _ _ ho, r⟩, h⟩⟩
noncomputable def PPart (prog : Program) (w : World) (h00 : Heap) (R : Shared) (A : Around) (fm : Fm) (loc : Loc) (led : Led) (e : Option Expr) (i : Option Int) : Prop :=
  match e, i with
  | none, none => True
  | some e, some i => PE prog w h00 R A fm loc led e (.d (.int i))
  | _, _ => False
theorem PPart.ev {e : Option Expr} {i : Option Int} (h : PPart prog w h00 R A fm loc led e i) : ∀ s, St w.params h00 R fm loc led s → ∀ (Q : Value → Shared → Prop) (E : Value → Shared → Prop),
    (∀ x h' tk, Ext s.heap h' → x.map (·.1) = i → Q (partValue x) { s with heap := h', toks := tk }) → wpAny (model prog w) A (evalPart e fm.env) Q E s := fun s D Q E k => by
  cases e <;> cases i
  · exact wpAny_pure (k none s.heap s.toks Ext.rfl rfl)
  · exact h.elim
  · exact h.elim
  · rw [evalPart_some]
    refine h s D _ _ fun v h1 t1 k1 r1 => ?_
    obtain ⟨t, rfl⟩ := reads_int r1
    exact k (some (_, t)) h1 t1 k1 rfl
theorem PE.slice {l u st : Option Expr} {a b c : Option Int} {pos : Pos} (hl : PPart prog w h00 R A fm loc led l a) (hu : PPart prog w h00 R A fm loc led u b) (hs : PPart prog w h00 R A fm loc led st c) :
    PE prog w h00 R A fm loc led (.Slice l u st pos) (.x (sliceHP a b c)) := fun s D Q E k => by
  refine wpAny_Slice (hl.ev s D _ _ fun x h1 t1 k1 e1 => hu.ev _ (D.quiet k1) _ _ fun y h2 t2 k2 e2 => hs.ev _ ((D.quiet k1).quiet k2) _ _ fun z h3 t3 k3 e3 => ?_)
  have up : Ext h3 (h3.push { cls := .type "slice", data := .fields #[partValue x, partValue y, partValue z] }) := fun b o e => Heap.get?_push_of_some _ e
  have D3 := ((D.quiet (tk := t1) k1).quiet (tk := t2) k2).quiet (tk := t3) k3
  refine k _ _ _ (k1.trans (k2.trans (k3.trans up))) ⟨h3.objs.size, x, y, z, rfl, ⟨_, hideAll_get _ (Heap.get?_push_size _ rfl) fun h => ?_, rfl, rfl⟩, e1, e2, e3⟩
  exact absurd (D3.lo _ h) (Nat.lt_irrefl _)
noncomputable def strCut (x : Str) (l u st : Option Int) : Str := if (st.getD 1 == 1 && (strSliceIndices l u (st.getD 1) x.length).length == x.length) = true then x else ⟨((strSliceIndices l u (st.getD 1) x.length).filterMap (x.cps[·]?)).toArray⟩
theorem ItemP.strCut {x : Str} {l u st : Option Int} (h0 : (st.getD 1 == 0) = false) (hz : (strCut x l u st).length ≤ sizeLine) : ItemP prog w A (.d (.str x)) (.x (sliceHP l u st)) (.d (.str (strCut x l u st))) := fun X s a v Q E lo ru rv k => by
  obtain ⟨t1, rfl⟩ := reads_str ru
  obtain ⟨sl, p, q, z, rfl, hs, rfl, rfl, rfl⟩ := rv
  refine ⟨"str", _, typeIs_str s x t1, F.slot_str_getitem.lookup, wpAny_getItem_str_slice ⟨_, hide_le _ _ hs.choose_spec.1, hs.choose_spec.2⟩ h0 ?_⟩
  unfold sliceMade slicePicked
  unfold Mine.strCut at k hz
  split
  · next h => rw [if_pos h] at k; exact k _ s.heap s.toks Ext.rfl vr_str
  · next h => rw [if_neg h] at k hz; exact made_str hz fun v h' tk e r => k v h' tk e (r _)
end
end Mine
end
section
open PySem PySem.Spec PySem.Calls PyProof.Rows PySem.W PySem.SeqAt PySem.Builtin PySem.Builtin.Str
set_option maxRecDepth 100000
set_option linter.unusedVariables false
set_option autoImplicit false
namespace Mine
section
variable {prog : Program} {w : World} {h00 : Heap} {R : Shared} {A : Around} {fm : Fm} {loc : Loc} {led : Led}
theorem PE.mono {e : Expr} {a b : AV} (h : PE prog w h00 R A fm loc led e a) (k : ∀ B v, VR B a v → VR B b v) : PE prog w h00 R A fm loc led e b := fun s D Q E q => h s D Q E fun v h' tk x r => q v h' tk x (k _ _ r)
theorem PE.display {es : List Expr} {as : List AV} {pos : Pos} (h : PEs prog w h00 R A fm loc led es as) (hz : as.length ≤ sizeLine) : PE prog w h00 R A fm loc led (.List es pos) (.lst as) := fun s D Q E k => by
  refine wpAny_List (h pos s D _ _ fun vs h1 t1 k1 r1 => ⟨by rw [r1.len]; exact hz, ?_⟩)
  have up : Ext h1 (h1.push { cls := .type "list", data := .seq vs.toArray }) := fun b o e => Heap.get?_push_of_some _ e
  refine k _ _ _ (k1.trans up) ⟨h1.objs.size, vs, 0, rfl, hideAll_get _ (Heap.get?_push_size _ rfl) fun h => ?_, r1.mono (hide_ext up)⟩
  exact absurd ((D.quiet (tk := t1) k1).lo _ h) (Nat.lt_irrefl _)
theorem PE.displayD {es : List Expr} {ds : List PyData} {pos : Pos} (h : PEs prog w h00 R A fm loc led es (ds.map .d)) (hz : ds.length ≤ sizeLine) : PE prog w h00 R A fm loc led (.List es pos) (.d (.list ds)) :=
  (PE.display h (by simpa using hz)).mono fun B v r => d_of_lst r
theorem PE.tuple {es : List Expr} {as : List AV} {n : Nat} {pos : Pos} (h : PEs prog w h00 R A fm loc led es as) (hz : as.length ≤ sizeLine) : PE prog w h00 R A fm loc led (.Tuple es n pos) (.tup as) := fun s D Q E k => by
  refine wpAny_Tuple (h pos s D _ _ fun vs h1 t1 k1 r1 => ⟨by rw [r1.len]; exact hz, ?_⟩)
  have up : Ext h1 (h1.push { cls := .type "tuple", data := .seq vs.toArray }) := fun b o e => Heap.get?_push_of_some _ e
  refine k _ _ _ (k1.trans up) ⟨h1.objs.size, vs, 0, rfl, hideAll_get _ (Heap.get?_push_size _ rfl) fun h => ?_, r1.mono (hide_ext up)⟩
  exact absurd ((D.quiet (tk := t1) k1).lo _ h) (Nat.lt_irrefl _)
theorem d_of_tup {B : Heap} {ds : List PyData} {v : Value} (h : VR B (.tup (ds.map .d)) v) : VR B (.d (.tuple ds)) v := by
  obtain ⟨a, vs, n, rfl, e, r⟩ := h
  obtain ⟨as, r⟩ := vrs_readsAll r
  exact ⟨_, .tuple e rfl rfl (by simpa using r)⟩
theorem PE.tupleD {es : List Expr} {ds : List PyData} {n : Nat} {pos : Pos} (h : PEs prog w h00 R A fm loc led es (ds.map .d)) (hz : ds.length ≤ sizeLine) : PE prog w h00 R A fm loc led (.Tuple es n pos) (.d (.tuple ds)) :=
  (PE.tuple h (by simpa using hz)).mono fun B v r => d_of_tup r
/-- a list display whose list will change -/
theorem TE.display {es : List Expr} {as : List AV} {pos : Pos} {Φ : AV → Loc → Led → Prop} (h : PEs prog w h00 R A fm loc led es as) (hz : as.length ≤ sizeLine) (k : ∀ a, a ∉ led.map (·.1) → Φ (.raw (.ref a)) loc ((a, .list as) :: led)) : TE prog w h00 R A fm loc led (.List es pos) Φ := fun s D Q E q => by
  refine wpAny_List (h pos s D _ _ fun vs h1 t1 k1 r1 => ⟨by rw [r1.len]; exact hz, ?_⟩)
  have D1 := D.quiet (tk := t1) k1
  have up : Ext h1 (h1.push { cls := .type "list", data := .seq vs.toArray }) := fun b o e => Heap.get?_push_of_some _ e
  have no : h1.get? h1.objs.size = none := by
    cases q : h1.get? h1.objs.size with
    | none => rfl
    | some o => exact absurd (Heap.lt_size q) (Nat.lt_irrefl _)
  obtain ⟨D2, S2⟩ := D1.add (ao := .list as) (tk := t1) no up (Heap.get?_push_size _ rfl) ⟨vs, 0, rfl, r1⟩
  refine q _ _ (.raw (.ref _)) _ _ (D.step k1 S2) D2 rfl (k _ fun hm => ?_)
  obtain ⟨o, ho⟩ := D1.bs.there _ (away_mem.mpr (.inr (.inr (.inl hm))))
  exact absurd (Heap.lt_size ho) (Nat.lt_irrefl _)
theorem CallP.lenS {x : Str} (hz : x.length < 2 ^ 62) : CallP prog w h00 R A (.builtin "len") [.d (.str x)] (.d (.int x.length)) := fun X s vals Q E B rv k => by
  cases rv with
  | cons r rs =>
    cases rs
    obtain ⟨t, rfl⟩ := reads_str r
    exact PySem.P.len_str (by omega) (k _ s.heap _ Ext.rfl vr_int)
theorem CallP.lenL {ds : List PyData} (hz : ds.length < 2 ^ 62) : CallP prog w h00 R A (.builtin "len") [.d (.list ds)] (.d (.int ds.length)) := fun X s vals Q E B rv k => by
  cases rv with
  | cons r rs =>
    cases rs
    obtain ⟨l, o, vs, m, rfl, e, hc, hd, r⟩ := lst_of_d r
    have hlen : vs.length = ds.length := by rw [r.len]; simp
    refine call_len_list (items := vs.toArray) ⟨_, hide_le _ _ e, hc, m, hd⟩ (by rw [List.size_toArray, hlen]; omega) ?_
    rw [List.size_toArray, hlen]
    exact k _ s.heap _ Ext.rfl vr_int
/-- range(n), called -/
theorem PE.range {func e : Expr} {pos : Pos} {n : Nat} (hf : PE prog w h00 R A fm loc led func (.raw (.type "range"))) (he : PE prog w h00 R A fm loc led e (.d (.int n)))
    (hs : starEach [e] fm.env = (false, eval e fm.env) :: starEach [] fm.env := by rfl)
    (hp : (backTo pos (starEach [] fm.env)).any (·.1) = false := by rfl)
    (hc : eval (.Call func [e] [] pos) fm.env = (do callWith pos (← eval func fm.env) [] (backTo pos (starEach [e] fm.env)) (backToKw pos (keywordEach [] fm.env))) := by rfl) :
    PE prog w h00 R A fm loc led (.Call func [e] [] pos) (.x (rangeHP n)) := fun s D Q E k => by
  refine Call_ (hf s D _ _ fun f h1 t1 k1 r1 => ?_) hc
  cases r1
  refine PyProof.Rows.callWith_type1 (PEs.cons he PEs.nil hs pos _ (D.quiet k1) _ _ fun vs h2 t2 k2 r2 => ?_) hs hp
  cases r2 with
  | cons r rs =>
    cases rs
    obtain ⟨t, rfl⟩ := reads_int r
    refine call_range_1 ?_
    have D2 := (D.quiet (tk := t1) k1).quiet (tk := t2) k2
    refine k _ _ _ (k1.trans (k2.trans fun b o e => Heap.get?_push_of_some _ e)) ⟨_, _, _, _, rfl, hideAll_get _ (Heap.get?_push_size _ rfl) fun h => ?_⟩
    exact absurd (D2.lo _ h) (Nat.lt_irrefl _)

/-- a word of plain signs, of fifty at most -/
theorem eqv_str (x y : Str) : PyData.eqv (.str x) (.str y) = (x == y) := by simp [PyData.eqv]
theorem eqv_int (x y : Int) : PyData.eqv (.int x) (.int y) = (x == y) := by simp [PyData.eqv]
theorem eqv_nil (xs : List PyData) : PyData.eqv (.list xs) (.list []) = xs.isEmpty := by cases xs <;> simp [PyData.eqv, PyData.eqvAll]
theorem shaped_int (i : Int) : shaped (.int i) = true := by simp [shaped, PyData.canLay0, PyData.depth]
theorem canLay_ints : ∀ (l : List Int), PyData.canLayAll0 (l.map .int) = true
  | [] => by simp [PyData.canLayAll0]
  | a :: l => by simp [PyData.canLayAll0, PyData.canLay0, canLay_ints l]
theorem depth_ints : ∀ (l : List Int), PyData.depthAll (l.map .int) = 0
  | [] => by simp [PyData.depthAll]
  | a :: l => by simp [PyData.depthAll, PyData.depth, depth_ints l]
theorem shaped_ints (l : List Int) : shaped (.list (l.map .int)) = true := by simp [shaped, PyData.canLay0, PyData.depth, canLay_ints, depth_ints]
theorem shaped_nil : shaped (.list []) = true := by simp [shaped, PyData.canLay0, PyData.depth, PyData.canLayAll0, PyData.depthAll]
theorem shaped_str {x : Str} (h : PyData.strOk x = true) : shaped (.str x) = true := by simp [shaped, PyData.canLay0, PyData.depth, h]
theorem canLay_strs : ∀ (l : List Str), (∀ x ∈ l, PyData.strOk x = true) → PyData.canLayAll0 (l.map .str) = true
  | [], _ => by simp [PyData.canLayAll0]
  | a :: l, h => by simp [PyData.canLayAll0, PyData.canLay0, canLay_strs l (fun x hx => h x (List.mem_cons_of_mem _ hx)), h a List.mem_cons_self]
theorem depth_strs : ∀ (l : List Str), PyData.depthAll (l.map .str) = 0
  | [] => by simp [PyData.depthAll]
  | a :: l => by simp [PyData.depthAll, PyData.depth, depth_strs l]
theorem shaped_strs {l : List Str} (h : ∀ x ∈ l, PyData.strOk x = true) : shaped (.list (l.map .str)) = true := by simp [shaped, PyData.canLay0, PyData.depth, canLay_strs l h, depth_strs]
theorem shaped_strsT {l : List Str} (h : ∀ x ∈ l, PyData.strOk x = true) : shaped (.tuple (l.map .str)) = true := by simp [shaped, PyData.canLay0, PyData.depth, canLay_strs l h, depth_strs]
end
end Mine
end
section
open PySem PySem.Spec PySem.Calls PyProof.Rows PySem.W PySem.SeqAt PySem.Builtin PySem.Builtin.Str
set_option maxRecDepth 100000
set_option linter.unusedVariables false
set_option autoImplicit false
namespace Mine
theorem cells_keys : ∀ (names : List (Str × NameKind)) (n m : Nat) (a b : List (Str × Addr)), a.map (·.1) = b.map (·.1) → (cellsFrom n names a).map (·.1) = (cellsFrom m names b).map (·.1)
  | [], _, _, _, _, h => h
  | (x, k) :: r, n, m, a, b, h => by
    unfold cellsFrom
    split
    · exact cells_keys r _ _ _ _ (by simp [h])
    · exact cells_keys r _ _ _ _ h
theorem lookup_of_nodup {α : Type} : ∀ {l : List (Str × α)} {x : Str} {c : α}, (l.map (·.1)).Nodup → (x, c) ∈ l → l.lookup x = some c
  | (y, d) :: l, x, c, nd, hm => by
    have nd' := List.nodup_cons.mp nd
    rw [List.lookup_cons]
    rcases List.mem_cons.mp hm with e | hm
    · cases e; simp
    · have : x ≠ y := fun q => nd'.1 (q ▸ List.mem_map_of_mem (f := (·.1)) hm)
      rw [show (x == y) = false by simpa using this]
      exact lookup_of_nodup nd'.2 hm
theorem own_of {names : List (Str × NameKind)} (h : ((cellsFrom 0 names []).map (·.1)).Nodup) (n : Nat) : ∀ c ∈ (cellsFrom n names []).map (·.2), ∃ x, (cellsFrom n names []).lookup x = some c := fun c hc => by
  obtain ⟨⟨x, c'⟩, hm, rfl⟩ := List.mem_map.mp hc
  rw [cells_keys names 0 n [] [] rfl] at h
  exact ⟨x, lookup_of_nodup h hm⟩
theorem kind_of {names : List (Str × NameKind)} {xs : List Str} (h : (xs.all fun x => names.lookup x == some .local || names.lookup x == some .cell) = true) (n : Nat) :
    ∀ x ∈ xs, names.lookup x = some .local ∨ (names.lookup x = some .cell ∧ ((cellsFrom n names []).lookup x).isSome = true) := fun x hx => by
  have := List.all_eq_true.mp h x hx
  rcases Bool.or_eq_true_iff.mp this with q | q
  · exact .inl (by simpa using q)
  · have q' : names.lookup x = some .cell := by simpa using q
    exact .inr ⟨q', cellsFrom_some _ _ _ (.inl q')⟩
/-- where a name of the frame's own cells may be stored -/
theorem stores_cell {fd : FuncData} {L f : Addr} {hid : List Addr} {x : Str} (h : fd.scope.names.lookup x = some .cell) (nd : ((cellsFrom 0 fd.scope.names []).map (·.1)).Nodup) : Stores (fmOf fd L f hid) x := by
  have hs := cellsFrom_some fd.scope.names (L + 1) [] (.inl h)
  obtain ⟨c, hc⟩ := Option.isSome_iff_exists.mp hs
  refine .inr ⟨h, c, hc, List.mem_map_of_mem (f := (·.2)) (PySem.mem_of_lookup hc), fun y c' hy hc' q => hy ?_⟩
  subst q
  refine PySem.name_of_addr ?_ (PySem.mem_of_lookup hc') (PySem.mem_of_lookup hc)
  have ok := cellsFrom_ok fd.scope.names { objs := Array.replicate (L + 1) default } (L + 1) [] ⟨fun _ _ hm => (nomatch hm), List.Pairwise.nil⟩ (by simp)
  have : ({ objs := Array.replicate (L + 1) default } : Heap).objs.size = L + 1 := by simp
  rw [this] at ok
  exact ok.apart

section
variable {prog : Program} {w : World} {h00 : Heap} {R : Shared} {A : Around} {fm : Fm} {loc : Loc} {led : Led}
theorem CallP.def_ {K : Frag} {f : Addr} {fd : FuncData} {oc : Value} {od : Option Addr} {osl : Array (Option Value)} {body : List Stmt} (names : List Str) {args : List AV} {c : AV}
    (X : K.In h00) (T : ∃ p loose mg mb, TopRead p loose mg mb h00) (hroom : A.depth < recursionLimit)
    (ho : K.lookup f = some ⟨oc, od, .func fd, osl⟩) (hcd : codeIn K fd.code fd.qualname = true) (hbody : fd.body = .stmts body) (hclo : fd.closure = [])
    (hbind : ∀ vals : List Value, vals.length = args.length → bindArgs fd ⟨vals, []⟩ = pure (names.zip vals)) (hnd : names.Nodup)
    (hkind : (names.all fun x => fd.scope.names.lookup x == some .local || fd.scope.names.lookup x == some .cell) = true)
    (hown : ((cellsFrom 0 fd.scope.names []).map (·.1)).Nodup)
    (go : ∀ L hid, TS prog w h00 R (A.deeper (callEnvC fd L f)) (fmOf fd L f hid) (names.zip args) [] body fun af _ _ => af = .ret c ∨ (af = .next ∧ c = .d .none))
    (hco : fd.scope.isCoroutine = false := by rfl) (hgen : fd.scope.isGenerator = false := by rfl) (hk : fd.scope.kind = .function := by rfl) : CallP prog w h00 R A (.ref f) args c := by
  obtain ⟨p, loose, mg, mb, T⟩ := T
  exact CallP.of_body X T ho hcd hroom hbody hclo hbind hnd (kind_of hkind) (own_of hown) go hco hgen hk
theorem CallT.def_ {K : Frag} {f : Addr} {fd : FuncData} {oc : Value} {od : Option Addr} {osl : Array (Option Value)} {body : List Stmt} (names : List Str) {args : List AV} {led1 led2 : Led} {Φ : AV → Led → Prop}
    (X : K.In h00) (T : ∃ p loose mg mb, TopRead p loose mg mb h00) (hroom : A.depth < recursionLimit)
    (ho : K.lookup f = some ⟨oc, od, .func fd, osl⟩) (hcd : codeIn K fd.code fd.qualname = true) (hbody : fd.body = .stmts body) (hclo : fd.closure = [])
    (hbind : ∀ vals : List Value, vals.length = args.length → bindArgs fd ⟨vals, []⟩ = Pure.pure (names.zip vals)) (hnd : names.Nodup)
    (hkind : (names.all fun x => fd.scope.names.lookup x == some .local || fd.scope.names.lookup x == some .cell) = true)
    (hown : ((cellsFrom 0 fd.scope.names []).map (·.1)).Nodup)
    (go : ∀ L hid, TS prog w h00 R (A.deeper (callEnvC fd L f)) (fmOf fd L f hid) (names.zip args) led1 body fun af _ d => ∃ c, Φ c (led2 ++ d) ∧ (af = .ret c ∨ (af = .next ∧ c = .d .none)))
    (hco : fd.scope.isCoroutine = false := by rfl) (hgen : fd.scope.isGenerator = false := by rfl) (hk : fd.scope.kind = .function := by rfl) : CallT prog w h00 R A fm loc (led2 ++ led1) (.ref f) args Φ := by
  obtain ⟨p, loose, mg, mb, T⟩ := T
  exact CallT.of_def X T ho hcd hroom hbody hclo hbind hnd (kind_of hkind) (own_of hown) go hco hgen hk
end
end Mine
end
section
open PySem PySem.Spec PySem.Calls PyProof.Rows PySem.W PySem.SeqAt PySem.Builtin PySem.Builtin.Str
set_option maxRecDepth 100000
set_option linter.unusedVariables false
set_option autoImplicit false
namespace Mine
noncomputable abbrev KK := heapK
/-- what is known at the law's start -/
structure Top0 (P : Params) (h00 : Heap) : Prop where
  X : (KK P).In h00
  T : ∃ p loose mg mb, TopRead p loose mg mb h00
/-- room for calls and comparisons -/
structure Roomy (d u : Nat) (A : Around) : Prop where
  h : A.handled = none
  d : A.depth < d + 300
  u : A.units < u
theorem Roomy.deeper {d u : Nat} {A : Around} {env : Env} (h : Roomy d u A) : Roomy (d + 1) (u + 3) (A.deeper env) := ⟨h.h, by have := h.d; show A.depth + 1 < d + 1 + 300; omega, Nat.add_lt_add_right h.u 3⟩

noncomputable abbrev S (l : List Nat) : Str := ⟨l.toArray⟩
section
variable {prog : Program} {w : World} {h00 : Heap} {R : Shared} {A : Around} {fm : Fm} {loc : Loc} {led : Led}
theorem PE.glob0 {x : Str} {pos : Pos} {v : Value} (G : Top0 w.params h00) (e : nsIn (KK w.params) mainGlobals x = some (some v)) 
    (hg : fm.env.globals = mainGlobals := by rfl) (hk : fm.env.scope.kind = .function := by rfl) (hx : fm.env.kindOf x = some .globalImplicit := by rfl) (hd : (x == ("__debug__" : Str)) = false := by decide) :
    PE prog w h00 R A fm loc led (.Name x pos) (.raw v) := by
  obtain ⟨X, p, loose, mg, mb, T⟩ := G
  exact PE.glob X T e hg hk hx hd
theorem PE.built0 {x : Str} {pos : Pos} {v : Value} (G : Top0 w.params h00) (e : nsIn (KK w.params) mainGlobals x = some none) (hv : bootBuiltins x = some v) (hn : x ≠ "__name__")
    (hg : fm.env.globals = mainGlobals := by rfl) (hb : fm.env.builtins = builtinsNs := by rfl) (hk : fm.env.scope.kind = .function := by rfl) (hx : fm.env.kindOf x = some .globalImplicit := by rfl) (hd : (x == ("__debug__" : Str)) = false := by decide) :
    PE prog w h00 R A fm loc led (.Name x pos) (.raw v) := by
  obtain ⟨X, p, loose, mg, mb, T⟩ := G
  exact PE.built X T e hv hn hg hb hk hx hd

theorem strCut_drop {l : List Nat} {a : Nat} (h : a ≤ l.length) : strCut (S l) (some (a : Int)) none none = S (l.drop a) := by
  have e : strSliceIndices (some (a : Int)) none 1 (S l).length = strSliceIndices (some (a : Int)) (some ((S l).length : Int)) 1 (S l).length := by
    simp only [strSliceIndices, show ((1 : Int) > 0) = True from by simp, if_true]
    congr 1
    have : ¬ (((S l).length : Int) < 0) := by omega
    simp only [this, if_false]
    omega
  have hz : (S l).length = l.length := by simp [Str.length]
  have pk := StrLaws.sliced_plain (S l) (a := a) (b := (S l).length) (by rw [hz]; exact h) (Nat.le_refl _)
  unfold strCut
  simp only [Option.getD_none]
  rw [e, pk]
  have tk : ((S l).cps.toList.drop a).take ((S l).length - a) = l.drop a := by
    show (l.toArray.toList.drop a).take _ = _
    rw [List.take_of_length_le (by rw [List.length_drop, hz]; simp)]
  rw [tk]
  split
  · next hc =>
    have hc' := (Bool.and_eq_true_iff.mp hc).2
    rw [StrLaws.strSliceIndices_plain (by rw [hz]; exact h) (Nat.le_refl _)] at hc'
    simp at hc'
    have : a = 0 := by omega
    subst this; rfl
  · rfl

/-- what a comprehension reads behind its names, name by name -/
theorem Caps.nil {scope : Scope} {cl : List (Str × Addr)} : Caps fm loc scope cl [] := fun y a e => nomatch e
theorem Caps.cons {scope : Scope} {cl : List (Str × Addr)} {cap : Loc} {x : Str} {a : AV} (h1 : ∀ C hid, (compFm fm scope cl C hid).env.kindOf x = some .cell ∨ (compFm fm scope cl C hid).env.kindOf x = some .free)
    (h2 : ∀ C hid, (compFm fm scope cl C hid).env.cells.lookup x = fm.env.cells.lookup x) (h3 : loc.lookup x = some a) (h4 : fm.env.kindOf x = some .cell ∨ fm.env.kindOf x = some .free) (r : Caps fm loc scope cl cap) : Caps fm loc scope cl ((x, a) :: cap) := fun y b e C hid => by
  rw [List.lookup_cons] at e
  by_cases q : y = x
  · subst q; simp at e; subst e
    refine ⟨?_, h2 C hid, h3, ?_⟩
    · rcases h1 C hid with z | z <;> rw [z] <;> decide
    · rcases h4 with z | z <;> rw [z] <;> decide
  · rw [show (y == x) = false by simpa using q] at e
    exact r y b e C hid
theorem PE.cutFrom {value e : Expr} {p q : Pos} {l : List Nat} {a : Nat} {i : Int} (hv : PE prog w h00 R A fm loc led value (.d (.str (S l)))) (he : PE prog w h00 R A fm loc led e (.d (.int i))) (hi : i = a) (h : a ≤ l.length) (hz : l.length < 1000) :
    PE prog w h00 R A fm loc led (.Subscript value (.Slice (some e) none none p) q) (.d (.str (S (l.drop a)))) := by
  subst hi
  have := ItemP.strCut (prog := prog) (w := w) (A := A) (x := S l) (l := some (a : Int)) (u := none) (st := none) (by decide) (by
    rw [strCut_drop h]; show (l.drop a).toArray.size ≤ sizeLine; rw [List.size_toArray, List.length_drop]; have : 1000 ≤ sizeLine := by decide
    omega)
  rw [strCut_drop h] at this
  exact PE.item hv (PE.slice (l := some e) (u := none) (st := none) (a := some (a : Int)) (b := none) (c := none) he trivial trivial) this
theorem PE.sign {value e : Expr} {q : Pos} {l : List Nat} {k c : Nat} (hv : PE prog w h00 R A fm loc led value (.d (.str (S l)))) (he : PE prog w h00 R A fm loc led e (.d (.int k))) (h : l[k]? = some c) (hz : l.length < 1000)
    (hsl : ∀ u v, subscripted e false u v = operate [u, v] (getItem u v) ∨ subscripted e false u v = operate [v, u] (getItem u v) := by first | exact fun _ _ => .inl rfl | exact fun _ _ => .inr rfl) :
    PE prog w h00 R A fm loc led (.Subscript value e q) (.d (.str (S [c]))) := by
  have hk := item_nat h
  refine PE.item hv he (ItemP.str (by simp; omega) ?_) hsl
  have : seqIndex? (k : Int) (S l).length = some k := by
    unfold seqIndex?
    simp [Str.length]; omega
  rw [this]; simpa using h
theorem PE.lenS (G : Top0 w.params h00) {x : List Nat} {e : Expr} {p q : Pos} (h : PE prog w h00 R A fm loc led e (.d (.str (S x)))) (hz : x.length < 1000)
    (hs : starEach [e] fm.env = (false, eval e fm.env) :: starEach [] fm.env := by rfl)
    (hg : fm.env.globals = mainGlobals := by rfl) (hb : fm.env.builtins = builtinsNs := by rfl) (hk : fm.env.scope.kind = .function := by rfl) (hx : fm.env.kindOf "len" = some .globalImplicit := by rfl) :
    PE prog w h00 R A fm loc led (.Call (.Name "len" p) [e] [] q) (.d (.int x.length)) :=
  PE.callB (id := "len") (PE.built0 G (by kernel_rfl) (by kernel_rfl) (by decide) hg hb hk hx) (PEs.cons h PEs.nil hs)
    (by have := CallP.lenS (prog := prog) (w := w) (h00 := h00) (R := R) (A := A) (x := S x) (by show x.toArray.size < _; rw [List.size_toArray]; exact Nat.lt_trans hz (by decide)); rwa [show ((S x).length : Int) = x.length by simp [Str.length]] at this)
    (by simp) (fun _ _ q => by cases q; exact hs) (fun _ _ q => by cases q; rfl) rfl


theorem flat_ints {α : Type} (f : α → List Int) : ∀ (l : List α) , (l.flatMap fun a => (f a).map PyData.int) = (l.flatMap f).map PyData.int
  | [] => rfl
  | a :: l => by rw [List.flatMap_cons, List.flatMap_cons, List.map_append, flat_ints f l]
theorem shaped_flat {α : Type} {l : List α} {F : α → List PyData} (f : α → List Int) (h : ∀ a, F a = (f a).map PyData.int) : shaped (.list (l.flatMap F)) = true := by
  rw [show F = fun a => (f a).map PyData.int from funext h, flat_ints]; exact shaped_ints _

theorem strOk_S {l : List Nat} (h : ∀ c ∈ l, c < 128) : PyData.strOk (S l) = true := by
  unfold PyData.strOk
  rw [Array.all_eq_true_iff_forall_mem]
  intro c hc
  have := h c (by simpa using hc)
  simp; omega
theorem S_one (a b : Nat) : (S [a] == S [b]) = (a == b) := by
  rw [Bool.eq_iff_iff]; simp
theorem len_flat {α : Type} {F : α → List PyData} {c : Nat} : ∀ {l : List α}, (∀ a ∈ l, (F a).length ≤ c) → (l.flatMap F).length ≤ l.length * c
  | [], _ => by simp
  | a :: l, h => by
    rw [List.flatMap_cons, List.length_append, List.length_cons, Nat.add_mul, Nat.one_mul]
    have h1 := h a List.mem_cons_self
    have h2 := len_flat (fun b hb => h b (List.mem_cons_of_mem a hb))
    omega
theorem PT.to {e : Expr} {b c : Bool} (h : PT prog w h00 R A fm loc led e b) (k : b = c) : PT prog w h00 R A fm loc led e c := k ▸ h
theorem PE.to {e : Expr} {b c : AV} (h : PE prog w h00 R A fm loc led e b) (k : b = c) : PE prog w h00 R A fm loc led e c := k ▸ h
end
end Mine
end
section
open PySem PySem.Spec PySem.Calls PyProof.Rows PySem.W PySem.SeqAt PySem.Builtin PySem.Builtin.Str
set_option maxRecDepth 100000
set_option linter.unusedVariables false
set_option autoImplicit false
namespace Mine
section
variable {prog : Program} {w : World} {h00 : Heap} {R : Shared} {A : Around} {fm : Fm} {loc : Loc} {led : Led}
theorem mem_addr {led : Led} {a : Addr} {ao : AO} (h : (a, ao) ∈ led) : a ∈ led.map (·.1) := List.mem_map_of_mem (f := (·.1)) h
/-- a list of the ledger: what lies there -/
theorem St.list {P : Params} {s : Shared} {a : Addr} {xs : List AV} (D : St P h00 R fm loc led s) (hm : (a, .list xs) ∈ led) : ∃ vs n, s.heap.get? a = some { cls := .type "list", data := .seq (List.toArray vs) n } ∧ VRs (vis fm led s.heap) xs vs := by
  obtain ⟨o, ho, vs, n, rfl, r⟩ := D.ld _ hm; exact ⟨vs, n, ho, r⟩
theorem MethX.list {name : Str} {id : String} {a : Addr} {xs : List AV} (hm : (a, .list xs) ∈ led) (slot : Slot "list" name id) (hty : typeOf (.builtin id) = pure (.type "method_descriptor")) :
    MethX prog w h00 R A fm loc led (.ref a) name (.builtin id) [.ref a] := fun s D pl Q E k => by
  obtain ⟨vs, n, ho, r⟩ := D.list hm
  exact getMethod_list_of slot hty ⟨_, ho, rfl, n, rfl⟩ ⟨_, ho, rfl⟩ (k s.toks)
theorem VRs.app {B : Heap} {as bs : List AV} {us vs : List Value} (h : VRs B as us) (k : VRs B bs vs) : VRs B (as ++ bs) (us ++ vs) := by
  induction h with
  | nil => exact k
  | cons r _ ih => exact .cons r ih
theorem CallT.append {a : Addr} {xs : List AV} {x : AV} {Φ : AV → Led → Prop} (hm : (a, .list xs) ∈ led) (hz : xs.length ≤ sizeLine) (k : Φ (.d .none) (upd led a (.list (xs ++ [x])))) :
    CallT prog w h00 R A fm loc led (.builtin "list.append") [.raw (.ref a), x] Φ := fun s D vals rv Q E q => by
  cases rv with
  | cons r0 rs => cases rs with
    | cons r1 rs =>
      cases rs
      cases r0
      obtain ⟨vs, n, ho, r⟩ := D.list hm
      refine append_at (hsz := by rw [List.size_toArray, r.len]; exact hz) ho fun h' hs hd => ?_
      rw [List.push_toArray] at hd
      obtain ⟨D2, S2⟩ := D.put (ao := .list (xs ++ [x])) (h' := h') (tk := s.toks) (mem_addr hm) (fun b o hb e => (hs.2 b hb).trans e) hd ⟨_, _, rfl, r.app (.cons r1 .nil)⟩ ⟨_, ho, fun u => by simp⟩
      exact q _ _ (.d .none) _ S2 D2 ⟨_, .none⟩ k
theorem CallT.pop {a : Addr} {xs : List AV} {x : AV} {Φ : AV → Led → Prop} (hm : (a, .list (xs ++ [x])) ∈ led) (hz : xs.length + 1 ≤ sizeLine) (k : Φ x (upd led a (.list xs))) :
    CallT prog w h00 R A fm loc led (.builtin "list.pop") [.raw (.ref a)] Φ := fun s D vals rv Q E q => by
  cases rv with
  | cons r0 rs =>
    cases rs
    cases r0
    obtain ⟨vs, n, ho, r⟩ := D.list hm
    have hl : vs.length = xs.length + 1 := by rw [r.len]; simp
    obtain ⟨y, hy, ry⟩ := (r.at xs.length).1 x (by simp)
    refine Copied.pop_at (y := y) (hsz := by rw [List.size_toArray, hl]; exact hz) ho (by rw [List.size_toArray, hl]; simpa using hy) fun h' hs hd => ?_
    have hp : (vs.toArray).pop = (vs.take xs.length).toArray := by
      rw [List.pop_toArray, List.dropLast_eq_take, hl]; simp
    rw [hp] at hd
    have rr : VRs (vis fm led s.heap) xs (vs.take xs.length) := by
      have : ∀ {as : List AV} {b : AV} {us : List Value}, VRs (vis fm led s.heap) (as ++ [b]) us → VRs (vis fm led s.heap) as (us.take as.length) := fun {as} => by
        induction as with
        | nil => intro b us h; cases h with | cons _ h => cases h; exact .nil
        | cons c as ih => intro b us h; cases h with | cons h1 h2 => exact .cons h1 (ih h2)
      exact this r
    obtain ⟨D2, S2⟩ := D.put (ao := .list xs) (h' := h') (tk := s.toks) (mem_addr hm) (fun b o hb e => (hs.2 b hb).trans e) hd ⟨_, _, rfl, rr⟩ ⟨_, ho, fun u => by simp⟩
    exact q _ _ x _ S2 D2 (ry.mono S2.ext) k
theorem CallT.clear {a : Addr} {xs : List AV} {Φ : AV → Led → Prop} (hm : (a, .list xs) ∈ led) (hz : xs.length ≤ sizeLine) (k : Φ (.d .none) (upd led a (.list []))) :
    CallT prog w h00 R A fm loc led (.builtin "list.clear") [.raw (.ref a)] Φ := fun s D vals rv Q E q => by
  cases rv with
  | cons r0 rs =>
    cases rs
    cases r0
    obtain ⟨vs, n, ho, r⟩ := D.list hm
    refine call_meets PySem.F.slot_list_clear ⟨_, ho, rfl⟩ PySem.F.entry_list_clear (PySem.F.args_list_clear_1 _) (AutoSeq1.list_clear_list_0 a vs.toArray n (by rw [List.size_toArray, r.len]; exact hz)) ⟨ho, ?_⟩
    have hs := Heap.SameBut.update s.heap a (Obj.mapSeq fun _ => #[])
    have hd : (s.heap.update a (Obj.mapSeq fun _ => #[])).get? a = some { cls := .type "list", data := .seq (List.toArray []) (if (#[] : Array Value).size == vs.toArray.size then n else n + 1) } := by
      rw [Heap.get?_update_self _ ho rfl]; rfl
    obtain ⟨D2, S2⟩ := D.put (ao := .list []) (tk := s.toks) (mem_addr hm) (fun b o hb e => (hs.2 b hb).trans e) hd ⟨_, _, rfl, .nil⟩ ⟨_, ho, fun u => by simp⟩
    exact q _ _ (.d .none) _ S2 D2 ⟨_, .none⟩ k
theorem CallT.extend {a : Addr} {xs ys : List AV} {Φ : AV → Led → Prop} (hm : (a, .list xs) ∈ led) (hz : xs.length + ys.length ≤ sizeLine) (k : Φ (.d .none) (upd led a (.list (xs ++ ys)))) :
    CallT prog w h00 R A fm loc led (.builtin "list.extend") [.raw (.ref a), .lst ys] Φ := fun s D vals rv Q E q => by
  cases rv with
  | cons r0 rs => cases rs with
    | cons r1 rs =>
      cases rs
      cases r0
      obtain ⟨vs, n, ho, r⟩ := D.list hm
      obtain ⟨b, us, n2, rfl, hb, r1⟩ := r1
      have hb' := hide_le _ _ hb
      have hsz : vs.toArray.size + us.toArray.size ≤ sizeLine := by rw [List.size_toArray, List.size_toArray, r.len, r1.len]; exact hz
      refine call_meets PySem.F.slot_list_extend ⟨_, ho, rfl⟩ PySem.F.entry_list_extend (PySem.F.args_list_extend_2 _ _) (AutoSeq1.list_extend_list_list_0 a vs.toArray n b us.toArray n2 (extend_door hsz) (Nat.le_trans (Nat.le_add_right _ _) hsz) (by omega)) ⟨ho, hb', ?_⟩
      have hs := Heap.SameBut.update s.heap a (Obj.mapSeq fun x => x ++ us.toArray)
      have hd : (s.heap.update a (Obj.mapSeq fun x => x ++ us.toArray)).get? a = some { cls := .type "list", data := .seq (List.toArray (vs ++ us)) (if (vs.toArray ++ us.toArray).size == vs.toArray.size then n else n + 1) } := by
        rw [Heap.get?_update_self _ ho (by rw [mapSeq_app]; rfl), mapSeq_app]; simp
      obtain ⟨D2, S2⟩ := D.put (ao := .list (xs ++ ys)) (tk := s.toks) (mem_addr hm) (fun b o hb e => (hs.2 b hb).trans e) hd ⟨_, _, rfl, r.app r1⟩ ⟨_, ho, fun u => by simp⟩
      exact q _ _ (.d .none) _ S2 D2 ⟨_, .none⟩ k

/-- the last item of a list of the ledger -/
theorem PE.itemLed {value slice : Expr} {pos : Pos} {a : Addr} {xs : List AV} {i : Int} {j : Nat} {x : AV} (hv : PE prog w h00 R A fm loc led value (.raw (.ref a))) (hi : PE prog w h00 R A fm loc led slice (.d (.int i))) (hm : (a, .list xs) ∈ led)
    (hj : i < 0 ∧ -(xs.length : Int) ≤ i ∧ (i + xs.length).toNat = j ∨ i = j) (hx : xs[j]? = some x) (hz : xs.length < 2 ^ 62)
    (hsl : ∀ u v, subscripted slice false u v = operate [u, v] (getItem u v) ∨ subscripted slice false u v = operate [v, u] (getItem u v) := by first | exact fun _ _ => .inl rfl | exact fun _ _ => .inr rfl) : PE prog w h00 R A fm loc led (.Subscript value slice pos) x := fun s D Q E k => by
  refine Subscript_ (hv s D _ _ fun u h1 t1 k1 r1 => hi _ (D.quiet k1) _ _ fun v h2 t2 k2 r2 => ?_)
  cases r1
  obtain ⟨t, rfl⟩ := reads_int r2
  have D2 := (D.quiet (tk := t1) k1).quiet (tk := t2) k2
  obtain ⟨vs, n, ho, r⟩ := D2.list hm
  obtain ⟨y, hy, ry⟩ := (r.at j).1 x hx
  have hl : h2.IsList a vs.toArray := ⟨_, ho, rfl, n, rfl⟩
  have hlen : vs.length = xs.length := r.len
  have := item_nat hx
  refine sub_tail (T := "list") hl.typeIs F.slot_list_getitem.lookup ?_ (hsl _ _)
  rcases hj with ⟨h1, h2', h3⟩ | rfl
  · exact wpAny_getItem_list_neg hl h1 (by rw [List.size_toArray, hlen]; exact h2') (by omega) (by rw [List.size_toArray, hlen, h3]; simpa using hy) (k _ h2 t2 (k1.trans k2) ry)
  · exact wpAny_getItem_list hl (by omega) (by omega) (by simpa using hy) (k _ h2 t2 (k1.trans k2) ry)
theorem PE.neg {e : Expr} {pos : Pos} {i : Int} (h : PE prog w h00 R A fm loc led e (.d (.int i))) : PE prog w h00 R A fm loc led (.UnaryOp .USub e pos) (.d (.int (-i))) := fun s D Q E k =>
  UnaryOp_ (h s D _ _ fun v h1 t1 k1 r1 => by
    obtain ⟨t, rfl⟩ := reads_int r1
    exact PySem.P.neg_int (k _ h1 _ k1 vr_int))
end
end Mine
end
section
open PySem PySem.Spec PySem.Calls PyProof.Rows PySem.W PySem.SeqAt PySem.Builtin PySem.Builtin.Str
set_option maxRecDepth 100000
set_option linter.unusedVariables false
set_option autoImplicit false
namespace Mine
theorem Roomy.le {d u d' u' : Nat} {A : Around} (h : Roomy d u A) (h1 : d ≤ d' := by decide) (h2 : u ≤ u' := by decide) : Roomy d' u' A := ⟨h.h, Nat.lt_of_lt_of_le h.d (Nat.add_le_add_right h1 300), Nat.lt_of_lt_of_le h.u h2⟩
theorem S_app (a b : List Nat) : S a ++ S b = S (a ++ b) := by show (⟨a.toArray ++ b.toArray⟩ : Str) = _; simp
theorem S_len (a : List Nat) : (S a).length = a.length := by simp [Str.length]
theorem line_big : 1000 ≤ sizeLine := by decide
section
variable {prog : Program} {w : World} {h00 : Heap} {R : Shared} {A : Around} {fm : Fm} {loc : Loc} {led : Led}
theorem Op2.addL {a b : List Nat} (hz : (a ++ b).length < 1000) : Op2 prog w A (binaryOp .Add) (.d (.str (S a))) (.d (.str (S b))) (.d (.str (S (a ++ b)))) := by
  rw [← S_app]
  refine Op2.addS ?_ ?_
  · rw [S_app, S_len]; exact Nat.le_trans (Nat.le_of_lt hz) line_big
  · rw [S_app]
    split
    · next h =>
      rw [S_len] at h
      have : a = [] := List.length_eq_zero_iff.mp (by simpa using h)
      subst this; rfl
    · split
      · next h =>
        rw [S_len] at h
        have : b = [] := List.length_eq_zero_iff.mp (by simpa using h)
        subst this; simp
      · rfl
noncomputable abbrev strD (n : List Nat) : PyData := .str (S n)
noncomputable abbrev strsD (l : List (List Nat)) : PyData := .list (l.map strD)
theorem flat_map {α β γ : Type} (f : α → List β) (k : β → γ) : ∀ (l : List α), (l.flatMap fun a => (f a).map k) = (l.flatMap f).map k
  | [] => rfl
  | a :: l => by rw [List.flatMap_cons, List.flatMap_cons, List.map_append, flat_map f k l]
theorem shaped_words {l : List (List Nat)} (h : ∀ x ∈ l, ∀ c ∈ x, c < 128) : shaped (strsD l) = true := by
  have : strsD l = .list ((l.map S).map .str) := by simp [strsD, List.map_map, Function.comp_def]
  rw [this]
  exact shaped_strs fun x hx => by obtain ⟨y, hy, rfl⟩ := List.mem_map.mp hx; exact strOk_S (h y hy)
theorem IterP.words {l : List (List Nat)} (hh : A.handled = none) : IterP prog w h00 R A (.d (strsD l)) (l.map fun n => AV.d (strD n)) := by
  have := IterP.list (prog := prog) (w := w) (h00 := h00) (R := R) (ds := l.map strD) hh
  rwa [List.map_map] at this
theorem IterP.as {l : List (List Nat)} {ds : List PyData} (h : ds = l.map strD) (hh : A.handled = none) : IterP prog w h00 R A (.d (.list ds)) (l.map fun n => AV.d (strD n)) := h ▸ IterP.words hh
theorem flat_filter {α : Type} (p : α → Bool) (k : α → PyData) : ∀ (l : List α), (l.flatMap fun a => if p a then [k a] else []) = (l.filter p).map k
  | [] => rfl
  | a :: l => by
    rw [List.flatMap_cons, flat_filter p k l, List.filter_cons]
    cases p a <;> simp
end
end Mine
end
section
open PySem PySem.Spec PySem.Calls PyProof.Rows PySem.W PySem.SeqAt PySem.Builtin PySem.Builtin.Str
set_option maxRecDepth 100000
set_option linter.unusedVariables false
set_option autoImplicit false
namespace Mine
theorem slot_md_get : Slot "method_descriptor" "__get__" "method_descriptor.__get__" :=
  .of (owner := "method_descriptor") (n := "__get__") (by rw [typeLookup_type, builtinLookup_eq_fast]; kernel_rfl) (by decide +kernel) (by decide +kernel) (by decide +kernel)
    (by first | exact .inl (by decide +kernel) | exact .inr (by decide +kernel)) (by rw [isSubtype_type]; kernel_rfl)
theorem noset_md : typeLookup (.type "method_descriptor") "__set__" = pure none := by rw [typeLookup_type, builtinLookup_eq_fast]; kernel_rfl
theorem nodel_md : typeLookup (.type "method_descriptor") "__delete__" = pure none := by rw [typeLookup_type, builtinLookup_eq_fast]; kernel_rfl
theorem entry_md_get : entryFor table "method_descriptor.__get__" = some Builtin.«method_descriptor.__get__» := entryFor_of_tree (by kernel_rfl)
theorem args_md_get (a b c : Value) : argsOk "method_descriptor.__get__" ⟨[a, b, c], []⟩ := by unfold argsOk; kernel_rfl
section
variable {prog : Program} {w : World} {A : Around} {E : Value → Shared → Prop} {h : Heap} {g : Array GenState} {d : Drawn} {t : Nat} {os : OsState} {a : Addr} {its : Array Value} {n : Nat}
theorem append_entry {tk : Tok} {Q : Fin → Shared → Prop} (hx : h.get? a = some { cls := .type "list", data := .seq its n }) 
   (hq : Q (.done (.ret (.ref h.objs.size))) ⟨h.push { cls := .type "builtin_function_or_method", data := .fields #[.builtin "list.append", .ref a] }, g, d, t, os⟩) :
    wpAny (model prog w) A (Builtin.«object.__getattribute__» ⟨[.ref a, .str "append" tk], []⟩) Q E ⟨h, g, d, t, os⟩ := by
  have hT : (⟨h, g, d, t, os⟩ : Shared).TypeIs (.ref a) "list" := ⟨_, hx, rfl⟩
  have f4 := F.slot_list_append.lookup
  have hT5 : (⟨h, g, d, t, os⟩ : Shared).TypeIs (.builtin "list.append") "method_descriptor" := F.type_list_append
  have f5 := F.type_list_append
  have f6 := slot_md_get.lookup
  have f7 := noset_md
  have f8 := nodel_md
  repeat (any_goals (first | assumption | wp_step))
  refine codeAny_call_builtin slot_md_get.plain entry_md_get (slot_md_get.check _ _ _ _ _ _ _ _ hT5 (args_md_get _ _ _) ?_)
  unfold Builtin.«method_descriptor.__get__»
  refine wpAny_bind (wpAny_of_eq (a := (.builtin "list.append", some (.ref a), some (.type "list"))) (by first | rfl | kernel_rfl) ?_)
  dsimp only
  rw [show Manifest.toldItsClass.contains "list.append" = false by decide +kernel]
  rw [if_neg Bool.false_ne_true]
  have own : ".".intercalate ("list.append".cutAt '.').dropLast = "list" := by decide +kernel
  show wpAny _ _ ((isInstance (.ref a) (.type (".".intercalate ("list.append".cutAt '.').dropLast)) >>= fun r => if (!r) = true then _ else pure ()) >>= fun _ => newFields "builtin_function_or_method" [.builtin "list.append", .ref a] >>= fun v => ret v) _ _ _
  rw [own]
  have g1 : isSubtype (.type "list") (.type "list") = pure true := by rw [isSubtype_type]; kernel_rfl
  refine wpAny_bind (wpAny_bind ?_)
  repeat (any_goals (first | assumption | wp_step))
theorem append_getAttr {expr : Bool} {Q : Value → Shared → Prop} (hx : h.get? a = some { cls := .type "list", data := .seq its n })
   (hq : ∀ t', Q (.ref h.objs.size) ⟨h.push { cls := .type "builtin_function_or_method", data := .fields #[.builtin "list.append", .ref a] }, g, d, t', os⟩) :
    wpAny (model prog w) A (getAttr (.ref a) "append" expr) Q E ⟨h, g, d, t, os⟩ := by
  have hT : (⟨h, g, d, t, os⟩ : Shared).TypeIs (.ref a) "list" := ⟨_, hx, rfl⟩
  have f2 := F.slot_list_getattribute.lookup
  have f3 := F.slot_list_getattribute.bind (.ref a)
  unfold getAttr getAttrBy
  refine wpAny_bind (wpAny_mkText (wpAny_holding (wpAny_bind ?_)))
  repeat (any_goals (first | assumption | wp_step))
  rw [if_neg (by cases expr <;> decide)]
  repeat (any_goals (first | assumption | wp_step))
  refine codeAny_call_builtin F.slot_list_getattribute.plain F.entry_list_ga (F.slot_list_getattribute.check _ _ _ _ _ _ _ _ (show (⟨h, g, d, t + 1, os⟩ : Shared).TypeIs (.ref a) "list" from ⟨_, hx, rfl⟩) (F.args_list_getattribute_2 _ _) (append_entry hx ?_))
  repeat (any_goals (first | assumption | wp_step))
  exact hq _

theorem sig_append : Manifest.signature? "list.append" = some ⟨.oneArg, "list.append", "append", .self, [⟨"object", .posOnly, true⟩]⟩ := by kernel_rfl
theorem check_bapp {x : Value} {Q : Unit → Shared → Prop} (hx : h.get? a = some { cls := .type "list", data := .seq its n }) (hq : Q () ⟨h, g, d, t, os⟩) : wpAny (model prog w) A (checkBoundCall "list.append" ⟨[.ref a, x], []⟩) Q E ⟨h, g, d, t, os⟩ := by
  have hT : (⟨h, g, d, t, os⟩ : Shared).TypeIs (.ref a) "list" := ⟨_, hx, rfl⟩
  have f1 : isSubtype (.type "list") (.type "module") = pure false := by rw [isSubtype_type]; kernel_rfl
  have f2 : isSubtype (.type "list") (.type "type") = pure false := by rw [isSubtype_type]; kernel_rfl
  unfold checkBoundCall
  rw [sig_append]
  dsimp only
  rw [show builtinKind "list.append" = some .method by decide +kernel]
  dsimp only
  rw [if_neg (by decide)]
  refine wpAny_bind ?_
  repeat (any_goals (first | assumption | wp_step))
end
section
variable {prog : Program} {w : World} {A : Around} {E : Value → Shared → Prop} {s : Shared} {env : Env}
/-- an object that holds a builtin and its first argument, called -/
theorem callWith_bnd {M : Model} {pos : Pos} {u : Addr} {T : String} {vs : Array Value} {first : List Value} {args : List (Bool × Sem Value)} {Q : Value → Shared → Prop} (hT : T = "builtin_function_or_method" ∨ T = "method-wrapper") (hplain : args.any (·.1) = false)
    (h : wpAny M A (evalArgs (.ref u) true args []) (fun x s₁ => s₁.heap.get? u = some { cls := .type T, data := .fields vs } ∧ wpAny M A (call (.ref u) (first ++ x.pos) x.kw) Q E s₁) E s) : wpAny M A (callWith pos (.ref u) first args []) Q E s := by
  unfold callWith
  refine wpAny_bind (wpAny_holding (wpAny_mono h (fun x s₁ h₁ => wpAny_bind (wpAny_standAt ?_)) fun _ _ x => x))
  obtain ⟨ho, hcall⟩ := h₁
  simp only [hplain, List.any_nil, Bool.or_false]
  refine wpAny_bind (m := keeperOf (.ref u)) ?_
  unfold keeperOf
  refine wpAny_bind (wpAny_load ho ?_)
  have e1 : (Value.type T != Value.type "method") = true := by rcases hT with rfl | rfl <;> decide
  have e2 : (Value.type T == Value.type "builtin_function_or_method" || Value.type T == Value.type "method-wrapper") = true := by rcases hT with rfl | rfl <;> decide
  simp only [e1, e2, if_true]
  refine wpAny_pure ?_
  exact wpAny_bind (wpAny_mono hcall (fun r s₂ hr => wpAny_bind (wpAny_holding (wpAny_point (wpAny_pure hr)))) fun _ _ x => x)
theorem call_bnd {u : Addr} {T id : String} {self : Value} {rest : List Value} {B : Builtin} {Q : Value → Shared → Prop} (hT : T = "builtin_function_or_method" ∨ T = "method-wrapper") (ho : s.heap.get? u = some { cls := .type T, data := .fields #[.builtin id, self] })
    (hc : ∀ (A' : Around) (Q : Unit → Shared → Prop) (E : Value → Shared → Prop), Q () s → wpAny (model prog w) A' (checkBoundCall id ⟨self :: rest, []⟩) Q E s) (hq : (Code.builtin id ⟨self :: rest, []⟩).quiet = true) (entry : entryFor table id = some B)
    (h : ∀ A' : Around, wpAny (model prog w) A' (B ⟨self :: rest, []⟩) (fun fin s' => ∃ r, fin = .done (.ret r) ∧ Q r s') E s) : wpAny (model prog w) A (call (.ref u) rest) Q E s := by
  refine wpAny_call (codeAny_of_tree ?_)
  show wpAny _ A.in1 (callAny (.ref u) ⟨rest, []⟩) _ _ s
  simp only [callAny]
  refine wpAny_bind (wpAny_load ho ?_)
  have e2 : (Value.type T == Value.type "method" || Value.type T == Value.type "builtin_function_or_method" || Value.type T == Value.type "method-wrapper") = true := by rcases hT with rfl | rfl <;> decide
  have e1 : (Value.type T != Value.type "method") = true := by rcases hT with rfl | rfl <;> decide
  simp only [e2, if_true]
  refine KFB.if_so e1 ?_
  refine wpAny_bind (hc _ _ _ ?_)
  refine wpAny_bind (wpAny_pure (wpAny_pure ⟨hq, codeAny_builtin entry (wpAny_mono (h _) (fun fin s' hr => ?_) fun _ _ e => e)⟩))
  obtain ⟨r, rfl, hr⟩ := hr
  exact hr
end
/-- an object that holds a builtin and its first argument -/
noncomputable def bndHP (T id : String) (self : Value) : HP := ⟨fun B v => ∃ q, v = .ref q ∧ B.get? q = some { cls := .type T, data := .fields #[.builtin id, self] }, fun B B' v k ⟨q, e, h⟩ => ⟨q, e, k _ _ h⟩⟩
section
variable {prog : Program} {w : World} {h00 : Heap} {R : Shared} {A : Around} {fm : Fm} {loc : Loc} {led : Led}
/-- an attribute of a known object -/
theorem PE.attrX {e : Expr} {name : Str} {pos : Pos} {u : Value} {av : AV} (he : PE prog w h00 R A fm loc led e (.raw u))
    (hg : ∀ s, St w.params h00 R fm loc led s → ∀ (Q : Value → Shared → Prop) (E : Value → Shared → Prop), (∀ v h' tk, Ext s.heap h' → VR (vis fm led h') av v → Q v { s with heap := h', toks := tk }) → wpAny (model prog w) A (getAttr u name true) Q E s)
    (hb : eval (.Attribute e name pos) fm.env = (do
      let o ← eval e fm.env
      standAt pos.atName
      let r ← holding [o] (getAttr o name true)
      letTemporaryGo e o r
      Pure.pure r) := by rfl) :
    PE prog w h00 R A fm loc led (.Attribute e name pos) av := fun s D Q E k =>
  Attribute_any_ (he s D _ _ fun v h1 t1 k1 r1 => by
    cases r1
    refine hg _ (D.quiet k1) _ _ fun v h2 t2 k2 r2 => k v h2 t2 (k1.trans k2) r2) hb
theorem PE.boundAppend {e : Expr} {pos : Pos} {a : Addr} {xs : List AV} (he : PE prog w h00 R A fm loc led e (.raw (.ref a))) (hm : (a, .list xs) ∈ led)
    (hb : eval (.Attribute e "append" pos) fm.env = (do
      let o ← eval e fm.env
      standAt pos.atName
      let r ← holding [o] (getAttr o "append" true)
      letTemporaryGo e o r
      Pure.pure r) := by rfl) :
    PE prog w h00 R A fm loc led (.Attribute e "append" pos) (.x (bndHP "builtin_function_or_method" "list.append" (.ref a))) := PE.attrX he (fun s D Q E k => by
    obtain ⟨vs, n, ho, r⟩ := D.list hm
    obtain ⟨h, g, d, t, os⟩ := s
    refine append_getAttr ho fun t' => k _ _ _ (fun b o e => Heap.get?_push_of_some _ e) ⟨_, rfl, hideAll_get _ (Heap.get?_push_size _ rfl) fun hm => ?_⟩
    exact absurd (D.lo _ hm) (Nat.lt_irrefl _)) hb
/-- what was bound to a list of the ledger, called -/
theorem TE.callBound {func e : Expr} {pos : Pos} {a : Addr} {xs : List AV} {x : AV} {Φ : AV → Loc → Led → Prop} (hf : PE prog w h00 R A fm loc led func (.x (bndHP "builtin_function_or_method" "list.append" (.ref a)))) (he : PE prog w h00 R A fm loc led e x)
    (hm : (a, .list xs) ∈ led) (hz : xs.length ≤ sizeLine) (k : Φ (.d .none) loc (upd led a (.list (xs ++ [x]))))
    (hs : starEach [e] fm.env = (false, eval e fm.env) :: starEach [] fm.env := by rfl)
    (hc : eval (.Call func [e] [] pos) fm.env = (do callWith pos (← eval func fm.env) [] (backTo pos (starEach [e] fm.env)) (backToKw pos (keywordEach [] fm.env))) := by rfl) :
    TE prog w h00 R A fm loc led (.Call func [e] [] pos) Φ := fun s D Q E q => by
  refine Call_ (hf s D _ _ fun f h1 t1 k1 r1 => ?_) hc
  obtain ⟨u, rfl, hu⟩ := r1
  have D1 := D.quiet (tk := t1) k1
  have hplain : (backTo pos (starEach [e] fm.env)).any (·.1) = false := by rw [hs]; rfl
  have key : wpAny (model prog w) A (spliced (backTo pos (starEach [e] fm.env))) (fun vs s₁ => s₁.heap.get? u = some { cls := .type "builtin_function_or_method", data := .fields #[.builtin "list.append", .ref a] } ∧ wpAny (model prog w) A (call (.ref u) ([] ++ vs)) Q E s₁) E { s with heap := h1, toks := t1 } := by
    refine PEs.cons he PEs.nil hs pos _ D1 _ _ fun vs h2 t2 k2 r2 => ?_
    have D2 := D1.quiet (tk := t2) k2
    have hu2 := k2 _ _ (hide_le _ _ hu)
    refine ⟨hu2, ?_⟩
    obtain ⟨v, rfl, r⟩ : ∃ v, vs = [v] ∧ VR (vis fm led h2) x v := by cases r2 with | cons r rs => cases rs; exact ⟨_, rfl, r⟩
    obtain ⟨us, n, ho, ru⟩ := D2.list hm
    refine call_bnd (B := Builtin.«list.append») (.inl rfl) hu2 (fun A' Q' E' h => check_bapp ho h) (Code.quiet_builtin _ (by decide +kernel)) entry_list_append fun A' => ?_
    have hsz : us.toArray.size ≤ sizeLine := by rw [List.size_toArray, ru.len]; exact hz
    show wpAny _ _ (updateSeq a (·.push _) >>= fun _ => ret .none) _ _ _
    refine wpAny_bind ?_
    refine wpAny_updateSeq ho rfl (hz := hsz) (wpAny_pure ⟨.none, rfl, ?_⟩)
    have hs' := Heap.SameBut.update h2 a (Obj.mapSeq fun y => y.push v)
    have hd : (h2.update a (Obj.mapSeq fun y => y.push v)).get? a = some { cls := .type "list", data := .seq (List.toArray (us ++ [v])) (n + 1) } := by
      rw [Heap.get?_update_self _ ho (by rw [mapSeq_push]; rfl), mapSeq_push, List.push_toArray]
    obtain ⟨D3, S3⟩ := D2.put (ao := .list (xs ++ [x])) (tk := t2) (mem_addr hm) (fun b o hb e => (hs'.2 b hb).trans e) hd ⟨_, _, rfl, ru.app (.cons r .nil)⟩ ⟨_, ho, fun u => by simp⟩
    exact q _ _ (.d .none) loc _ (D.step k1 (D1.step k2 S3)) D3 ⟨_, .none⟩ k
  rw [hs] at key hplain ⊢
  exact callWith_bnd (.inl rfl) hplain (evalArgs_plain key)
end
end Mine
end
section
open PySem PySem.Spec PySem.Calls PyProof.Rows PySem.W PySem.SeqAt PySem.Builtin PySem.Builtin.Str
set_option maxRecDepth 100000
set_option linter.unusedVariables false
set_option autoImplicit false
namespace Mine
section
variable {prog : Program} {w : World} {h00 : Heap} {R : Shared} {A : Around} {fm : Fm} {loc : Loc} {led : Led}
/-- x, y = (a, b), stored from behind -/
theorem TX.assign2 {x y : Str} {elts : List Expr} {k : Nat} {tpos pos : Pos} {value : Expr} {a b : AV} {Φ : AF → Loc → Led → Prop} (hk : fm.env.scope.kind = .function) (hx : Stores fm x) (hy : Stores fm y) (hh : A.handled = none)
    (hv : PE prog w h00 R A fm loc led value (.tup [a, b])) (fin : Φ .next ((x, a) :: (y, b) :: loc) led)
    (hs : swapsWithSole [.Tuple elts k tpos] value pos.line fm.env = pure false := by rfl)
    (hw : swappedStores [.Tuple elts k tpos] value fm.env = pure (some [x, y]) := by rfl) :
    TX prog w h00 R A fm loc led (.Assign [.Tuple elts k tpos] value pos) Φ := fun s D Q E q => by
  refine Assign_Tuple_swapped (hv s D _ _ fun v h1 t1 k1 r1 => ?_) hs hw
  obtain ⟨t, vs, n, rfl, ht, r⟩ := r1
  have D1 := D.quiet (tk := t1) k1
  cases r with
  | cons ra rs => cases rs with
    | cons rb rs =>
      cases rs
      rename_i va vb
      refine unpackItems_tuple (items := #[va, vb]) hh ⟨_, hide_le _ _ ht, rfl, n, rfl⟩ fun h' he => ?_
      have k2 : Ext h1 h' := fun b o e => he b o (Nat.ne_of_lt (Heap.lt_size e)) e
      have D2 := D1.quiet (tk := t1) k2
      refine assignInOrder_cons (bindName_ (store_name D2 (rb.mono (hide_ext k2)) hk (hy.l _) fun s3 S3 K3 D3 => ?_))
      have ra3 : VR (vis fm led s3.heap) a va := (ra.mono (hide_ext k2)).mono S3.ext
      refine assignInOrder_cons (bindName_ (store_name D3 ra3 hk (hx.l _) fun s4 S4 K4 D4 => ?_))
      exact assignInOrder_nil (q _ s4 .next _ _ (D.step k1 (D1.step k2 (S3.trans S4))) D4 rfl fin)
theorem TX.assert {test : Expr} {msg : Option Expr} {pos : Pos} {Φ : AF → Loc → Led → Prop} (ht : PT prog w h00 R A fm loc led test true) (fin : Φ .next loc led) : TX prog w h00 R A fm loc led (.Assert test msg pos) Φ := fun s D Q E q =>
  wpAny_Assert_holds (ht s D _ _ fun h' tk k => ⟨rfl, q _ _ .next loc led (Step.quiet D k) (D.quiet k) rfl fin⟩)
theorem Op2.isNotSelf {a : Addr} : Op2 prog w A (compareOp .IsNot) (.raw (.ref a)) (.raw (.ref a)) (.d (.bool false)) := fun X s u v Q E lo ru rv k => by
  cases ru; cases rv
  show wpAny _ _ (isSame (.ref a) (.ref a) >>= fun r => pure (Value.bool (!r))) _ _ _
  exact wpAny_bind (wpAny_isSame_ref_self (wpAny_pure (k _ s.heap s.toks Ext.rfl vr_bool)))
theorem Op2.isSelf {a : Addr} : Op2 prog w A (compareOp .Is) (.raw (.ref a)) (.raw (.ref a)) (.d (.bool true)) := fun X s u v Q E lo ru rv k => by
  cases ru; cases rv
  show wpAny _ _ (isSame (.ref a) (.ref a) >>= fun r => pure (Value.bool r)) _ _ _
  exact wpAny_bind (wpAny_isSame_ref_self (wpAny_pure (k _ s.heap s.toks Ext.rfl vr_bool)))
theorem Op2.isNotStr {x : Str} {a : Addr} : Op2 prog w A (compareOp .IsNot) (.d (.str x)) (.raw (.ref a)) (.d (.bool true)) := fun X s u v Q E lo ru rv k => by
  obtain ⟨t, rfl⟩ := reads_str ru
  cases rv
  show wpAny _ _ (isSame (.str x t) (.ref a) >>= fun r => pure (Value.bool (!r))) _ _ _
  exact wpAny_bind (wpAny_of_eq (a := false) rfl (wpAny_pure (k _ s.heap s.toks Ext.rfl vr_bool)))
theorem Op2.isStr {x : Str} {a : Addr} : Op2 prog w A (compareOp .Is) (.d (.str x)) (.raw (.ref a)) (.d (.bool false)) := fun X s u v Q E lo ru rv k => by
  obtain ⟨t, rfl⟩ := reads_str ru
  cases rv
  show wpAny _ _ (isSame (.str x t) (.ref a) >>= fun r => pure (Value.bool r)) _ _ _
  exact wpAny_bind (wpAny_of_eq (a := false) rfl (wpAny_pure (k _ s.heap s.toks Ext.rfl vr_bool)))
end
end Mine
end
section
open PySem PySem.Spec PySem.Calls PyProof.Rows PySem.W PySem.SeqAt PySem.Builtin PySem.Builtin.Str
set_option maxRecDepth 100000
set_option linter.unusedVariables false
set_option autoImplicit false
namespace Mine
noncomputable abbrev intsD (l : List Int) : PyData := .list (l.map .int)
noncomputable def best (l : List Int) : Int := l.getD (argBest (fun i j => decide (l.getD i 0 < l.getD j 0)) (l.length - 1)) 0
noncomputable def sumOf (l : List Int) : Int := preSum (fun i => l.getD i 0) l.length
theorem getD_of {l : List Int} {i : Nat} {a : Int} (h : l[i]? = some a) : l.getD i 0 = a := by rw [List.getD_eq_getElem?_getD, h]; rfl
section
variable {prog : Program} {w : World} {h00 : Heap} {R : Shared} {A : Around} {fm : Fm} {loc : Loc} {led : Led}
theorem ints_item {l : List Int} {X : List Addr} {s : Shared} {i : Nat} {u : Value} (h : ∃ a, ((l.map PyData.int).map AV.d)[i]? = some a ∧ VR (hideAll s.heap X) a u) : ∃ t, u = .int (l.getD i 0) t ∧ i < l.length := by
  obtain ⟨a, ha, r⟩ := h
  rw [List.map_map, List.getElem?_map] at ha
  obtain ⟨z, hz, rfl⟩ := Option.map_eq_some_iff.mp ha
  obtain ⟨t, rfl⟩ := reads_int r
  exact ⟨t, by rw [getD_of hz], item_nat hz⟩
theorem CallP.sum {l : List Int} (hh : A.handled = none) : CallP prog w h00 R A (.builtin "sum") [.d (intsD l)] (.d (.int (sumOf l))) := fun X s vals Q E B rv k => by
  cases rv with
  | cons r rs =>
    cases rs
    refine call_sum_walkG ?_
    refine IterP.list (h00 := h00) (R := R) (A := A.in1) (ds := l.map .int) hh X s _ _ _ B r fun I fp h' tk Stt e nI hN hfp W st => ?_
    refine ⟨I, fp, [I], _, _, Stt, fun i => l.getD i 0, rfl, W, st, fun b hb => ?_, fun i v p => (ints_item p).imp fun _ q => q.1, fun h2 tk2 t2 k2 => ?_⟩
    · rcases hfp b hb with rfl | ⟨_, o, ho⟩
      · obtain ⟨o, ho, _⟩ := hN _ _ st; exact Heap.lt_size ho
      · exact Heap.lt_size (e _ _ ho)
    · rw [show ((l.map PyData.int).map AV.d).length = l.length by simp]
      exact k _ h2 tk2 (fun b o ho => k2 b o (fun hb => by rw [List.mem_singleton.mp hb, nI] at ho; cases ho) (e b o ho)) vr_int
theorem CallP.min {l : List Int} (hne : l ≠ []) (hh : A.handled = none) : CallP prog w h00 R A (.builtin "min") [.d (intsD l)] (.d (.int (best l))) := fun X s vals Q E B rv k => by
  cases rv with
  | cons r rs =>
    cases rs
    refine call_min_walk ?_
    refine IterP.list (h00 := h00) (R := R) (A := A.in1) (ds := l.map .int) hh X s _ _ _ B r fun I fp h' tk Stt e nI hN hfp W st => ?_
    have len : ((l.map PyData.int).map AV.d).length = l.length := by simp
    have hpos : 0 < l.length := List.length_pos_iff.mpr hne
    refine ⟨I, fp, [I], _, _, Stt, _, rfl, W, st, fun b hb => ?_, by rw [len]; exact hpos, CmpOf.ints_lt (fun i => l.getD i 0) fun i v p => (ints_item p).imp fun _ q => q.1, fun v h2 tk2 p k2 => ?_⟩
    · rcases hfp b hb with rfl | ⟨_, o, ho⟩
      · obtain ⟨o, ho, _⟩ := hN _ _ st; exact Heap.lt_size ho
      · exact Heap.lt_size (e _ _ ho)
    · obtain ⟨t, rfl, _⟩ := ints_item p
      rw [len]
      exact k _ h2 tk2 (fun b o ho => k2 b o (fun hb => by rw [List.mem_singleton.mp hb, nI] at ho; cases ho) (e b o ho)) vr_int
theorem Op2.addLists {xs ys : List PyData} (hz : xs.length + ys.length ≤ sizeLine) : Op2 prog w A (binaryOp .Add) (.d (.list xs)) (.d (.list ys)) (.lst ((xs ++ ys).map .d)) := fun X s u v Q E lo ru rv k => by
  obtain ⟨a, ⟨c1, d1, da1, sl1⟩, vs, n, rfl, e, hc, hd, r⟩ := lst_of_d ru
  obtain ⟨b, ⟨c2, d2, da2, sl2⟩, ws, n2, rfl, e2, hc2, hd2, r2⟩ := lst_of_d rv
  dsimp only at hc hd hc2 hd2
  subst hc hd hc2 hd2
  have ho := hide_le _ _ e
  have ho2 := hide_le _ _ e2
  have l1 : vs.length = xs.length := by rw [r.len]; simp
  have l2 : ws.length = ys.length := by rw [r2.len]; simp
  have e3 : vs.toArray ++ ws.toArray = (vs ++ ws).toArray := by simp
  refine concat_meets ⟨_, ho, rfl⟩ ⟨_, ho2, rfl⟩ noFill_list_add seq_list_add PySem.F.slot_list_add PySem.F.entry_list_add (PySem.F.args_list_add_2 _ _) (list_addW a b vs.toArray ws.toArray n n2 d1 d2 sl1 sl2 (by simpa [l1, l2] using hz)) ⟨ho, ho2, ?_⟩
  rw [e3]
  have up : ∀ o, Ext s.heap (s.heap.push o) := fun o b ob e => Heap.get?_push_of_some _ e
  refine k _ _ _ (up _) ⟨s.heap.objs.size, vs ++ ws, _, rfl, hideAll_get _ (Heap.get?_push_size _ rfl) fun h => absurd (lo _ h) (Nat.lt_irrefl _), ?_⟩
  rw [List.map_append]
  exact (r.app r2).mono (hide_ext (up _))
/-- a range of two ends -/
noncomputable def range2HP (a b : Int) : HP := ⟨fun B v => ∃ r t u w, v = .ref r ∧ IsRange B r a b 1 t u w, fun B B' v x ⟨r, t, u, w, e, h⟩ => ⟨r, t, u, w, e, x _ _ h⟩⟩
noncomputable def rangeL (a b : Int) : List Int := rangeInts a 1 (b - a).toNat
theorem PE.range2 {func e1 e2 : Expr} {pos : Pos} {a b : Int} (hf : PE prog w h00 R A fm loc led func (.raw (.type "range"))) (h1 : PE prog w h00 R A fm loc led e1 (.d (.int a))) (h2 : PE prog w h00 R A fm loc led e2 (.d (.int b)))
    (hs : starEach [e1, e2] fm.env = (false, eval e1 fm.env) :: starEach [e2] fm.env := by rfl) (hs2 : starEach [e2] fm.env = (false, eval e2 fm.env) :: starEach [] fm.env := by rfl)
    (hp : (backTo pos (starEach [e2] fm.env)).any (·.1) = false := by rfl)
    (hc : eval (.Call func [e1, e2] [] pos) fm.env = (do callWith pos (← eval func fm.env) [] (backTo pos (starEach [e1, e2] fm.env)) (backToKw pos (keywordEach [] fm.env))) := by rfl) :
    PE prog w h00 R A fm loc led (.Call func [e1, e2] [] pos) (.x (range2HP a b)) := fun s D Q E k => by
  refine Call_ (hf s D _ _ fun f h1' t1 k1 r1 => ?_) hc
  cases r1
  refine PyProof.Rows.callWith_type1 (PEs.cons h1 (PEs.cons h2 PEs.nil hs2) hs pos _ (D.quiet k1) _ _ fun vs h3 t3 k3 r3 => ?_) hs hp
  cases r3 with
  | cons r rs => cases rs with
    | cons r' rs =>
      cases rs
      obtain ⟨t, rfl⟩ := reads_int r
      obtain ⟨t', rfl⟩ := reads_int r'
      refine call_range_2 ?_
      have D2 := (D.quiet (tk := t1) k1).quiet (tk := t3) k3
      refine k _ _ _ (k1.trans (k3.trans fun b o e => Heap.get?_push_of_some _ e)) ⟨_, _, _, _, rfl, hideAll_get _ (Heap.get?_push_size _ rfl) fun h => ?_⟩
      exact absurd (D2.lo _ h) (Nat.lt_irrefl _)
/-- list(range(a, b)) -/
theorem PE.listRange {func e : Expr} {pos : Pos} {a b : Int} (hf : PE prog w h00 R A fm loc led func (.raw (.type "list"))) (he : PE prog w h00 R A fm loc led e (.x (range2HP a b))) (hh : A.handled = none)
    (ha : -(2 ^ 62) ≤ a ∧ a < 2 ^ 62) (hb : -(2 ^ 62) ≤ b ∧ b < 2 ^ 62) (hl : (b - a).toNat ≤ 2 ^ 24)
    (hs : starEach [e] fm.env = (false, eval e fm.env) :: starEach [] fm.env := by rfl)
    (hp : (backTo pos (starEach [] fm.env)).any (·.1) = false := by rfl)
    (hc : eval (.Call func [e] [] pos) fm.env = (do callWith pos (← eval func fm.env) [] (backTo pos (starEach [e] fm.env)) (backToKw pos (keywordEach [] fm.env))) := by rfl) :
    PE prog w h00 R A fm loc led (.Call func [e] [] pos) (.d (intsD (rangeL a b))) := fun s D Q E k => by
  refine Call_ (hf s D _ _ fun f h1 t1 k1 r1 => ?_) hc
  cases r1
  refine PyProof.Rows.callWith_type1 (PEs.cons he PEs.nil hs pos _ (D.quiet k1) _ _ fun vs h2 t2 k2 r2 => ?_) hs hp
  cases r2 with
  | cons r rs =>
    cases rs
    obtain ⟨x, t, u, v, rfl, hr⟩ := r
    have hr' : IsRange h2 x a b 1 t u v := hide_le _ _ hr
    have D2 := (D.quiet (tk := t1) k1).quiet (tk := t2) k2
    refine call_list_range (s := { s with heap := h2, toks := t2 }) hh hr' (small_one ha.1 ha.2 hb.1 hb.2) (rangeSize_nat a b) hl fun h' tk acc' c' hk hS hacc => ?_
    have hk' : Ext h2 h' := hk
    refine k _ h' tk (k1.trans (k2.trans hk')) (d_of_lst ⟨h2.objs.size, acc'.toList, c', rfl, hideAll_get _ (by simpa using hS) fun h => absurd (D2.lo _ h) (Nat.lt_irrefl _), ?_⟩)
    obtain ⟨hsz, hit⟩ := hacc
    have key : ∀ (l : List Value) (off : Nat), (∀ j v, l[j]? = some v → ∃ t, v = Value.int (a + ((off + j : Nat) : Int) * 1) t) → VRs (hideAll h' (away fm led)) (((List.range l.length).map fun i => PyData.int (a + ((off + i : Nat) : Int) * 1)).map AV.d) l := fun l => by
      induction l with
      | nil => intro off _; exact .nil
      | cons v l ih =>
        intro off hv
        obtain ⟨t, rfl⟩ := hv 0 v rfl
        rw [List.length_cons, List.range_succ_eq_map, List.map_cons, List.map_cons]
        refine .cons vr_int ?_
        have := ih (off + 1) fun j v hj => by
          obtain ⟨t, e⟩ := hv (j + 1) v (by simpa using hj)
          exact ⟨t, by rw [e, show off + (j + 1) = off + 1 + j by omega]⟩
        have e2 : ((List.range l.length).map fun i => PyData.int (a + ((off + 1 + i : Nat) : Int) * 1)).map AV.d = List.map AV.d (List.map (fun i => PyData.int (a + ((off + i : Nat) : Int) * 1)) (List.map Nat.succ (List.range l.length))) := by
          rw [List.map_map, List.map_map, List.map_map]
          refine List.map_congr_left fun i _ => ?_
          show AV.d (PyData.int _) = AV.d (PyData.int _)
          rw [show off + 1 + i = off + Nat.succ i by omega]
        rw [e2] at this
        exact this
    have := key acc'.toList 0 fun j v hj => by
      obtain ⟨t, e⟩ := hit j v (by simpa using hj)
      exact ⟨t, by rw [e, Nat.zero_add]⟩
    rw [show acc'.toList.length = (b - a).toNat by simpa using hsz] at this
    simpa [rangeL, rangeInts, List.map_map, Function.comp_def] using this
end
end Mine
end
section
open PySem PySem.Spec PySem.Calls PyProof.Rows PySem.W PySem.SeqAt PySem.Builtin PySem.Builtin.Str
set_option maxRecDepth 100000
set_option linter.unusedVariables false
set_option autoImplicit false
namespace Mine
noncomputable def pick {α : Type} (ds : List α) (lo hi st : Option Int) : List α := (sliceRange (sliceBounds lo hi st ds.length).1 (sliceBounds lo hi st ds.length).2.1 (sliceBounds lo hi st ds.length).2.2).filterMap (ds[·]?)
theorem VRs.pick {B : Heap} {as : List AV} {vs : List Value} (h : VRs B as vs) : ∀ idx : List Nat, VRs B (idx.filterMap (as[·]?)) (idx.filterMap (vs[·]?))
  | [] => .nil
  | i :: idx => by
    rw [List.filterMap_cons, List.filterMap_cons]
    have := h.at i
    cases ha : as[i]? with
    | none =>
      cases hv : vs[i]? with
      | none => exact h.pick idx
      | some v => obtain ⟨a, e, _⟩ := this.2 v hv; rw [ha] at e; cases e
    | some a =>
      obtain ⟨v, e, r⟩ := this.1 a ha
      rw [e]
      exact .cons r (h.pick idx)
theorem isPart_of (x : Option (Int × Tok)) : IsPart (partValue x) (x.map (·.1)) := by cases x <;> constructor
theorem join_nil : ∀ l : List (List Nat), Str.join (S []) (l.map S) = S l.flatten
  | [] => rfl
  | [x] => by simp [Str.join]
  | x :: y :: l => by
    have ih := join_nil (y :: l)
    show S x ++ S [] ++ Str.join (S []) ((y :: l).map S) = _
    rw [ih, S_app, S_app]; simp
theorem txt_join (x : Str) (l : List Str) : Txt.join x l = Str.join x l := StrLaws.glued_eq_join x l
section
variable {prog : Program} {w : World} {h00 : Heap} {R : Shared} {A : Around} {fm : Fm} {loc : Loc} {led : Led}
theorem pick_map {α β : Type} (f : α → β) (ds : List α) (l u st : Option Int) : Mine.pick (ds.map f) l u st = (Mine.pick ds l u st).map f := by
  unfold Mine.pick
  rw [List.length_map, List.map_filterMap]
  refine congrArg (fun g => List.filterMap g _) (funext fun i => ?_)
  rw [List.getElem?_map]
theorem ItemP.pickD {ds : List PyData} {l u st : Option Int} (h0 : st ≠ some 0) (hz : ds.length ≤ sizeLine) : ItemP prog w A (.d (.list ds)) (.x (sliceHP l u st)) (.lst ((Mine.pick ds l u st).map .d)) := fun X s a v Q E lo ru rv k => by
  obtain ⟨la, o, vs, n, rfl, e, hc, hd, r⟩ := lst_of_d ru
  obtain ⟨sl, p, q, z, rfl, hs, rfl, rfl, rfl⟩ := rv
  have hl : s.heap.IsList la vs.toArray := ⟨_, hide_le _ _ e, hc, n, hd⟩
  have hlen : vs.length = (ds.map AV.d).length := r.len
  refine ⟨"list", _, hl.typeIs, F.slot_list_getitem.lookup, wpAny_getItem_list_slice (hsz := by rw [List.size_toArray, hlen, List.length_map]; exact hz) hl ⟨_, hide_le _ _ hs.choose_spec.1, hs.choose_spec.2⟩ (isPart_of p) (isPart_of q) (isPart_of z) h0 ?_⟩
  have up : ∀ o, Ext s.heap (s.heap.push o) := fun o b ob e => Heap.get?_push_of_some _ e
  have e2 : slicePick vs.toArray (p.map (·.1)) (q.map (·.1)) (z.map (·.1)) = (Mine.pick vs (p.map (·.1)) (q.map (·.1)) (z.map (·.1))).toArray := by
    unfold slicePick Mine.pick
    rw [List.size_toArray]
    simp
  rw [e2]
  refine k _ _ _ (up _) ⟨s.heap.objs.size, _, _, rfl, hideAll_get _ (Heap.get?_push_size _ rfl) fun h => absurd (lo _ h) (Nat.lt_irrefl _), ?_⟩
  rw [← pick_map]
  unfold Mine.pick
  rw [hlen]
  exact (r.mono (hide_ext (up _))).pick _
/-- a slice of told data -/
theorem PE.cutL {l u st : Option Expr} {v : Expr} {p q : Pos} {ds : List PyData} {a b c : Option Int} (hv : PE prog w h00 R A fm loc led v (.d (.list ds))) (hl : PPart prog w h00 R A fm loc led l a) (hu : PPart prog w h00 R A fm loc led u b) (hs : PPart prog w h00 R A fm loc led st c) (h0 : c ≠ some 0) (hz : ds.length ≤ sizeLine)
    (hsl : ∀ u' v', subscripted (.Slice l u st p) false u' v' = operate [u', v'] (getItem u' v') ∨ subscripted (.Slice l u st p) false u' v' = operate [v', u'] (getItem u' v') := by first | exact fun _ _ => .inl rfl | exact fun _ _ => .inr rfl) : PE prog w h00 R A fm loc led (.Subscript v (.Slice l u st p) q) (.d (.list (Mine.pick ds a b c))) :=
  (PE.item (pos := q) hv (PE.slice (pos := p) hl hu hs) (ItemP.pickD (prog := prog) (w := w) (A := A) (ds := ds) h0 hz) hsl).mono fun B v r => d_of_lst r
theorem Op2.fdiv {a b : Int} (hb : b ≠ 0) (hs : b.natAbs < 1073741824) : Op2 prog w A (binaryOp .FloorDiv) (.d (.int a)) (.d (.int b)) (.d (.int (a.fdiv b))) := .ints fun s u v Q E k => floordiv_int hb (k _ _ fun _ => vr_int) (.inl (PyProof.noPylong_small hs))
theorem Op2.pow {a : Int} {n : Nat} (hn : n ≤ 1000) (ha : a.natAbs < 1000) : Op2 prog w A (binaryOp .Pow) (.d (.int a)) (.d (.int n)) (.d (.int (a ^ n))) := .ints fun s u v Q E k => pow_int_small (by omega) (by omega) (by omega) (k _ _ fun _ => by rw [Int.toNat_natCast]; exact vr_int)
theorem strsAre_of {B : Heap} : ∀ {l : List (List Nat)} {vs : List Value}, VRs B ((l.map strD).map .d) vs → StrsAre vs (l.map S)
  | [], _, .nil => .nil
  | x :: l, _, .cons r rs => by
    obtain ⟨t, rfl⟩ := reads_str r
    exact .cons _ _ (strsAre_of rs)
theorem CallP.join {l : List (List Nat)} (hz : (l.map (·.length)).sum ≤ 16777216) : CallP prog w h00 R A (.builtin "str.join") [.d (.str (S [])), .d (strsD l)] (.d (.str (S l.flatten))) := fun X s vals Q E B rv k => by
  cases rv with
  | cons r rs => cases rs with
    | cons r2 rs =>
      cases rs
      obtain ⟨t, rfl⟩ := reads_str r
      obtain ⟨a, o, vs, n, rfl, e, hc, hd, r2⟩ := lst_of_d r2
      refine join_list (items := vs.toArray) ⟨_, hide_le _ _ e, hc, n, hd⟩ (strsAre_of r2) ?_ fun t' k' => ?_
      · rw [show (S []).length = 0 from rfl, Nat.mul_zero, Nat.add_zero, List.map_map]
        rw [show (Str.length ∘ S) = List.length from funext fun x => S_len x]; exact hz
      · rw [txt_join, join_nil]; exact k _ s.heap _ Ext.rfl vr_str
end
end Mine
end
section
open PySem PySem.Spec PySem.Calls PyProof.Rows PySem.W PySem.SeqAt PySem.Builtin PySem.Builtin.Str
set_option maxRecDepth 100000
set_option linter.unusedVariables false
set_option autoImplicit false
namespace Mine
/-- a told dict of names, with one name told anew -/
noncomputable def putE (name : Str) (av : AV) : List (Str × AV) → List (Str × AV)
  | [] => [(name, av)]
  | (k, a) :: es => if k == name then (k, av) :: es else (k, a) :: putE name av es
theorem EntsAre.find {P : Params} {B : Heap} {name : Str} {av : AV} : ∀ {es : List (Str × AV)} {l : List DictEntry}, EntsAre P B es l → es.lookup name = some av → ∃ e, l.find? (·.key.isStr name) = some e ∧ VR B av e.val
  | _, _, .cons (k := k) (v := v) r rs, h => by
    rw [List.lookup_cons] at h
    by_cases q : name = k
    · subst q
      simp at h; subst h
      exact ⟨⟨_, .str name _, _⟩, List.find?_cons_of_pos (by simp [Value.isStr]), r⟩
    · rw [show (name == k) = false by simpa using q] at h
      obtain ⟨e, h1, h2⟩ := rs.find h
      refine ⟨e, ?_, h2⟩
      rw [List.find?_cons, show (Value.str k _).isStr name = false by simpa [Value.isStr] using fun z => q z.symm]
      exact h1
theorem EntsAre.put {P : Params} {B : Heap} {name : Str} {av : AV} {v : Value} {t : Tok} (r : VR B av v) : ∀ {es : List (Str × AV)} {l : List DictEntry}, EntsAre P B es l → EntsAre P B (putE name av es) (putL name (PyData.keyHash P name) (.str name t) v l)
  | _, _, .nil => .cons r .nil
  | _, _, .cons (k := k) (av := a) (t := u) (v := x) (es := es) (l := l) r' rs => by
    unfold putE putL
    by_cases q : k = name
    · subst q
      simp only [Value.isStr, beq_self_eq_true, if_true]
      exact .cons r rs
    · have h1 : (k == name) = false := by simpa using q
      have h2 : (Value.str k u).isStr name = false := by simpa [Value.isStr] using q
      simp only [h1, h2, Bool.false_eq_true, if_false]
      exact .cons r' (rs.put r)
theorem EntsAre.len {P : Params} {B : Heap} {es : List (Str × AV)} {l : List DictEntry} (h : EntsAre P B es l) : l.length = es.length := by
  induction h with
  | nil => rfl
  | cons _ _ ih => simp [ih]
theorem putE_len (name : Str) (av : AV) : ∀ es : List (Str × AV), (putE name av es).length ≤ es.length + 1
  | [] => by simp [putE]
  | (k, a) :: es => by unfold putE; split <;> simp; exact putE_len name av es
theorem EntsAre.noRef {P : Params} {B : Heap} {es : List (Str × AV)} {l : List DictEntry} (h : EntsAre P B es l) : l.any (·.refKey) = false := by
  induction h with
  | nil => rfl
  | cons _ _ ih => rw [List.any_cons, ih]; rfl
theorem EntsAre.get {P : Params} {B : Heap} {name : Str} {es : List (Str × AV)} {l : List DictEntry} (h : EntsAre P B es l) : (getL name l).isSome = true := by
  unfold getL
  split
  · rfl
  · rw [h.noRef]; rfl
section
variable {prog : Program} {w : World} {A : Around} {E : Value → Shared → Prop} {s : Shared} {K : Frag} {x dx C : Addr} {l : List DictEntry} {n : Nat} {name : Str} {v : Value}
theorem inst_at (hx : s.heap.get? x = some (instObj C dx)) (hd : s.heap.get? dx = some (dictOf l n)) : InstAt s.heap x (instObj C dx) C (some (dictOf l n)) := ⟨hx, rfl, rfl, hd⟩
theorem osa_own {tk : Tok} {R : Result → Shared → Prop} (X : K.In s.heap) (hx : s.heap.get? x = some (instObj C dx)) (hd : s.heap.get? dx = some (dictOf l n))
    (hp : plainOver K C = true) (ht : takerIn K C name = some none) (hh : hasDictIn K C = true) (hl : (getL name l).isSome = true) (hz : l.length < 900)
    (h : ∀ h' n', (∀ b o, b ≠ dx → s.heap.get? b = some o → h'.get? b = some o) → h'.get? dx = some (dictOf (putL name (PyData.keyHash w.params name) (.str name s.toks) v l) n') → R (.ok (.ret .none)) { s with heap := h', toks := s.toks + 1 }) :
    codeAny (model prog w) A (.call (.builtin "object.__setattr__") ⟨[.ref x, .str name tk, v], []⟩) R s := by
  have I := inst_at hx hd
  refine osa_open X I hp ht fun b => ?_
  obtain ⟨cd, hc, hd'⟩ := any_some hh
  refine wpAny_bind (wpAny_pure (wpAny_bind (wpAny_bind (wpAny_loadPart hx (wpAny_bind ((looks_clsIn X hc).here ?_))))))
  rw [hd']
  refine wpAny_pure (a := some dx) (wpAny_bind (wpAny_pure (wpAny_bind ?_)))
  unfold nsSet
  refine wpAny_bind (wpAny_bind (wpAny_askSetting (wpAny_pure (wpAny_bind (wpAny_mkText (wpAny_bind (wpAny_loadPart hd ?_)))))))
  dsimp only
  have c : (!l.toArray.any (·.key.isStr name) && l.toArray.any (·.refKey)) = false := by
    rw [← Array.any_toList, ← Array.any_toList]
    unfold getL at hl
    split at hl
    · rename_i en he
      rw [List.any_eq_true.mpr ⟨en, List.mem_of_find?_eq_some he, List.find?_some he⟩]; rfl
    · split at hl
      · cases hl
      · rename_i z; rw [Bool.not_eq_true] at z; rw [z, Bool.and_false]
  rw [aRefKeyMayBeTheName_at, c]
  have e := putName_dict name (PyData.keyHash w.params name) (.str name s.toks) v l n
  have hlen : (putL name (PyData.keyHash w.params name) (.str name s.toks) v l).length ≤ l.length + 1 := by
    clear e c hl hd I hx h
    induction l with
    | nil => simp [putL]
    | cons a l ih => unfold putL; split <;> simp; exact ih (by simp at hz; omega)
  have g : (s.heap.update dx (Obj.putName name (PyData.keyHash w.params name) (.str name s.toks) v)).get? dx = some (dictOf (putL name (PyData.keyHash w.params name) (.str name s.toks) v l) (putN name l n)) := by
    rw [Heap.get?_update_self _ hd (by rw [e]; rfl), e]
  refine wpAny_updatePart hd ?_
  refine wpAny_bind (wpAny_lookBehind g (by exact pastItsLine_dict (by rw [List.size_toArray, sizeLine_eq]; omega)) ?_)
  exact wpAny_pure (h _ _ (fun b o hb eb => (Heap.get?_update_ne _ _ _ _ hb).trans eb) g)
/-- an attribute stored in an object's own dict -/
theorem setAttr_dict {Q : Unit → Shared → Prop} (X : K.In s.heap) (hx : s.heap.get? x = some (instObj C dx)) (hd : s.heap.get? dx = some (dictOf l n))
    (hs : findIn K (.ref C) "__setattr__" = some (some (.builtin "object.__setattr__"))) (hp : plainOver K C = true) (ht : takerIn K C name = some none) (hh : hasDictIn K C = true) (hl : (getL name l).isSome = true) (hz : l.length < 900)
    (h : ∀ h' n' tk, (∀ b o, b ≠ dx → s.heap.get? b = some o → h'.get? b = some o) → h'.get? dx = some (dictOf (putL name (PyData.keyHash w.params name) (.str name (s.toks + 1)) v l) n') → Q () { s with heap := h', toks := tk }) :
    wpAny (model prog w) A (setAttr (.ref x) name v) Q E s :=
  set_plain X (inst_at hx hd) hs (osa_own (s := { s with toks := s.toks + 1 }) X hx hd hp ht hh hl hz fun h' n' k g => h h' n' _ k g)
end
section
variable {prog : Program} {w : World} {h00 : Heap} {R : Shared} {A : Around} {fm : Fm} {loc : Loc} {led : Led} {K : Frag} {x dx C : Addr} {es : List (Str × AV)} {name : Str}
theorem St.inst {P : Params} {s : Shared} (D : St P h00 R fm loc led s) (hx : (x, .inst C dx) ∈ led) (hd : (dx, .dict es) ∈ led) :
    ∃ l n, s.heap.get? x = some (instObj C dx) ∧ s.heap.get? dx = some (dictOf l n) ∧ EntsAre P (vis fm led s.heap) es l := by
  obtain ⟨o, h1, h2⟩ := D.ld _ hx
  obtain ⟨o', h3, l, n, rfl, h4⟩ := D.ld _ hd
  cases h2
  exact ⟨l, n, h1, h3, h4⟩
/-- a told value that is handed out as it is -/
noncomputable def Handed (av : AV) : Prop := ∀ B v, VR B av v → handedIn v = true
theorem Handed.ref {a : Addr} : Handed (.raw (.ref a)) := fun B v h => by cases h; rfl
theorem Handed.none : Handed (.d .none) := fun B v h => by obtain ⟨as, h⟩ := h; cases h; rfl
theorem Handed.int {i : Int} : Handed (.d (.int i)) := fun B v h => by obtain ⟨t, rfl⟩ := reads_int h; rfl
theorem Handed.str {x : Str} : Handed (.d (.str x)) := fun B v h => by obtain ⟨t, rfl⟩ := reads_str h; rfl
/-- an attribute of an object's own -/
theorem PE.attr {e : Expr} {pos : Pos} {av : AV} {attr : Option Value} (X : K.In h00) (he : PE prog w h00 R A fm loc led e (.raw (.ref x))) (hx : (x, .inst C dx) ∈ led) (hd : (dx, .dict es) ∈ led) (hl : es.lookup name = some av) (hv : Handed av)
    (hg : plainGet K C name = true) (hh : hasDictIn K C = true) (ha : findIn K (.ref C) name = some attr) (hn : noGet K attr = true)
    (hb : eval (.Attribute e name pos) fm.env = (do
      let o ← eval e fm.env
      standAt pos.atName
      let r ← holding [o] (getAttr o name true)
      letTemporaryGo e o r
      Pure.pure r) := by rfl) : PE prog w h00 R A fm loc led (.Attribute e name pos) av := PE.attrX he (fun s D Q E k => by
    obtain ⟨l, n, h1, h2, h3⟩ := D.inst hx hd
    obtain ⟨en, h4, h5⟩ := h3.find hl
    have hl' : lookIn name (dictOf l n) = some (some en.val) := by rw [lookIn_dict]; unfold getL; rw [h4]
    exact get_value (D.K X) (inst_at h1 h2) (plainGet_of hg).1 (findObj_own hh ha hn hl') (hv _ _ h5) (k _ s.heap _ Ext.rfl h5)) hb
/-- an attribute stored -/
theorem TX.setAttr {o value : Expr} {apos pos : Pos} {Φ : AF → Loc → Led → Prop} (X : K.In h00)
    (hv : TE prog w h00 R A fm loc led value fun av l1 d1 => PE prog w h00 R A fm l1 d1 o (.raw (.ref x)) ∧ (x, .inst C dx) ∈ d1 ∧ ∃ es, (dx, .dict es) ∈ d1 ∧ es.length < 900 ∧ Φ .next l1 (upd d1 dx (.dict (putE name av es))))
    (hs : findIn K (.ref C) "__setattr__" = some (some (.builtin "object.__setattr__"))) (hp : plainOver K C = true) (ht : takerIn K C name = some none) (hh : hasDictIn K C = true)
    (hsw : swapsWith value (some (.Attribute o name apos)) pos.line fm.env = Pure.pure false := by rfl) : TX prog w h00 R A fm loc led (.Assign [.Attribute o name apos] value pos) Φ := fun s D Q E q => by
  refine plainObj_wpAny_Assign_Attribute (hv s D _ _ fun v s1 av l1 d1 S1 D1 r1 p => ?_) hsw
  obtain ⟨ho, hx, es, hd, hz, fin⟩ := p
  refine ho s1 D1 _ _ fun u h2 t2 k2 r2 => ?_
  cases r2
  have D2 := D1.quiet (tk := t2) k2
  obtain ⟨l, n, h1, h3, h4⟩ := D2.inst hx hd
  have hlen := h4.len
  refine setAttr_dict (D2.K X) h1 h3 hs hp ht hh h4.get (by rw [hlen]; exact hz) fun h' n' tk k g => ?_
  obtain ⟨D3, S3⟩ := D2.put (ao := .dict (putE name av es)) (h' := h') (tk := tk) (mem_addr hd) k g ⟨_, _, rfl, h4.put (r1.mono (hide_ext k2))⟩ ⟨_, h3, fun u => by simp⟩
  exact q _ _ .next _ _ (S1.trans (D1.step k2 S3)) D3 rfl fin
/-- a method of an object's class -/
theorem MethX.inst {f : Addr} (X : K.In h00) (hx : (x, .inst C dx) ∈ led) (hd : (dx, .dict es) ∈ led) (hn : es.lookup name = none) (hg : plainGet K C name = true) (hf : findIn K (.ref C) name = some (some (.ref f))) (ht : isFn K (.ref f) = true) :
    MethX prog w h00 R A fm loc led (.ref x) name (.ref f) [.ref x] := fun s D pl Q E k => by
  obtain ⟨l, n, h1, h2, h3⟩ := D.inst hx hd
  have hno : getL name l = some none := by
    unfold getL
    have : l.find? (fun x => x.key.isStr name) = none := by
      clear h1 h2 hd
      induction h3 with
      | nil => rfl
      | cons r rs ih =>
        rename_i k' a t v es' l'
        rw [List.lookup_cons] at hn
        by_cases q : name = k'
        · subst q; simp at hn
        · rw [show (name == k') = false by simpa using q] at hn
          rw [List.find?_cons, show (Value.str k' t).isStr name = false by simpa [Value.isStr] using fun z => q z.symm]
          exact ih hn
    rw [this, h3.noRef]; rfl
  refine method_fn (D.K X) (inst_at h1 h2) (plainGet_of hg).1 (plainGet_of hg).2 hf (beq_iff_eq.mp ht) ?_ (k s.toks)
  show (lookIn name (dictOf l n)).map _ = _
  rw [lookIn_dict, hno]; rfl
theorem Roomy.make {d u : Nat} (h : Roomy d u A) (C : Addr) (vals : List Value) : Roomy (d + 5) (u + 5) (A.under (.builtin "type.__call__" ⟨.ref C :: vals, []⟩)) := by
  refine ⟨h.h, ?_, ?_⟩
  · rw [depth_under_make]; have := h.d; omega
  · rw [units_under_make]; have := h.u; omega
/-- an object made: its __init__ in a frame of its own -/
theorem CallT.new {f : Addr} {fd : FuncData} {oc : Value} {od : Option Addr} {osl : Array (Option Value)} {body : List Stmt} {names : List Str} {args : List AV} {Φ : AV → Led → Prop} {d u : Nat}
    (X : K.In h00) (T : ∃ p loose mg mb, TopRead p loose mg mb h00) (hA : Roomy d u A) (hd : d + 305 ≤ recursionLimit)
    (hm : makesIn K C = true) (hi : findIn K (.ref C) "__init__" = some (some (.ref f))) (hf : isFn K (.ref f) = true)
    (ho : K.lookup f = some ⟨oc, od, .func fd, osl⟩) (hcd : codeIn K fd.code fd.qualname = true) (hbody : fd.body = .stmts body) (hclo : fd.closure = [])
    (hbind : ∀ vals : List Value, vals.length = args.length + 1 → bindArgs fd ⟨vals, []⟩ = Pure.pure (names.zip vals)) (hnd : names.Nodup)
    (hkind : (names.all fun x => fd.scope.names.lookup x == some .local || fd.scope.names.lookup x == some .cell) = true)
    (hown : ((cellsFrom 0 fd.scope.names []).map (·.1)).Nodup)
    (go : ∀ x dx L hid A', dx ≠ x → x ∉ led.map (·.1) → dx ∉ led.map (·.1) → Roomy (d + 5) (u + 5) A' → TS prog w h00 R (A'.deeper (callEnvC fd L f)) (fmOf fd L f hid) (names.zip (.raw (.ref x) :: args)) [(x, .inst C dx), (dx, .dict [])] body fun af _ dd => (af = .next ∨ af = .ret (.d .none)) ∧ Φ (.raw (.ref x)) (led ++ dd))
    (hco : fd.scope.isCoroutine = false := by rfl) (hgen : fd.scope.isGenerator = false := by rfl) (hk : fd.scope.kind = .function := by rfl) : CallT prog w h00 R A fm loc led (.ref C) args Φ := fun s D vals rv Q E q => by
  obtain ⟨p, loose, mg, mb, T⟩ := T
  obtain ⟨h, g, dr, t, os⟩ := s
  have gone : h.get? h.objs.size = none := by
    cases e : h.get? h.objs.size with
    | none => rfl
    | some o => exact absurd (Heap.lt_size e) (Nat.lt_irrefl _)
  have k1 : Ext h (h.push emptyDict) := fun b o e => Heap.get?_push_of_some _ e
  have gone2 : (h.push emptyDict).get? (h.objs.size + 1) = none := by
    cases e : (h.push emptyDict).get? (h.objs.size + 1) with
    | none => rfl
    | some o => have := Heap.lt_size e; rw [Heap.size_push] at this; exact absurd this (Nat.lt_irrefl _)
  have k2 : Ext (h.push emptyDict) ((h.push emptyDict).push (instObj C h.objs.size)) := fun b o e => Heap.get?_push_of_some _ e
  obtain ⟨D1, S1⟩ := D.add (ao := .dict []) (tk := t) gone k1 (Heap.get?_push_size _ rfl) ⟨[], 0, rfl, .nil⟩
  obtain ⟨D2, S2⟩ := D1.add (a := h.objs.size + 1) (ao := .inst C h.objs.size) (tk := t) gone2 k2 (by have := Heap.get?_push_size (h.push emptyDict) (o := instObj C h.objs.size) rfl; rwa [Heap.size_push] at this) rfl
  refine wpAny_call (make_core (makes_of (D.K X) hm) (looks_findIn (D.K X) hi) (fun self => bind_fn (D.K X) self (beq_iff_eq.mp hf)) (.inl rfl) ?_)
  have D3 : St w.params h00 R fm loc (led ++ [(h.objs.size + 1, .inst C h.objs.size), (h.objs.size, .dict [])]) { heap := (h.push emptyDict).push (instObj C h.objs.size), gens := g, drawn := dr, toks := t, os := os } := St.swap (l1 := [(h.objs.size + 1, .inst C h.objs.size), (h.objs.size, .dict [])]) (l2 := led) D2
  have S12 := S1.trans S2
  have S3 : Step fm led (led ++ [(h.objs.size + 1, .inst C h.objs.size), (h.objs.size, .dict [])]) { heap := h, gens := g, drawn := dr, toks := t, os := os } { heap := (h.push emptyDict).push (instObj C h.objs.size), gens := g, drawn := dr, toks := t, os := os } := by
    have hm : ∀ a, a ∈ (led ++ [(h.objs.size + 1, AO.inst C h.objs.size), (h.objs.size, .dict [])]).map (·.1) → a ∈ ((h.objs.size + 1, AO.inst C h.objs.size) :: (h.objs.size, .dict []) :: led).map (·.1) := fun a ha => by
      simp only [List.map_append, List.map_cons, List.map_nil, List.mem_append, List.mem_cons, List.not_mem_nil, or_false] at ha ⊢
      rcases ha with z | z | z
      · exact .inr (.inr z)
      · exact .inl z
      · exact .inr (.inl z)
    exact ⟨S12.keep, fun a ha => S12.new a (hm a ha), fun a ha => S12.off a (hm a ha), S12.turn⟩
  have rv3 : VRs (vis fm (led ++ [(h.objs.size + 1, .inst C h.objs.size), (h.objs.size, .dict [])]) ((h.push emptyDict).push (instObj C h.objs.size))) (.raw (.ref (h.objs.size + 1)) :: args) (.ref (h.objs.size + 1) :: vals) := .cons rfl (rv.mono S3.ext)
  have hA2 := hA.make C vals
  have n2 : h.objs.size ∉ led.map (·.1) := fun hm => by obtain ⟨o, ho⟩ := D.bs.there _ (away_mem.mpr (.inr (.inr (.inl hm)))); rw [gone] at ho; cases ho
  have n1 : h.objs.size + 1 ∉ led.map (·.1) := fun hm => by obtain ⟨o, ho⟩ := D.bs.there _ (away_mem.mpr (.inr (.inr (.inl hm)))); exact absurd (Heap.lt_size ho) (Nat.not_lt.mpr (Nat.le_succ _))
  refine St.of_def (args := .raw (.ref (h.objs.size + 1)) :: args) (led1 := [(h.objs.size + 1, .inst C h.objs.size), (h.objs.size, .dict [])]) (led2 := led) (Φ := fun av dd => av = .d .none ∧ Φ (.raw (.ref (h.objs.size + 1))) dd) X T ho hcd (by have := hA2.d; omega) hbody hclo (by simpa using hbind) hnd (kind_of hkind) (own_of hown)
    (fun L hid => TS.mono (go (h.objs.size + 1) h.objs.size L hid _ (Nat.ne_of_lt (Nat.lt_succ_self _)) n1 n2 hA2) fun af _ dd z => ?_) D3 rv3 (fun v s' av led' S4 D4 r4 p4 => ?_) hco hgen hk
  · rcases z.1 with rfl | rfl
    · exact ⟨.d .none, ⟨rfl, z.2⟩, .inr ⟨rfl, rfl⟩⟩
    · exact ⟨.d .none, ⟨rfl, z.2⟩, .inl rfl⟩
  · obtain ⟨rfl, p4⟩ := p4
    obtain ⟨as, r4⟩ := r4
    cases r4
    exact ⟨rfl, q _ s' (.raw (.ref (h.objs.size + 1))) led' (S3.trans S4) D4 rfl p4⟩
end
end Mine
end
section
open PySem PySem.Spec PySem.Calls PyProof.Rows PySem.W PySem.SeqAt PySem.Builtin PySem.Builtin.Str
set_option maxRecDepth 100000
set_option linter.unusedVariables false
set_option autoImplicit false
namespace Mine
/-- a value, and objects that stay behind it -/
noncomputable def ledHP (P : Params) (x : Value) (L : Led) : HP := ⟨fun B v => v = x ∧ ∀ p ∈ L, ∃ o, B.get? p.1 = some o ∧ OR P B p.2 o, fun B B' v k ⟨e, h⟩ => ⟨e, fun p hp => by obtain ⟨o, h1, h2⟩ := h p hp; exact ⟨o, k _ _ h1, h2.mono k⟩⟩⟩
/-- one of many -/
noncomputable def anyHP {ι : Type} (f : ι → HP) : HP := ⟨fun B v => ∃ i, (f i).says B v, fun B B' v k ⟨i, h⟩ => ⟨i, (f i).mono _ _ _ k h⟩⟩
section
variable (P : Params) (h00 : Heap) (R : Shared) (fm : Fm) (loc : Loc) (led : Led)
/-- an object that is known to lie there, in the ledger or behind a told name -/
noncomputable def Has (a : Addr) (ao : AO) : Prop := ∀ s, St P h00 R fm loc led s → ∃ o, s.heap.get? a = some o ∧ OR P (vis fm led s.heap) ao o
end
section
variable {prog : Program} {w : World} {h00 : Heap} {R : Shared} {A : Around} {fm : Fm} {loc : Loc} {led : Led} {K : Frag} {x dx C : Addr} {es : List (Str × AV)} {name : Str}
theorem Has.ofLed {a : Addr} {ao : AO} (h : (a, ao) ∈ led) : Has w.params h00 R fm loc led a ao := fun s D => D.ld _ h
theorem St.told {P : Params} {s : Shared} {y : Str} {av : AV} (D : St P h00 R fm loc led s) (h : loc.lookup y = some av) : ∃ v, VR (vis fm led s.heap) av v := by
  by_cases l : fm.env.kindOf y = some .local
  · obtain ⟨m, hn, h2⟩ := D.ns; obtain ⟨v, _, r⟩ := h2 y av h l; exact ⟨v, r⟩
  · obtain ⟨c, v, _, _, r⟩ := D.cel y av h l; exact ⟨v, r⟩
theorem Has.ofLoc {y : Str} {u : Value} {L : Led} {a : Addr} {ao : AO} (h : loc.lookup y = some (.x (ledHP w.params u L))) (hm : (a, ao) ∈ L) : Has w.params h00 R fm loc led a ao := fun s D => by
  obtain ⟨v, _, r⟩ := D.told h
  obtain ⟨o, h1, h2⟩ := r _ hm
  exact ⟨o, hide_le _ _ h1, h2⟩
theorem TS.open {ι : Type} {f : ι → HP} {y : Str} {ss : List Stmt} {Φ : AF → Loc → Led → Prop} (h : loc.lookup y = some (.x (anyHP f))) (k : ∀ i, TS prog w h00 R A fm ((y, .x (f i)) :: loc) led ss Φ) : TS prog w h00 R A fm loc led ss Φ := fun s D Q E q => by
  have look : ∀ {i : ι} {z : Str} {a : AV}, (((y, AV.x (f i)) :: loc) : Loc).lookup z = some a → (z = y ∧ a = .x (f i)) ∨ (z ≠ y ∧ loc.lookup z = some a) := fun {i z a} e => by
    rw [List.lookup_cons] at e
    by_cases q : z = y
    · subst q; simp at e; exact .inl ⟨rfl, e.symm⟩
    · rw [show (z == y) = false by simpa using q] at e; exact .inr ⟨q, e⟩
  by_cases l : fm.env.kindOf y = some .local
  · obtain ⟨m, hn, h2⟩ := D.ns
    obtain ⟨v, hv, i, r⟩ := h2 y _ h l
    refine k i s ⟨D.base, ⟨m, hn, fun z a e lz => ?_⟩, fun z a e lz => ?_, D.ld, D.nd, D.own, D.low, D.gens, D.drawn, D.os, D.dis, D.fr⟩ Q E q
    · rcases look e with ⟨rfl, rfl⟩ | ⟨_, e⟩
      · exact ⟨v, hv, r⟩
      · exact h2 z a e lz
    · rcases look e with ⟨rfl, rfl⟩ | ⟨_, e⟩
      · exact absurd l lz
      · exact D.cel z a e lz
  · obtain ⟨c, v, hc, hi, i, r⟩ := D.cel y _ h l
    refine k i s ⟨D.base, ?_, fun z a e lz => ?_, D.ld, D.nd, D.own, D.low, D.gens, D.drawn, D.os, D.dis, D.fr⟩ Q E q
    · obtain ⟨m, hn, h2⟩ := D.ns
      refine ⟨m, hn, fun z a e lz => ?_⟩
      rcases look e with ⟨rfl, rfl⟩ | ⟨_, e⟩
      · exact absurd lz l
      · exact h2 z a e lz
    · rcases look e with ⟨rfl, rfl⟩ | ⟨_, e⟩
      · exact ⟨c, v, hc, hi, r⟩
      · exact D.cel z a e lz
theorem PE.ledName {y : Str} {pos : Pos} {u : Value} {L : Led} (h : PE prog w h00 R A fm loc led (.Name y pos) (.x (ledHP w.params u L))) : PE prog w h00 R A fm loc led (.Name y pos) (.raw u) := h.mono fun B v r => r.1
theorem Has.inst {s : Shared} (D : St w.params h00 R fm loc led s) (hx : Has w.params h00 R fm loc led x (.inst C dx)) (hd : Has w.params h00 R fm loc led dx (.dict es)) :
    ∃ l n, s.heap.get? x = some (instObj C dx) ∧ s.heap.get? dx = some (dictOf l n) ∧ EntsAre w.params (vis fm led s.heap) es l := by
  obtain ⟨o, h1, h2⟩ := hx s D
  obtain ⟨o', h3, l, n, rfl, h4⟩ := hd s D
  cases h2
  exact ⟨l, n, h1, h3, h4⟩
theorem PE.attrH {e : Expr} {pos : Pos} {av : AV} {attr : Option Value} (X : K.In h00) (he : PE prog w h00 R A fm loc led e (.raw (.ref x))) (hx : Has w.params h00 R fm loc led x (.inst C dx)) (hd : Has w.params h00 R fm loc led dx (.dict es)) (hl : es.lookup name = some av) (hv : Handed av)
    (hg : plainGet K C name = true) (hh : hasDictIn K C = true) (ha : findIn K (.ref C) name = some attr) (hn : noGet K attr = true)
    (hb : eval (.Attribute e name pos) fm.env = (do
      let o ← eval e fm.env
      standAt pos.atName
      let r ← holding [o] (getAttr o name true)
      letTemporaryGo e o r
      Pure.pure r) := by rfl) : PE prog w h00 R A fm loc led (.Attribute e name pos) av := PE.attrX he (fun s D Q E k => by
    obtain ⟨l, n, h1, h2, h3⟩ := Has.inst D hx hd
    obtain ⟨en, h4, h5⟩ := h3.find hl
    have hl' : lookIn name (dictOf l n) = some (some en.val) := by rw [lookIn_dict]; unfold getL; rw [h4]
    exact get_value (D.K X) (inst_at h1 h2) (plainGet_of hg).1 (findObj_own hh ha hn hl') (hv _ _ h5) (k _ s.heap _ Ext.rfl h5)) hb
theorem EntsAre.no {P : Params} {B : Heap} {l : List DictEntry} (h3 : EntsAre P B es l) (hn : es.lookup name = none) : getL name l = some none := by
  unfold getL
  have : l.find? (fun x => x.key.isStr name) = none := by
    induction h3 with
    | nil => rfl
    | cons r rs ih =>
      rename_i k' a t v es' l'
      rw [List.lookup_cons] at hn
      by_cases q : name = k'
      · subst q; simp at hn
      · rw [show (name == k') = false by simpa using q] at hn
        rw [List.find?_cons, show (Value.str k' t).isStr name = false by simpa [Value.isStr] using fun z => q z.symm]
        exact ih hn
  rw [this, h3.noRef]; rfl
theorem MethX.instH {f : Addr} (X : K.In h00) (hx : Has w.params h00 R fm loc led x (.inst C dx)) (hd : Has w.params h00 R fm loc led dx (.dict es)) (hn : es.lookup name = none) (hg : plainGet K C name = true) (hf : findIn K (.ref C) name = some (some (.ref f))) (ht : isFn K (.ref f) = true) :
    MethX prog w h00 R A fm loc led (.ref x) name (.ref f) [.ref x] := fun s D pl Q E k => by
  obtain ⟨l, n, h1, h2, h3⟩ := Has.inst D hx hd
  refine method_fn (D.K X) (inst_at h1 h2) (plainGet_of hg).1 (plainGet_of hg).2 hf (beq_iff_eq.mp ht) ?_ (k s.toks)
  show (lookIn name (dictOf l n)).map _ = _
  rw [lookIn_dict, h3.no hn]; rfl
theorem Handed.lst {xs : List AV} : Handed (.lst xs) := fun B v ⟨a, vs, n, e, _⟩ => by subst e; rfl
end
end Mine
end
section
open PySem PySem.Spec PySem.Calls PyProof.Rows PySem.W PySem.SeqAt PySem.Builtin PySem.Builtin.Str PySem.Builtin.ObjectAttr PySem.Builtin.Getset_descriptor
set_option maxRecDepth 100000
set_option linter.unusedVariables false
set_option autoImplicit false
set_option maxHeartbeats 2000000
namespace Mine
theorem OVs.at_ {B : Heap} {av : AV} : ∀ {as : List (Option AV)} {vs : List (Option Value)} {i : Nat}, OVs B as vs → as[i]? = some (some av) → ∃ v, vs[i]? = some (some v) ∧ VR B av v
  | _, _, 0, .set r _, h => by cases h; exact ⟨_, rfl, r⟩
  | _, _, 0, .unset _, h => by cases h
  | _, _, i + 1, .set _ rs, h => rs.at_ h
  | _, _, i + 1, .unset rs, h => rs.at_ h
noncomputable def putSlot {α : Type} (i : Nat) (a : α) (l : List (Option α)) : List (Option α) := (l ++ List.replicate (i + 1 - l.length) none).set i (some a)
theorem OVs.len {B : Heap} {as vs} (h : OVs B as vs) : vs.length = as.length := by
  induction h with
  | nil => rfl
  | unset _ ih => simp [ih]
  | set _ _ ih => simp [ih]
theorem OVs.more {B : Heap} {as vs} (h : OVs B as vs) (k : Nat) : OVs B (as ++ List.replicate k none) (vs ++ List.replicate k none) := by
  induction h with
  | nil => induction k with
    | zero => exact .nil
    | succ k ih => exact .unset ih
  | unset _ ih => exact .unset ih
  | set r _ ih => exact .set r ih
theorem OVs.setAt {B : Heap} {av : AV} {v : Value} (r : VR B av v) {as vs} (h : OVs B as vs) (i : Nat) : OVs B (as.set i (some av)) (vs.set i (some v)) := by
  induction h generalizing i with
  | nil => exact .nil
  | unset h ih => cases i with
    | zero => exact .set r h
    | succ i => exact .unset (ih i)
  | set q h ih => cases i with
    | zero => exact .set r h
    | succ i => exact .set q (ih i)
theorem OVs.put {B : Heap} {av : AV} {v : Value} (r : VR B av v) {as vs} (h : OVs B as vs) (i : Nat) : OVs B (putSlot i av as) (putSlot i v vs) := by
  unfold putSlot; rw [h.len]; exact (h.more _).setAt r i
noncomputable def asSlots : AO → Option (Addr × Addr × List (Option AV))
  | .inst C dx => some (C, dx, [])
  | .slots C dx vs => some (C, dx, vs)
  | _ => none
theorem OR.asSlots {P : Params} {B : Heap} {C dx : Addr} {vs : List (Option AV)} : ∀ {ao : AO} {o : Obj}, OR P B ao o → Mine.asSlots ao = some (C, dx, vs) → ∃ ws : List (Option Value), o = { cls := .ref C, dict := some dx, data := .plain, slots := ws.toArray } ∧ OVs B vs ws := by
  intro ao o h e
  cases ao with
  | inst C' dx' => injection e with e; injection e with e1 e; injection e with e2 e3; subst e1 e2 e3; exact ⟨[], h, .nil⟩
  | slots C' dx' vs' => injection e with e; injection e with e1 e; injection e with e2 e3; subst e1 e2 e3; exact h
  | list _ => cases e
  | dict _ => cases e
  | sset _ => cases e
  | dead => cases e
  | liter _ _ => cases e
  | bnext _ => cases e
section
variable {prog : Program} {w : World} {A : Around} {E : Value → Shared → Prop} {s : Shared} {K : Frag} {x dx C p : Addr} {od : Option Obj} {name : Str} {v : Value} {i : Nat} {R : Result → Shared → Prop}
/-- a slot stored: just the object itself changes -/
theorem mset_own {ox : Obj} (X : K.In s.heap) (I : InstAt s.heap x ox C od) (hp : slotIn K p C = some i) (hi : i < 1000) (hz : ox.isFreed = false) (hg : ∀ sl, ({ ox with slots := sl } : Obj).isFreed = false)
    (h : ∀ h', (∀ b o, b ≠ x → s.heap.get? b = some o → h'.get? b = some o) → h'.get? x = some { ox with slots := (ox.slots ++ Array.replicate (i + 1 - ox.slots.size) none).setIfInBounds i (some v) } → R (.ok (.ret .none)) { s with heap := h' }) :
    codeAny (model prog w) A (.call (.builtin "member_descriptor.__set__") ⟨[.ref p, .ref x, v], []⟩) R s := by
  obtain ⟨n, tn, owner, behind, tb, d, sl, cd, ho, hc, hm, hb, rfl⟩ := slot_of X hp
  have hx0 := I.at_
  have up := Heap.get?_update_self (fun o : Obj => { o with slots := (o.slots ++ Array.replicate (cd.slotNames.length - 1 - behind.toNat + 1 - o.slots.size) none).setIfInBounds (cd.slotNames.length - 1 - behind.toNat) (some v) }) hx0 (hg _)
  obtain ⟨hh, g, dr, t, os⟩ := s
  have type := I.type (M := model prog w)
  have mro := looks_mroIn (M := model prog w) X hm
  have names : Looks (model prog w) hh (Slots.slotNamesOf (.ref C)) cd.slotNames := (looks_clsIn X hc).andThen .now
  dsimp only at ho hx0 type mro
  have g0 := looks_field (M := model prog w) ho 0 (v := .str n tn) rfl
  have g1 := looks_field (M := model prog w) ho 1 (v := owner) rfl
  have g3 := looks_field (M := model prog w) ho 3 (v := .builtin "proto.slot#set") rfl
  have g4 := looks_field (M := model prog w) ho 4 (v := .int behind tb) rfl
  have g5 : Looks (model prog w) hh (descrItself (.ref p)) [.ref p] := ((Looks.ld (part := none) ho).andThen .now).andThen (Looks.of_pure (by kernel_rfl))
  refine codeAny_call_builtin KF.slot_mset.plain KF.entry_mset (KF.slot_mset.check _ _ _ _ _ _ _ _ ⟨_, ho, rfl⟩ (KF.args_mset _ _ _) ?_)
  unfold Builtin.«member_descriptor.__set__» descrSet descrStoreThrough descrCheckInstance descrNameAndClass isInstance
  repeat lk
  refine ⟨Code.quiet_builtin _ (by decide +kernel), codeAny_builtin KF.entry_slotset ?_⟩
  unfold Builtin.«proto.slot#set» Slots.target
  repeat lk
  rw [if_neg hb]
  refine wpAny_pure (wpAny_bind ?_)
  unfold setSlotAt
  dsimp only
  rw [if_neg (by rw [sizeLine_eq]; omega)]
  exact wpAny_updatePart hx0 (wpAny_pure (h _ (fun b o hb eb => (Heap.get?_update_ne _ _ _ _ hb).trans eb) up))
end
section
variable {prog : Program} {w : World} {h00 : Heap} {R : Shared} {A : Around} {fm : Fm} {loc : Loc} {led : Led} {K : Frag} {x dx C p : Addr} {es : List (Str × AV)} {vs : List (Option AV)} {name : Str} {i : Nat}
end
end Mine
end
section
open PySem PySem.Spec PySem.Calls PyProof.Rows PySem.W PySem.SeqAt PySem.Builtin PySem.Builtin.Str
set_option maxRecDepth 100000
set_option linter.unusedVariables false
set_option autoImplicit false
namespace Mine
section
variable {prog : Program} {w : World} {h00 : Heap} {R : Shared} {A : Around} {fm : Fm} {loc : Loc} {led led' : Led} {K : Frag} {x dx C p : Addr} {es : List (Str × AV)} {vs : List (Option AV)} {name : Str} {i : Nat} {av : AV}
variable (prog w h00 R A fm loc led) in
/-- reading an attribute gives a told value -/
noncomputable def AttrGet (x : Addr) (name : Str) (av : AV) : Prop := ∀ s, St w.params h00 R fm loc led s → ∀ (Q : Value → Shared → Prop) (E : Value → Shared → Prop), (∀ v h' tk, Ext s.heap h' → VR (vis fm led h') av v → Q v { s with heap := h', toks := tk }) → wpAny (model prog w) A (getAttr (.ref x) name true) Q E s
variable (prog w h00 R A fm loc led) in
/-- storing an attribute -/
noncomputable def AttrSet (x : Addr) (name : Str) (av : AV) (led' : Led) : Prop := ∀ s, St w.params h00 R fm loc led s → ∀ v, VR (vis fm led s.heap) av v → ∀ (Q : Unit → Shared → Prop) (E : Value → Shared → Prop), (∀ s', Step fm led led' s s' → St w.params h00 R fm loc led' s' → Q () s') → wpAny (model prog w) A (setAttr (.ref x) name v) Q E s
end
end Mine
end
section
open PySem PySem.Spec PySem.Calls PyProof.Rows PySem.W
set_option maxRecDepth 100000
set_option linter.unusedVariables false
set_option autoImplicit false
namespace Mine
/-- how a call's arguments become the names of the frame -/
noncomputable def Binds (prog : Program) (w : World) (K : Frag) (fd : FuncData) (args args' : List AV) (names : List Str) : Prop :=
  ∀ (A : Around) (X : List Addr) (s : Shared) (vals : List Value) (Q : List (Str × Value) → Shared → Prop) (E : Value → Shared → Prop), K.In s.heap → (∀ x ∈ X, x < s.heap.objs.size) → VRs (hideAll s.heap X) args vals →
    (∀ bound h', Ext s.heap h' → VRs (hideAll h' X) args' bound → Q (names.zip bound) { s with heap := h' }) → wpAny (model prog w) A (bindArgs fd ⟨vals, []⟩) Q E s
theorem VRs.drop {B : Heap} : ∀ {as : List AV} {vs : List Value} (n : Nat), VRs B as vs → VRs B (as.drop n) (vs.drop n)
  | _, _, 0, h => h
  | _, _, _ + 1, .nil => .nil
  | _, _, n + 1, .cons _ rs => rs.drop n
theorem VRs.take {B : Heap} : ∀ {as : List AV} {vs : List Value} (n : Nat), VRs B as vs → VRs B (as.take n) (vs.take n)
  | _, _, 0, _ => .nil
  | _, _, _ + 1, .nil => .nil
  | _, _, n + 1, .cons r rs => .cons r (rs.take n)
section
variable {prog : Program} {w : World} {h00 : Heap} {R : Shared} {A : Around} {K : Frag} {fd : FuncData} {args args' : List AV} {names : List Str}
theorem Binds.plain (h : ∀ vals : List Value, vals.length = args.length → bindArgs fd ⟨vals, []⟩ = pure (names.zip vals)) : Binds prog w K fd args args names := fun A X s vals Q E _ _ rv k => by
  rw [h vals rv.len]
  exact wpAny_pure (k vals s.heap Ext.rfl rv)
theorem Binds.dflt (h : ∀ vals : List Value, vals.length = args.length → ∀ S, peek K S (bindArgs fd ⟨vals, []⟩) = some (names.zip (vals ++ [.none]))) : Binds prog w K fd args (args ++ [.d .none]) names := fun A X s vals Q E hK _ rv k => by
  refine (Looks.of_peek (M := model prog w) hK (h vals rv.len _)).here (k _ s.heap Ext.rfl ?_)
  have : ∀ {as : List AV} {vs : List Value}, VRs (hideAll s.heap X) as vs → VRs (hideAll s.heap X) (as ++ [.d .none]) (vs ++ [.none]) := fun {as vs} r => by
    induction r with
    | nil => exact .cons ⟨_, .none⟩ .nil
    | cons a _ ih => exact .cons a ih
  exact this rv
theorem peek1_wp {α : Type} {M : Model} {A : Around} {E : Value → Shared → Prop} {Q : α → Shared → Prop} {s : Shared} {o : Obj} {r : Addr → α} (X : K.In s.heap) (q : Q (r s.heap.objs.size) { s with heap := s.heap.push o }) :
    ∀ (t : Sem α) (g : Addr → Option α), peek1 K ⟨M.prog, M.w.params⟩ t = some (o, g) → (∀ D, g D = some (r D)) → wpAny M A t Q E s := by
  intro t
  induction t with
  | rule _ k ih => intro g e hg Γ p hΓ; exact ih () g e hg Γ p hΓ
  | point _ k ih => intro g e hg Γ p hΓ; exact ih () g e hg Γ p hΓ
  | ask k ih => intro g e hg Γ p hΓ; exact ih _ g e hg Γ p hΓ
  | load a _ k ih =>
    intro g e hg Γ p hΓ
    simp only [peek1] at e
    split at e
    · rename_i ob ho; exact ⟨ob, X _ _ ho, ih ob g e hg Γ p hΓ⟩
    · cases e
  | alloc ob k _ =>
    intro g e hg
    have e : some (ob, fun D => peek K ⟨M.prog, M.w.params⟩ (k D)) = some (o, g) := e
    obtain ⟨e1, e2⟩ := Prod.mk.inj (Option.some.inj e)
    subst e1
    subst e2
    have X' : K.In (s.heap.push ob) := X.keeps fun b x hb => Heap.get?_push_of_some _ hb
    show wpAny M A (PySem.alloc ob >>= k) Q E s
    refine wpAny_bind (wpAny_alloc ?_)
    exact (Looks.of_peek (M := M) (h := s.heap.push ob) X' (hg s.heap.objs.size)).here (s := { s with heap := s.heap.push ob }) q
  | _ => intro g e; cases e
theorem Binds.star (n : Nat) (h : ∀ vals : List Value, vals.length = args.length → ∀ S, ∃ g, peek1 K S (bindArgs fd ⟨vals, []⟩) = some ({ cls := .type "tuple", data := .seq (vals.drop n).toArray }, g) ∧ ∀ D, g D = some (names.zip (vals.take n ++ [.ref D]))) :
    Binds prog w K fd args (args.take n ++ [.tup (args.drop n)]) names := fun A X s vals Q E hK low rv k => by
  obtain ⟨g, h1, h2⟩ := h vals rv.len ⟨(model prog w).prog, (model prog w).w.params⟩
  have up : Ext s.heap (s.heap.push { cls := .type "tuple", data := .seq (vals.drop n).toArray }) := fun b o e => Heap.get?_push_of_some _ e
  refine peek1_wp (M := model prog w) (r := fun D => names.zip (vals.take n ++ [.ref D])) hK (k _ _ up ?_) _ g h1 h2
  have : ∀ {as : List AV} {vs : List Value} {a : AV} {v : Value} {B : Heap}, VRs B as vs → VR B a v → VRs B (as ++ [a]) (vs ++ [v]) := fun {as vs a v B} r ra => by
    induction r with
    | nil => exact .cons ra .nil
    | cons a _ ih => exact .cons a ih
  exact this ((rv.take n).mono (hide_ext up)) ⟨_, vals.drop n, _, rfl, hideAll_get _ (Heap.get?_push_size _ rfl) fun h => absurd (low _ h) (Nat.lt_irrefl _), (rv.drop n).mono (hide_ext up)⟩
noncomputable abbrev fmX (fd : FuncData) (L f : Addr) (hid outs : List Addr) : Fm := ⟨callEnvC fd L f, (cellsFrom (L + 1) fd.scope.names []).map (·.2), hid, outs⟩
/-- a def of the text, called: its body in a frame of its own -/
theorem enter_defX {p : Program} {loose : List Str} {mg mb : Str → Option Value} {f : Addr} {oc : Value} {od : Option Addr} {osl : Array (Option Value)} {body : List Stmt}
    (X : K.In h00) (T : TopRead p loose mg mb h00) (ho : K.lookup f = some ⟨oc, od, .func fd, osl⟩) (hcd : codeIn K fd.code fd.qualname = true) (hroom : A.depth < recursionLimit) (hbody : fd.body = .stmts body) (hclo : fd.closure = [])
    (hbind : Binds prog w K fd args args' names) (hnd : names.Nodup)
    (hkind : ∀ n, ∀ x ∈ names, fd.scope.names.lookup x = some .local ∨ (fd.scope.names.lookup x = some .cell ∧ ((cellsFrom n fd.scope.names []).lookup x).isSome = true))
    (hown : ∀ n, ∀ c ∈ (cellsFrom n fd.scope.names []).map (·.2), ∃ x, (cellsFrom n fd.scope.names []).lookup x = some c)
    {X' outs : List Addr} {s : Shared} {vals : List Value} {RR : Result → Shared → Prop} (B : Bs h00 R X' s)
    (led : Led) (hl : ∀ a ∈ led.map (·.1), a ∉ X')
    (hled : ∀ p ∈ led, ∃ o, s.heap.get? p.1 = some o ∧ OR w.params (hideAll s.heap (led.map (·.1) ++ X')) p.2 o) (hln : (led.map (·.1)).Nodup) (rv' : VRs (hideAll s.heap (led.map (·.1) ++ X')) args vals)
    (base' : Ext h00 (hideAll s.heap (led.map (·.1) ++ X')))
    (houts : ∀ a ∈ outs, a ∈ X' ∧ ∃ o, s.heap.get? a = some o ∧ ∀ vs, o.data ≠ .fields vs)
    (go : ∀ L s1, St w.params h00 R (fmX fd L f X' outs) (names.zip args') led s1 → Ext s.heap s1.heap → s.heap.get? L = none → (∀ c ∈ (fmX fd L f X' outs).own, s.heap.get? c = none) →
      wpAny (model prog w) (A.deeper (callEnvC fd L f)) (execs body (callEnvC fd L f)) (fun fl s' => RR (.ok (.ret (match fl with | .ret v => v | _ => .none))) s')
        (fun e s' => wpAny (model prog w) (A.deeper (callEnvC fd L f)) (leaving (callEnvC fd L f) e) (fun _ s'' => RR (.error e) s'') (fun e' s'' => RR (.error e') s'') s') s1)
    (hco : fd.scope.isCoroutine = false := by rfl) (hgen : fd.scope.isGenerator = false := by rfl) (hk : fd.scope.kind = .function := by rfl) :
    codeAny (model prog w) A (.call (.ref f) ⟨vals, []⟩) RR s := by
  have KX : K.In s.heap := (X.keeps B.base).keeps hide_le
  have none_at : ∀ (h : Heap) a, h.objs.size ≤ a → h.get? a = none := fun h a ha => by
    cases e : h.get? a with
    | none => rfl
    | some o => exact absurd (Heap.lt_size e) (Nat.not_lt.mpr ha)
  have low : ∀ x ∈ led.map (·.1) ++ X', x < s.heap.objs.size := fun x hx => by
    rcases List.mem_append.mp hx with h | h
    · obtain ⟨p, hp, rfl⟩ := List.mem_map.mp h
      obtain ⟨o, h1, _⟩ := hled p hp
      exact Heap.lt_size h1
    · exact B.low x h
  have hlim := (T.keeps (B.base.trans hide_le)).nolimit
  refine codeAny_call_function hroom (KX _ _ ho) rfl hco hgen hbody (codeRec_of KX hcd) ?_
  rw [hclo]
  refine hbind _ (led.map (·.1) ++ X') s vals _ _ KX low rv' fun bound hb kb rb => ?_
  refine wpAny_newFunctionEnv_cells hk (fun x hx => hkind _ x.1 (zip_names (List.mem_map_of_mem hx))) fun env he s1 x => ?_
  subst he
  have kp1 : Ext hb s1.heap := x.toInCall.keep
  refine ⟨(hlim.keeps kb).keeps kp1, codeAny_func ?_⟩
  · have kp : Ext s.heap s1.heap := kb.trans kp1
    have back : ∀ {a : Addr}, hb.get? a = none → s.heap.get? a = none := fun {a} e => by
      cases q : s.heap.get? a with
      | none => rfl
      | some o => have := kb _ _ q; rw [e] at this; cases this
    have cabove : ∀ c ∈ (cellsFrom (hb.objs.size + 1) fd.scope.names []).map (·.2), hb.objs.size < c := fun c hc => by
      obtain ⟨⟨n, c'⟩, hm, rfl⟩ := List.mem_map.mp hc
      exact x.above n c' hm
    have nL : s.heap.get? hb.objs.size = none := back (none_at hb _ (Nat.le_refl _))
    have nO : ∀ c ∈ (cellsFrom (hb.objs.size + 1) fd.scope.names []).map (·.2), s.heap.get? c = none := fun c hc => back (none_at hb c (Nat.le_of_lt (cabove c hc)))
    refine go hb.objs.size s1 ?_ kp nL nO
    have hA : ∀ b o, (hideAll hb (led.map (·.1) ++ X')).get? b = some o → b ∉ away (fmX fd hb.objs.size f X' outs) led := fun b o e hm => by
      have e' := hide_le _ _ e
      have nb := hide_none e
      rw [List.mem_append, not_or] at nb
      rcases away_mem.mp hm with q | q | q | q
      · rw [show b = hb.objs.size from q, none_at hb _ (Nat.le_refl _)] at e'; cases e'
      · rw [none_at hb b (Nat.le_of_lt (cabove b q))] at e'; cases e'
      · exact nb.1 q
      · exact nb.2 q
    have vv1 : Ext (hideAll hb (led.map (·.1) ++ X')) (vis (fmX fd hb.objs.size f X' outs) led s1.heap) := fun b o e => hideAll_get _ (kp1 _ _ (hide_le _ _ e)) (hA b o e)
    have vv : Ext (hideAll s.heap (led.map (·.1) ++ X')) (vis (fmX fd hb.objs.size f X' outs) led s1.heap) := (hide_ext kb).trans vv1
    have same : s1.gens = s.gens ∧ s1.drawn = s.drawn ∧ s1.os = s.os := by obtain ⟨h, t, e⟩ := x.toInCall.same; rw [e]; exact ⟨rfl, rfl, rfl⟩
    refine ⟨base'.trans vv, ⟨_, x.toInCall.ns, fun y a e l => ?_⟩, fun y a e l => ?_, fun p hp => ?_, ?_, fun c hc => ?_, fun a ha => ?_, same.1.trans B.gens, same.2.1.trans B.drawn, same.2.2.trans B.os, hl, fun a ha => ?_⟩
    · exact bindL_at hnd (rb.mono vv1) e l
    · obtain ⟨v, hv, hr⟩ := bindC_at (m := fun _ => none) hnd (rb.mono vv1) e l
      have hy : y ∈ names := (List.of_mem_zip (mem_of_lookup e)).1
      rcases hkind (hb.objs.size + 1) y hy with q | ⟨_, q⟩
      · exact absurd q l
      · obtain ⟨c, hc⟩ := Option.isSome_iff_exists.mp q
        have z : s1.heap.IsCell c (bindC (fmX fd hb.objs.size f X' outs).env.kindOf (names.zip bound) (fun _ => none) y) := x.cell y c hc
        rw [hv] at z
        exact ⟨c, v, hc, z, hr⟩
    · obtain ⟨o, h1, h2⟩ := hled p hp
      exact ⟨o, kp _ _ h1, h2.mono vv⟩
    · refine List.nodup_cons.mpr ⟨fun h => ?_, List.nodup_append.mpr ⟨?_, hln, fun a ha b hb' q => ?_⟩⟩
      · rcases List.mem_append.mp h with h | h
        · exact absurd (cabove _ h) (Nat.lt_irrefl _)
        · obtain ⟨p, hp, e⟩ := List.mem_map.mp h
          obtain ⟨o, h1, _⟩ := hled p hp
          rw [e, show (fmX fd hb.objs.size f X' outs).env.locals = hb.objs.size from rfl, nL] at h1; cases h1
      · exact List.pairwise_map.mpr (x.apart.imp fun h => h)
      · subst q
        obtain ⟨p, hp, e⟩ := List.mem_map.mp hb'
        obtain ⟨o, h1, _⟩ := hled p hp
        rw [e, nO a ha] at h1; cases h1
    · obtain ⟨n, hn⟩ := hown _ c hc
      exact ⟨_, x.cell n c hn⟩
    · obtain ⟨o, h⟩ := B.there a ha
      exact ⟨o, kp _ _ h⟩
    · obtain ⟨h1, o, ho', hd⟩ := houts a ha
      have z1 : a ≠ (fmX fd hb.objs.size f X' outs).env.locals := fun q => by
        rw [q, show (fmX fd hb.objs.size f X' outs).env.locals = hb.objs.size from rfl, nL] at ho'; cases ho'
      have z2 : a ∉ (fmX fd hb.objs.size f X' outs).own := fun q => by rw [nO a q] at ho'; cases ho'
      exact ⟨h1, z1, z2, o, kp _ _ ho', hd⟩
end
section
variable {prog : Program} {w : World} {h00 : Heap} {R : Shared} {A : Around} {fm : Fm} {loc : Loc} {led : Led} {K : Frag} {fd : FuncData} {args args' : List AV} {names : List Str}
/-- what the def does with the part of the ledger that it is handed -/
theorem St.of_defX {p : Program} {loose : List Str} {mg mb : Str → Option Value} {f : Addr} {oc : Value} {od : Option Addr} {osl : Array (Option Value)} {body : List Stmt} {led1 led2 : Led} {Φ : AV → Led → Prop}
    (X : K.In h00) (T : TopRead p loose mg mb h00) (ho : K.lookup f = some ⟨oc, od, .func fd, osl⟩) (hcd : codeIn K fd.code fd.qualname = true) (hroom : A.depth < recursionLimit) (hbody : fd.body = .stmts body) (hclo : fd.closure = [])
    (hbind : Binds prog w K fd args args' names) (hnd : names.Nodup)
    (hkind : ∀ n, ∀ x ∈ names, fd.scope.names.lookup x = some .local ∨ (fd.scope.names.lookup x = some .cell ∧ ((cellsFrom n fd.scope.names []).lookup x).isSome = true))
    (hown : ∀ n, ∀ c ∈ (cellsFrom n fd.scope.names []).map (·.2), ∃ x, (cellsFrom n fd.scope.names []).lookup x = some c)
    (go : ∀ L hid, TS prog w h00 R (A.deeper (callEnvC fd L f)) (fmX fd L f hid (fm.env.locals :: fm.outs)) (names.zip args') led1 body fun af _ d => ∃ c, Φ c (led2 ++ d) ∧ (af = .ret c ∨ (af = .next ∧ c = .d .none)))
    {s : Shared} {vals : List Value} {RR : Result → Shared → Prop} (D : St w.params h00 R fm loc (led2 ++ led1) s) (rv : VRs (vis fm (led2 ++ led1) s.heap) args vals)
    (k : ∀ v s' av led', Step fm (led2 ++ led1) led' s s' → St w.params h00 R fm loc led' s' → VR (vis fm led' s'.heap) av v → Φ av led' → RR (.ok (.ret v)) s')
    (hco : fd.scope.isCoroutine = false := by rfl) (hgen : fd.scope.isGenerator = false := by rfl) (hk : fd.scope.kind = .function := by rfl) : codeAny (model prog w) A (.call (.ref f) ⟨vals, []⟩) RR s := by
  have hX : ∀ b, b ∈ led1.map (·.1) ++ (fm.env.locals :: (fm.own ++ (led2.map (·.1) ++ fm.hid))) ↔ b ∈ away fm (led2 ++ led1) := fun b => by
    rw [away_mem, List.map_append]; simp only [List.mem_append, List.mem_cons]; constructor
    · rintro (q | q | q | q | q)
      · exact .inr (.inr (.inl (.inr q)))
      · exact .inl q
      · exact .inr (.inl q)
      · exact .inr (.inr (.inl (.inl q)))
      · exact .inr (.inr (.inr q))
    · rintro (q | q | (q | q) | q)
      · exact .inr (.inl q)
      · exact .inr (.inr (.inl q))
      · exact .inr (.inr (.inr (.inl q)))
      · exact .inl q
      · exact .inr (.inr (.inr (.inr q)))
  have vX : Ext (vis fm (led2 ++ led1) s.heap) (hideAll s.heap (led1.map (·.1) ++ (fm.env.locals :: (fm.own ++ (led2.map (·.1) ++ fm.hid))))) := fun b o e => hideAll_get _ (hide_le _ _ e) fun h => hide_none e ((hX b).mp h)
  have vX' : Ext (vis fm (led2 ++ led1) s.heap) (hideAll s.heap (fm.env.locals :: (fm.own ++ (led2.map (·.1) ++ fm.hid)))) := fun b o e => hideAll_get _ (hide_le _ _ e) fun h => hide_none e ((hX b).mp (List.mem_append_right _ h))
  have ndm : (led2.map (·.1) ++ led1.map (·.1)).Nodup := by have := (List.nodup_append.mp (List.nodup_cons.mp D.nd).2).2.1; rwa [List.map_append] at this
  have B : Bs h00 R (fm.env.locals :: (fm.own ++ (led2.map (·.1) ++ fm.hid))) s := ⟨D.base.trans vX', fun x hx => D.bs.there x ((hX x).mp (List.mem_append_right _ hx)), D.gens, D.drawn, D.os⟩
  have a1 : ∀ a ∈ led1.map (·.1), a ≠ fm.env.locals ∧ a ∉ fm.own := fun a h => D.off a (by rw [List.map_append]; exact List.mem_append_right _ h)
  have nsd : ∃ o, s.heap.get? fm.env.locals = some o ∧ ∀ vs, o.data ≠ .fields vs := by
    obtain ⟨m, ⟨o, es, ep, ho, hd, _⟩, _⟩ := D.ns
    exact ⟨o, ho, fun vs q => by rw [hd] at q; cases q⟩
  have hOuts : ∀ a ∈ fm.env.locals :: fm.outs, a ∈ fm.env.locals :: (fm.own ++ (led2.map (·.1) ++ fm.hid)) ∧ ∃ o, s.heap.get? a = some o ∧ ∀ vs, o.data ≠ .fields vs := fun a ha => by
    rcases List.mem_cons.mp ha with rfl | ha
    · exact ⟨List.mem_cons_self, nsd⟩
    · obtain ⟨h1, _, _, h4⟩ := D.fr a ha
      exact ⟨List.mem_cons_of_mem _ (List.mem_append_right _ (List.mem_append_right _ h1)), h4⟩
  refine (enter_defX (R := R) X T ho hcd hroom hbody hclo hbind hnd hkind hown B led1 (fun a ha h => ?_) (fun p hp => ?_) (List.nodup_append.mp ndm).2.1 (rv.mono vX) (D.base.trans vX) hOuts (fun L s1 D1 kp nL nO => ?_) hco hgen hk)
  · rcases List.mem_cons.mp h with q | q
    · exact (a1 a ha).1 q
    · rcases List.mem_append.mp q with q | q
      · exact (a1 a ha).2 q
      · rcases List.mem_append.mp q with q | q
        · exact (List.nodup_append.mp ndm).2.2 a q a ha rfl
        · exact D.dis a (by rw [List.map_append]; exact List.mem_append_right _ ha) q
  · obtain ⟨o, h, r⟩ := D.ld p (List.mem_append_right _ hp)
    exact ⟨o, h, r.mono vX⟩
  · refine go _ _ s1 D1 _ _ fun fl s' af loc' led' x D' r φ => ?_
    obtain ⟨c, hΦ, hc⟩ := φ
    have kx : ∀ b o, s.heap.get? b = some o → b ∉ led1.map (·.1) → b ∉ fm.env.locals :: fm.outs → s'.heap.get? b = some o := fun b o e h h2 =>
      x.keep b o (kp b o e) (fun q => by rw [show b = L from q, nL] at e; cases e) (fun q => by rw [nO b q] at e; cases e) h h2
    have kt : ∀ b o, s.heap.get? b = some o → b ∈ fm.env.locals :: fm.outs → ∃ sl, s'.heap.get? b = some { o with slots := sl } := fun b o e h => (x.turn b h).2 o (kp b o e)
    have ky : ∀ b o, s.heap.get? b = some o → b ∉ led1.map (·.1) → ∃ sl, s'.heap.get? b = some { o with slots := sl } := fun b o e h => by
      by_cases q : b ∈ fm.env.locals :: fm.outs
      · exact kt b o e q
      · exact ⟨o.slots, kx b o e h q⟩
    have kk : ∀ b o, s.heap.get? b = some o → b ∉ led1.map (·.1) → b ≠ fm.env.locals → b ∉ fm.outs → s'.heap.get? b = some o := fun b o e h h1 h2 => kx b o e h fun q => (List.mem_cons.mp q).elim h1 h2
    have ol : ∀ a ∈ fm.outs, a ∉ led1.map (·.1) := fun a ha h' => D.dis a (by rw [List.map_append]; exact List.mem_append_right _ h') (D.fr a ha).1
    have newl : ∀ a ∈ led'.map (·.1), a ∈ led1.map (·.1) ∨ s.heap.get? a = none := fun a ha => by
      rcases x.new a ha with q | q
      · exact .inl q
      · refine .inr ?_
        cases e : s.heap.get? a with
        | none => rfl
        | some o => have := kp a o e; rw [q] at this; cases this
    have th : ∀ a ∈ away fm (led2 ++ led1), ∃ o, s.heap.get? a = some o := D.bs.there
    have nof : ∀ {a : Addr} {P : Prop}, s.heap.get? a = none → (∃ o, s.heap.get? a = some o) → P := fun {a P} e ⟨o, h⟩ => by rw [e] at h; cases h
    have m2 : ∀ a ∈ led2.map (·.1), a ∈ (led2 ++ led1).map (·.1) := fun a h => by rw [List.map_append]; exact List.mem_append_left _ h
    have m1 : ∀ a ∈ led1.map (·.1), a ∈ (led2 ++ led1).map (·.1) := fun a h => by rw [List.map_append]; exact List.mem_append_right _ h
    have n21 : ∀ a ∈ led2.map (·.1), a ∉ led1.map (·.1) := fun a h h' => (List.nodup_append.mp ndm).2.2 a h a h' rfl
    have nd2 : ∀ a ∈ led2.map (·.1), a ∉ led'.map (·.1) := fun a h h' => by
      rcases newl a h' with q | q
      · exact n21 a h q
      · exact nof q (th a (away_mem.mpr (.inr (.inr (.inl (m2 a h))))))
    have offn : ∀ a ∈ led'.map (·.1), a ≠ fm.env.locals ∧ a ∉ fm.own := fun a ha => by
      rcases newl a ha with q | q
      · exact a1 a q
      · exact ⟨fun h => nof q (th a (away_mem.mpr (.inl h))), fun h => nof q (th a (away_mem.mpr (.inr (.inl h))))⟩
    have S : Step fm (led2 ++ led1) (led2 ++ led') s s' := by
      refine ⟨fun b o e h1 _ h h2 => kk b o e (fun h' => h (m1 b h')) h1 h2, fun a ha => ?_, fun a ha => ?_, fun a ha => ⟨(D.fr a ha).1, fun o e => kt a o e (List.mem_cons_of_mem _ ha)⟩⟩
      · rw [List.map_append] at ha
        rcases List.mem_append.mp ha with h | h
        · exact .inl (m2 a h)
        · rcases newl a h with q | q
          · exact .inl (m1 a q)
          · exact .inr q
      · rw [List.map_append] at ha
        rcases List.mem_append.mp ha with h | h
        · exact D.off a (m2 a h)
        · exact offn a h
    have vv := S.ext
    have sub : Ext (vis (fmX fd L f (fm.env.locals :: (fm.own ++ (led2.map (·.1) ++ fm.hid))) (fm.env.locals :: fm.outs)) led' s'.heap) (vis fm (led2 ++ led') s'.heap) := fun b o e => hideAll_get _ (hide_le _ _ e) fun hb => by
      refine hide_none e ?_
      rcases away_mem.mp hb with q | q | q | q
      · exact away_mem.mpr (.inr (.inr (.inr (q ▸ List.mem_cons_self))))
      · exact away_mem.mpr (.inr (.inr (.inr (List.mem_cons_of_mem _ (List.mem_append_left _ q)))))
      · rw [List.map_append] at q
        rcases List.mem_append.mp q with q | q
        · exact away_mem.mpr (.inr (.inr (.inr (List.mem_cons_of_mem _ (List.mem_append_right _ (List.mem_append_left _ q))))))
        · exact away_mem.mpr (.inr (.inr (.inl q)))
      · exact away_mem.mpr (.inr (.inr (.inr (List.mem_cons_of_mem _ (List.mem_append_right _ (List.mem_append_right _ q))))))
    have D3 : St w.params h00 R fm loc (led2 ++ led') s' := by
      refine ⟨D.base.trans vv, ?_, fun y av e l => ?_, fun p hp => ?_, ?_, fun c hc => ?_, fun a ha => ?_, D'.gens, D'.drawn, D'.os, fun a ha h => ?_, fun a ha => by obtain ⟨h1, h2, h3, o, ho, hd⟩ := D.fr a ha; obtain ⟨sl, hs⟩ := kt a o ho (List.mem_cons_of_mem _ ha); exact ⟨h1, h2, h3, _, hs, hd⟩⟩
      · obtain ⟨m, ⟨o, es, ep, ho, r⟩, h2⟩ := D.ns
        obtain ⟨sl, hs⟩ := kt _ o ho List.mem_cons_self
        exact ⟨m, ⟨_, es, ep, hs, r⟩, fun y av e l => by obtain ⟨v, hv, hr⟩ := h2 y av e l; exact ⟨v, hv, hr.mono vv⟩⟩
      · obtain ⟨c, v, hc, ⟨o, ho, hd⟩, hr⟩ := D.cel y av e l
        have nl : c ∉ led1.map (·.1) := fun h => by
          obtain ⟨p, hp, rfl⟩ := List.mem_map.mp h
          obtain ⟨o', ho', hr'⟩ := D.ld p (List.mem_append_right _ hp)
          rw [ho] at ho'; cases ho'
          exact OR.nocell hr' _ hd
        obtain ⟨sl, hs⟩ := ky c o ho nl
        exact ⟨c, v, hc, ⟨_, hs, hd⟩, hr.mono vv⟩
      · rcases List.mem_append.mp hp with hp | hp
        · obtain ⟨o, ho, hr⟩ := D.ld p (List.mem_append_left _ hp)
          exact ⟨o, kk _ _ ho (n21 _ (List.mem_map_of_mem hp)) (D.off _ (m2 _ (List.mem_map_of_mem hp))).1 (fun q => D.dis _ (m2 _ (List.mem_map_of_mem hp)) (D.fr _ q).1), hr.mono vv⟩
        · obtain ⟨o, ho, hr⟩ := D'.ld p hp
          exact ⟨o, ho, hr.mono sub⟩
      · have z := List.nodup_cons.mp D.nd
        have y := List.nodup_append.mp z.2
        have z' := List.nodup_cons.mp D'.nd
        have y' := List.nodup_append.mp z'.2
        refine List.nodup_cons.mpr ⟨fun h => ?_, List.nodup_append.mpr ⟨y.1, ?_, fun a ha b hb e => ?_⟩⟩
        · rcases List.mem_append.mp h with h | h
          · exact z.1 (List.mem_append_left _ h)
          · rw [List.map_append] at h
            rcases List.mem_append.mp h with h | h
            · exact (D.off _ (m2 _ h)).1 rfl
            · exact (offn _ h).1 rfl
        · rw [List.map_append]
          exact List.nodup_append.mpr ⟨(List.nodup_append.mp ndm).1, y'.2.1, fun a ha b hb e => nd2 a ha (e ▸ hb)⟩
        · rw [List.map_append] at hb
          rcases List.mem_append.mp hb with h | h
          · exact (D.off _ (m2 _ h)).2 (e ▸ ha)
          · exact (offn _ h).2 (e ▸ ha)
      · obtain ⟨v, o, h, hd⟩ := D.own c hc
        obtain ⟨sl, hs⟩ := ky c o h fun q => (a1 _ q).2 hc
        exact ⟨v, _, hs, hd⟩
      · obtain ⟨o, h⟩ := D.low a ha
        by_cases q : a ∈ led1.map (·.1)
        · exact D'.low a (List.mem_cons_of_mem _ (List.mem_append_right _ (List.mem_append_right _ ha)))
        · obtain ⟨sl, hs⟩ := ky a o h q
          exact ⟨_, hs⟩
      · rw [List.map_append] at ha
        rcases List.mem_append.mp ha with q | q
        · exact D.dis a (m2 a q) h
        · exact D'.dis a q (List.mem_cons_of_mem _ (List.mem_append_right _ (List.mem_append_right _ h)))
    rcases hc with rfl | ⟨rfl, rfl⟩
    · obtain ⟨v, rfl, hr⟩ := r
      exact k v s' c _ S D3 (hr.mono sub) hΦ
    · cases r
      exact k .none s' (.d .none) _ S D3 ⟨_, .none⟩ hΦ
theorem CallT.defX {f : Addr} {oc : Value} {od : Option Addr} {osl : Array (Option Value)} {body : List Stmt} (names : List Str) {led1 led2 : Led} {Φ : AV → Led → Prop}
    (X : K.In h00) (T : ∃ p loose mg mb, TopRead p loose mg mb h00) (hroom : A.depth < recursionLimit)
    (ho : K.lookup f = some ⟨oc, od, .func fd, osl⟩) (hcd : codeIn K fd.code fd.qualname = true) (hbody : fd.body = .stmts body) (hclo : fd.closure = [])
    (hbind : Binds prog w K fd args args' names) (hnd : names.Nodup)
    (hkind : (names.all fun x => fd.scope.names.lookup x == some .local || fd.scope.names.lookup x == some .cell) = true)
    (hown : ((cellsFrom 0 fd.scope.names []).map (·.1)).Nodup)
    (go : ∀ L hid, TS prog w h00 R (A.deeper (callEnvC fd L f)) (fmX fd L f hid (fm.env.locals :: fm.outs)) (names.zip args') led1 body fun af _ d => ∃ c, Φ c (led2 ++ d) ∧ (af = .ret c ∨ (af = .next ∧ c = .d .none)))
    (hco : fd.scope.isCoroutine = false := by rfl) (hgen : fd.scope.isGenerator = false := by rfl) (hk : fd.scope.kind = .function := by rfl) : CallT prog w h00 R A fm loc (led2 ++ led1) (.ref f) args Φ := by
  obtain ⟨p, loose, mg, mb, T⟩ := T
  exact fun s D vals rv Q E k => wpAny_call (St.of_defX X T ho hcd hroom hbody hclo hbind hnd (kind_of hkind) (own_of hown) go D rv (fun v s' av led' a b c d => k v s' av led' a b c d) hco hgen hk)
variable {x dx C : Addr} {es : List (Str × AV)} {name : Str}
/-- an object made: its __init__ in a frame of its own -/
theorem CallT.newX {args' : List AV} {f : Addr} {fd : FuncData} {oc : Value} {od : Option Addr} {osl : Array (Option Value)} {body : List Stmt} {names : List Str} {args : List AV} {Φ : AV → Led → Prop} {d u : Nat}
    (X : K.In h00) (T : ∃ p loose mg mb, TopRead p loose mg mb h00) (hA : Roomy d u A) (hd : d + 305 ≤ recursionLimit)
    (hm : makesIn K C = true) (hi : findIn K (.ref C) "__init__" = some (some (.ref f))) (hf : isFn K (.ref f) = true)
    (ho : K.lookup f = some ⟨oc, od, .func fd, osl⟩) (hcd : codeIn K fd.code fd.qualname = true) (hbody : fd.body = .stmts body) (hclo : fd.closure = [])
    (hbind : ∀ x, Binds prog w K fd (.raw (.ref x) :: args) (.raw (.ref x) :: args') names) (hnd : names.Nodup)
    (hkind : (names.all fun x => fd.scope.names.lookup x == some .local || fd.scope.names.lookup x == some .cell) = true)
    (hown : ((cellsFrom 0 fd.scope.names []).map (·.1)).Nodup)
    (go : ∀ x dx L hid A', dx ≠ x → x ∉ led.map (·.1) → dx ∉ led.map (·.1) → Roomy (d + 5) (u + 5) A' → TS prog w h00 R (A'.deeper (callEnvC fd L f)) (fmX fd L f hid (fm.env.locals :: fm.outs)) (names.zip (.raw (.ref x) :: args')) [(x, .inst C dx), (dx, .dict [])] body fun af _ dd => (af = .next ∨ af = .ret (.d .none)) ∧ Φ (.raw (.ref x)) (led ++ dd))
    (hco : fd.scope.isCoroutine = false := by rfl) (hgen : fd.scope.isGenerator = false := by rfl) (hk : fd.scope.kind = .function := by rfl) : CallT prog w h00 R A fm loc led (.ref C) args Φ := fun s D vals rv Q E q => by
  obtain ⟨p, loose, mg, mb, T⟩ := T
  obtain ⟨h, g, dr, t, os⟩ := s
  have gone : h.get? h.objs.size = none := by
    cases e : h.get? h.objs.size with
    | none => rfl
    | some o => exact absurd (Heap.lt_size e) (Nat.lt_irrefl _)
  have k1 : Ext h (h.push emptyDict) := fun b o e => Heap.get?_push_of_some _ e
  have gone2 : (h.push emptyDict).get? (h.objs.size + 1) = none := by
    cases e : (h.push emptyDict).get? (h.objs.size + 1) with
    | none => rfl
    | some o => have := Heap.lt_size e; rw [Heap.size_push] at this; exact absurd this (Nat.lt_irrefl _)
  have k2 : Ext (h.push emptyDict) ((h.push emptyDict).push (instObj C h.objs.size)) := fun b o e => Heap.get?_push_of_some _ e
  obtain ⟨D1, S1⟩ := D.add (ao := .dict []) (tk := t) gone k1 (Heap.get?_push_size _ rfl) ⟨[], 0, rfl, .nil⟩
  obtain ⟨D2, S2⟩ := D1.add (a := h.objs.size + 1) (ao := .inst C h.objs.size) (tk := t) gone2 k2 (by have := Heap.get?_push_size (h.push emptyDict) (o := instObj C h.objs.size) rfl; rwa [Heap.size_push] at this) rfl
  refine wpAny_call (make_core (makes_of (D.K X) hm) (looks_findIn (D.K X) hi) (fun self => bind_fn (D.K X) self (beq_iff_eq.mp hf)) (.inl rfl) ?_)
  have D3 : St w.params h00 R fm loc (led ++ [(h.objs.size + 1, .inst C h.objs.size), (h.objs.size, .dict [])]) { heap := (h.push emptyDict).push (instObj C h.objs.size), gens := g, drawn := dr, toks := t, os := os } := St.swap (l1 := [(h.objs.size + 1, .inst C h.objs.size), (h.objs.size, .dict [])]) (l2 := led) D2
  have S12 := S1.trans S2
  have S3 : Step fm led (led ++ [(h.objs.size + 1, .inst C h.objs.size), (h.objs.size, .dict [])]) { heap := h, gens := g, drawn := dr, toks := t, os := os } { heap := (h.push emptyDict).push (instObj C h.objs.size), gens := g, drawn := dr, toks := t, os := os } := by
    have hm : ∀ a, a ∈ (led ++ [(h.objs.size + 1, AO.inst C h.objs.size), (h.objs.size, .dict [])]).map (·.1) → a ∈ ((h.objs.size + 1, AO.inst C h.objs.size) :: (h.objs.size, .dict []) :: led).map (·.1) := fun a ha => by
      simp only [List.map_append, List.map_cons, List.map_nil, List.mem_append, List.mem_cons, List.not_mem_nil, or_false] at ha ⊢
      rcases ha with z | z | z
      · exact .inr (.inr z)
      · exact .inl z
      · exact .inr (.inl z)
    exact ⟨S12.keep, fun a ha => S12.new a (hm a ha), fun a ha => S12.off a (hm a ha), S12.turn⟩
  have rv3 : VRs (vis fm (led ++ [(h.objs.size + 1, .inst C h.objs.size), (h.objs.size, .dict [])]) ((h.push emptyDict).push (instObj C h.objs.size))) (.raw (.ref (h.objs.size + 1)) :: args) (.ref (h.objs.size + 1) :: vals) := .cons rfl (rv.mono S3.ext)
  have hA2 := hA.make C vals
  have n2 : h.objs.size ∉ led.map (·.1) := fun hm => by obtain ⟨o, ho⟩ := D.bs.there _ (away_mem.mpr (.inr (.inr (.inl hm)))); rw [gone] at ho; cases ho
  have n1 : h.objs.size + 1 ∉ led.map (·.1) := fun hm => by obtain ⟨o, ho⟩ := D.bs.there _ (away_mem.mpr (.inr (.inr (.inl hm)))); exact absurd (Heap.lt_size ho) (Nat.not_lt.mpr (Nat.le_succ _))
  refine St.of_defX (args := .raw (.ref (h.objs.size + 1)) :: args) (led1 := [(h.objs.size + 1, .inst C h.objs.size), (h.objs.size, .dict [])]) (led2 := led) (Φ := fun av dd => av = .d .none ∧ Φ (.raw (.ref (h.objs.size + 1))) dd) X T ho hcd (by have := hA2.d; omega) hbody hclo (hbind _) hnd (kind_of hkind) (own_of hown)
    (fun L hid => TS.mono (go (h.objs.size + 1) h.objs.size L hid _ (Nat.ne_of_lt (Nat.lt_succ_self _)) n1 n2 hA2) fun af _ dd z => ?_) D3 rv3 (fun v s' av led' S4 D4 r4 p4 => ?_) hco hgen hk
  · rcases z.1 with rfl | rfl
    · exact ⟨.d .none, ⟨rfl, z.2⟩, .inr ⟨rfl, rfl⟩⟩
    · exact ⟨.d .none, ⟨rfl, z.2⟩, .inl rfl⟩
  · obtain ⟨rfl, p4⟩ := p4
    obtain ⟨as, r4⟩ := r4
    cases r4
    exact ⟨rfl, q _ s' (.raw (.ref (h.objs.size + 1))) led' (S3.trans S4) D4 rfl p4⟩
end
end Mine
end
section
open PySem PySem.Spec PySem.Calls PyProof.Rows PySem.W PySem.SeqAt PySem.Builtin PySem.Builtin.Str
set_option maxRecDepth 100000
set_option linter.unusedVariables false
set_option autoImplicit false
namespace Mine
noncomputable def fitAt (p t : List Nat) (k : Nat) : Bool := match p[k]?, t[k]? with | some c, some d => c == 63 || c == d | _, _ => false
noncomputable def fits (p n : List Nat) : Bool := if n.length < p.length then false else ((List.range p.length).flatMap fun k => if fitAt p (n.drop (n.length - p.length)) k then [] else [PyData.int k]).isEmpty

section
variable {prog : Program} {w : World} {h00 : Heap} {R : Shared} {A : Around}
set_option maxHeartbeats 400000 in
theorem c_fits (G : Top0 w.params h00) (hA : Roomy 100 1000 A) (p n : List Nat) (hp : p.length < 100) (hn : n.length < 100) (hpn : ∀ c ∈ p ++ n, c < 128) : CallP prog w h00 R A (.ref 260) [.d (.str (S p)), .d (.str (S n))] (.d (.bool (fits p n))) := by
  refine CallP.def_ ["pattern", "name"] G.X G.T (Nat.lt_trans hA.d (by decide)) rfl rfl rfl rfl (fun vals hv => ?_) ?_ rfl ?_ ?_
  · match vals, hv with
    | [a, b], _ => rfl
  · decide
  · decide
  · intro L hid
    have hn' : n.length < 1000 := by omega
    have hp' : p.length < 1000 := by omega
    refine TS.cons (TX.if (b := decide ((n.length : Int) < p.length)) (PT.cmp (PE.lenS G (PE.name rfl) hn') (PE.lenS G (PE.name rfl) hp') Op2.lt) ?_ ?_)
    · intro h
      refine TS.cons (TX.ret (TE.pe PE.cBool ?_))
      have : n.length < p.length := by have := of_decide_eq_true h; omega
      rw [show fits p n = false by unfold fits; rw [if_pos this]]
      exact .inl rfl
    · intro h
      have hle : ¬ n.length < p.length := by have := of_decide_eq_false h; omega
      refine TS.nil (TS.cons (TX.assign rfl (stores_cell rfl (by decide)) (TE.pe (PE.cutFrom (a := n.length - p.length) (PE.name rfl) (PE.bin (PE.lenS G (PE.name rfl) hn') (PE.lenS G (PE.name rfl) hp') Op2.sub) (by omega) (by omega) hn') ?_)))
      refine TS.cons (TX.ret (TE.pe (PE.cmp (PE.comp (g := fun (k : Nat) => AV.d (.int k)) (xs := List.range p.length) (fun k => if fitAt p (n.drop (n.length - p.length)) k then [] else [PyData.int k]) [("pattern", .d (.str (S p))), ("tail", .d (.str (S (n.drop (n.length - p.length)))))]
        (PE.range (PE.built0 G (by kernel_rfl) (by kernel_rfl) (by decide)) (PE.lenS G (PE.name rfl) hp')) (IterP.range (Nat.lt_trans hp' (by decide)) hA.h) ?_ (fun C hid k hk => ?_) ?_) (PE.displayD (ds := []) PEs.nil (by decide)) (Op2.eq ?_ shaped_nil ?_)) ?_))
      · refine Nat.le_trans (len_flat (c := 1) fun k _ => ?_) ?_
        · show (if _ then _ else _ : List PyData).length ≤ 1
          split <;> simp
        · rw [List.length_range, Nat.mul_one]; exact Nat.le_trans (Nat.le_of_lt hp') (by decide)
      · have hk' : k < p.length := List.mem_range.mp hk
        have hkt : k < (n.drop (n.length - p.length)).length := by rw [List.length_drop]; omega
        obtain ⟨c, hc⟩ : ∃ c, p[k]? = some c := ⟨p[k], by simp [hk']⟩
        obtain ⟨d, hd⟩ : ∃ d, (n.drop (n.length - p.length))[k]? = some d := ⟨(n.drop (n.length - p.length))[k], by simp [hkt]⟩
        have hc1 : c < 128 := hpn c (List.mem_append_left _ (List.mem_of_getElem? hc))
        have hd1 : d < 128 := hpn d (List.mem_append_right _ (List.mem_of_mem_drop (List.mem_of_getElem? hd)))
        have hz : (n.drop (n.length - p.length)).length < 1000 := by rw [List.length_drop]; omega
        refine ⟨!fitAt p (n.drop (n.length - p.length)) k, PIfs.one ((PT.cmp (PE.sign (PE.name rfl) (PE.name rfl) hc hp') (PE.tupleD (ds := [.str (S [63]), .str (S [d])]) (PEs.cons PE.cStr (PEs.cons (PE.sign (PE.name rfl) (PE.name rfl) hd hz) PEs.nil)) (show 2 ≤ sizeLine by decide))
          (Op2.notInT (shaped_strsT (l := [S [63], S [d]]) fun x hx => ?_) (shaped_str (strOk_S fun a ha => ?_)) ?_)).to ?_), fun q => ?_, fun q => ⟨.int k, ?_, PE.name rfl⟩⟩
        · rcases List.mem_cons.mp hx with rfl | hx
          · exact strOk_S fun a ha => by rw [List.mem_singleton.mp ha]; decide
          · rw [List.mem_singleton.mp hx]; exact strOk_S fun a ha => by rw [List.mem_singleton.mp ha]; exact hd1
        · rw [List.mem_singleton.mp ha]; exact hc1
        · have := hA.u; show A.units + 3 + 65 < 9900; omega
        · simp only [List.any_cons, List.any_nil, eqv_str, S_one, fitAt, hc, hd, Bool.or_false]
          rw [show (63 == c) = (c == 63) from BEq.comm, show (d == c) = (c == d) from BEq.comm]
        · rw [if_pos (by simpa using q)]
        · rw [if_neg (by simpa using q)]
      · exact Caps.cons (fun _ _ => .inl rfl) (fun _ _ => rfl) rfl (.inl rfl) (Caps.cons (fun _ _ => .inl rfl) (fun _ _ => rfl) rfl (.inl rfl) Caps.nil)
      · exact shaped_flat (fun k => if fitAt p (n.drop (n.length - p.length)) k then [] else [(k : Int)]) fun k => by split <;> rfl
      · have := hA.u; show A.units + 3 + 64 < 9900; omega
      · refine .inl ?_
        rw [eqv_nil]
        unfold fits
        rw [if_neg hle]
end
end Mine
end
section
open PySem PySem.Spec PySem.Calls PyProof.Rows PySem.W PySem.SeqAt PySem.Builtin PySem.Builtin.Str
set_option maxRecDepth 100000
set_option linter.unusedVariables false
set_option autoImplicit false
namespace Mine
noncomputable def slips (ps : List (List Nat)) (n : List Nat) : Bool := (ps.filter fun p => fits p n).isEmpty
noncomputable def longer (row : List (List Nat)) : List (List Nat) := row.flatMap fun n => [97, 98].map fun c => n ++ [c]
noncomputable def row (ps : List (List Nat)) : Nat → List (List Nat)
  | 0 => [[]]
  | k + 1 => (longer (row ps k)).filter (slips ps)
theorem row_len (ps : List (List Nat)) : ∀ k, (row ps k).length ≤ 2 ^ k
  | 0 => by simp [row]
  | k + 1 => by
    have h := row_len ps k
    refine Nat.le_trans (List.length_filter_le ..) ?_
    have : ∀ l : List (List Nat), (longer l).length = l.length * 2 := fun l => by
      induction l with
      | nil => rfl
      | cons a l ih => unfold longer at ih ⊢; rw [List.flatMap_cons, List.length_append, ih]; simp; omega
    rw [this, Nat.pow_succ]; omega
theorem row_of {ps : List (List Nat)} : ∀ {k : Nat} {n : List Nat}, n ∈ row ps k → n.length = k ∧ ∀ c ∈ n, c = 97 ∨ c = 98
  | 0, n, h => by rw [List.mem_singleton.mp h]; simp
  | k + 1, n, h => by
    obtain ⟨m, hm, hc⟩ := List.mem_flatMap.mp (List.mem_filter.mp h).1
    obtain ⟨c, hc, rfl⟩ := List.mem_map.mp hc
    obtain ⟨h1, h2⟩ := row_of hm
    refine ⟨by simp [h1], fun d hd => ?_⟩
    rcases List.mem_append.mp hd with q | q
    · exact h2 d q
    · rw [List.mem_singleton.mp q]; simpa using hc
theorem longer_len (l : List (List Nat)) : (longer l).length = l.length * 2 := by
  induction l with
  | nil => rfl
  | cons a l ih => unfold longer at ih ⊢; rw [List.flatMap_cons, List.length_append, ih]; simp; omega
theorem longer_of {ps : List (List Nat)} {k : Nat} : ∀ n ∈ longer (row ps k), n.length = k + 1 ∧ ∀ c ∈ n, c < 128 := fun n hn => by
  obtain ⟨m, hm, hc⟩ := List.mem_flatMap.mp hn
  obtain ⟨c, hc, rfl⟩ := List.mem_map.mp hc
  obtain ⟨h1, h2⟩ := row_of hm
  refine ⟨by simp [h1], fun d hd => ?_⟩
  rcases List.mem_append.mp hd with q | q
  · rcases h2 d q with q | q <;> rw [q] <;> decide
  · rw [List.mem_singleton.mp q]
    have : c = 97 ∨ c = 98 := by simpa using hc
    rcases this with q | q <;> rw [q] <;> decide
theorem names_eq {l : List (List Nat)} : (l.flatMap fun n => [97, 98].map fun c => strD (n ++ [c])) = (longer l).map strD := by
  unfold longer
  rw [← flat_map]
  rfl
/-- a pattern as it may come -/
noncomputable def Pat (p : List Nat) : Prop := p.length < 100 ∧ ∀ c ∈ p, c < 128

section
variable {prog : Program} {w : World} {h00 : Heap} {R : Shared} {A : Around}
set_option maxHeartbeats 1000000 in
theorem c_grown (G : Top0 w.params h00) (hA : Roomy 90 900 A) (ps : List (List Nat)) (hps : ∀ p ∈ ps, Pat p) (hl : ps.length < 100) :
    CallP prog w h00 R A (.ref 265) [.d (strsD ps)] (.d (.list ((List.range 7).map fun i => strsD (row ps i)))) := by
  refine CallP.def_ ["patterns"] G.X G.T (Nat.lt_trans hA.d (by decide)) rfl rfl rfl rfl (fun vals hv => ?_) ?_ rfl ?_ ?_
  · match vals, hv with
    | [a], _ => rfl
  · decide
  · decide
  · intro L hid
    refine TS.cons (TX.assign rfl (.inl rfl) (TE.display (as := [.d (strsD [[]])]) (PEs.cons (PE.displayD (ds := [strD []]) (PEs.cons PE.cStr PEs.nil) (by decide)) PEs.nil) (by decide) fun a _ => ?_))
    refine TS.cons (TX.for rfl (.inl rfl) (PE.range (n := 6) (PE.built0 G (by kernel_rfl) (by kernel_rfl) (by decide)) PE.cInt) (IterP.range (by decide) hA.h)
      (fun i l d => d = [(a, .list ((List.range (i + 1)).map fun j => .d (strsD (row ps j))))] ∧ l.lookup ("rows" : Str) = some (.raw (.ref a)) ∧ l.lookup ("patterns" : Str) = some (.d (strsD ps))) ⟨rfl, rfl, rfl⟩ (fun hid i x l d hx iv => ?_) (fun l d iv => ?_))
    · obtain ⟨rfl, hr, hp⟩ := iv
      have hi6 : i < 6 := by have := item_nat hx; simpa using this
      have hA' : ∀ env, Roomy 91 903 (A.deeper env) := fun _ => hA.deeper
      refine TS.cons (TX.compX (g := fun n => AV.d (strD n)) (xs := row ps i) (fun n => [97, 98].map fun c => strD (n ++ [c])) (fun env => emitTwo _ 1 _ env) [] (fun _ => LoopRule.outer) rfl (.inl rfl)
        (PE.itemLed (PE.name hr) (PE.neg PE.cInt) (List.mem_singleton.mpr rfl) (j := i) (x := .d (strsD (row ps i))) (.inl ⟨by decide, ?_, ?_⟩) ?_ ?_) (IterP.words (hA' _).h) ?_ (fun C hid n hn => ⟨true, PIfs.nil, noTF, fun _ => ?_⟩) ?_ rfl (.inl fun _ _ => .inl rfl) Caps.nil rfl rfl (by decide) (fun _ => rfl) rfl)
      · simp; omega
      · simp; omega
      · simp
      · simp; omega
      · refine Nat.le_trans (len_flat (c := 2) fun n _ => by simp) ?_
        have := row_len ps i
        have : 2 ^ i ≤ 2 ^ 6 := Nat.pow_le_pow_right (by decide) (by omega)
        have := line_big
        omega
      · obtain ⟨hn1, hn2⟩ := row_of hn
        have e2 : ([97, 98].map fun c => strD (n ++ [c])) = [97, 98].flatMap fun c => [strD (n ++ [c])] := rfl
        rw [e2]
        refine EmitP.two (g := fun c => AV.d (strD [c])) (xs := [97, 98]) (fun c => [strD (n ++ [c])]) rfl (.inl rfl) PE.cStr (IterP.str (hA' _).h) rfl (fun hid c hc => ⟨true, PIfs.nil, noTF, fun _ => EmitP.one (PE.bin (PE.name rfl) (PE.name rfl) (Op2.addL (by simp [hn1]; omega)))⟩) (fun _ => rfl)
      · refine TS.cons (TX.expr (TE.methB (PE.name (by exact hr)) (MethX.list (List.mem_singleton.mpr rfl) F.slot_list_append F.type_list_append) rfl (PEs.cons
          (PE.comp (g := fun n => AV.d (strD n)) (xs := longer (row ps i)) (fun n => if slips ps n then [strD n] else []) [("patterns", .d (strsD ps))] (PE.name rfl) ?_ ?_ (fun C hid n hn => ⟨slips ps n, PIfs.one ((PT.cmp
            (PE.comp (g := fun p => AV.d (strD p)) (xs := ps) (fun p => if fits p n then [strD p] else []) [("name", .d (strD n))] (PE.name rfl) (IterP.words (hA' _).h) ?_ (fun C2 hid2 p hp2 => ⟨fits p n, PIfs.one (PT.val (PE.callK G.X rfl (PE.glob0 G rfl) (PEs.cons (PE.name rfl) (PEs.cons (PE.name rfl) PEs.nil)) (c_fits G (hA' _).le p n (hps p hp2).1 ?_ ?_))), fun q => ?_, fun q => ⟨_, ?_, PE.name rfl⟩⟩) ?_)
            (PE.displayD (ds := []) PEs.nil (by decide)) (Op2.eq ?_ shaped_nil ?_)).to ?_), fun q => ?_, fun q => ⟨_, ?_, PE.name rfl⟩⟩) ?_) PEs.nil) (CallT.append (List.mem_singleton.mpr rfl) ?_ ?_)))
        all_goals have hL : ∀ n ∈ longer (row ps i), n.length = i + 1 ∧ ∀ c ∈ n, c < 128 := longer_of
        · exact IterP.as names_eq (hA' _).h
        · refine Nat.le_trans (len_flat (c := 1) fun n _ => by split <;> simp) ?_
          have := longer_len (row ps i)
          have := row_len ps i
          have : 2 ^ i ≤ 2 ^ 6 := Nat.pow_le_pow_right (by decide) (by omega)
          have := line_big
          omega
        · refine Nat.le_trans (len_flat (c := 1) fun n _ => by split <;> simp) ?_
          have := line_big
          omega
        · have := (hL n hn).1; omega
        · intro c hc
          rcases List.mem_append.mp hc with q | q
          · exact (hps p hp2).2 c q
          · exact (hL n hn).2 c q
        · rw [if_neg (by simpa using q)]
        · rw [if_pos q]
        · exact Caps.cons (fun _ _ => .inl rfl) (fun _ _ => rfl) rfl (.inl rfl) Caps.nil
        · rw [flat_filter]
          exact shaped_words fun x hx => (hps x (List.mem_filter.mp hx).1).2
        · have := hA.u; show A.units + 3 + 64 < 9900; omega
        · rw [flat_filter, eqv_nil]; unfold slips; cases ps.filter fun p => fits p n <;> rfl
        · rw [if_neg (by simpa using q)]
        · rw [if_pos q]
        · exact Caps.cons (fun _ _ => .inl rfl) (fun _ _ => rfl) hp (.inl rfl) Caps.nil
        · simp; have := line_big; omega
        · refine ⟨rfl, TS.nil ⟨?_, hr, hp⟩⟩
          simp only [upd, List.map_cons, List.map_nil, if_true]
          rw [List.range_succ (n := i + 1), List.map_append]
          simp [row, flat_filter]
    · obtain ⟨rfl, hr, hp⟩ := iv
      rw [List.length_map, List.length_range]
      refine TS.freeze [] [("rows", .d (.list ((List.range 7).map fun i => strsD (row ps i))))] (List.nil_sublist _) (fun s D y a' e => ?_) (TS.cons (TX.ret (TE.pe (PE.name rfl) (.inl rfl))))
      rw [List.lookup_cons] at e
      by_cases q : y = ("rows" : Str)
      · subst q
        simp at e; subst e
        refine ⟨_, hr, fun v hv => ?_⟩
        cases hv
        exact d_of_lst (by rw [List.map_map]; exact D.seen_list (List.nil_sublist _) (List.mem_singleton.mpr rfl) (by simp))
      · rw [show (y == ("rows" : Str)) = false by simpa using q] at e; cases e
end
end Mine
end
section
open PySem PySem.Spec PySem.Calls PyProof.Rows PySem.W PySem.SeqAt PySem.Builtin PySem.Builtin.Str
set_option maxRecDepth 100000
set_option linter.unusedVariables false
set_option autoImplicit false
namespace Mine
section
variable {prog : Program} {w : World} {A : Around} {E : Value → Shared → Prop} {h : Heap} {g : Array GenState} {d : Drawn} {t : Nat} {os : OsState}
theorem lookup_keep {dA : Addr} {c : Nat} {f : Int → Option Value} {s : Shared} {Q : Mapped → Shared → Prop} (hm : s.heap.MapOf (intKind prog w) dA f) (hv : f c = none) (hd : (dA == sysModules) = false) (hh : A.handled = none)
    (k : ∀ h' tk, Ext s.heap h' → Q .keep { s with heap := h', toks := tk }) : wpAny (model prog w) A (tableLookup (.ref dA) c) Q E s := by
  unfold tableLookup
  refine wpAny_bind (wpAny_attempt ?_)
  refine wpAny_bind (wpAny_mkInt (wpAny_getItem_missing_of (k := (c : Int)) (intKind_is prog w _ _) hd hh hm hv fun h' e ne => ?_))
  obtain ⟨ob, t, ho, hc, _⟩ := ne.there
  refine wpAny_bind (wpAny_isInstance (T := "KeyError") ⟨ob, ho, hc⟩ (b := true) (by rw [isSubtype_type]; kernel_rfl) ?_)
  simp only [if_true]
  exact wpAny_bind (wpAny_rule (wpAny_pure (k _ _ ne.keeps)))
theorem translate_one {dA : Addr} {c : Nat} {f : Int → Option Value} {s : Shared} {tk : Tok} {Q : Value → Shared → Prop} (hc : c < 128) (hm : s.heap.MapOf (intKind prog w) dA f) (hv : f c = none) (hd : (dA == sysModules) = false) (hh : A.handled = none)
    (k : ∀ h' tk t, Ext s.heap h' → Q (.str (S [c]) t) { s with heap := h', toks := tk }) : wpAny (model prog w) A (call (.builtin "str.translate") [.str (S [c]) tk, .ref dA]) Q E s := by
  refine wpAny_call_entry F.slot_str_translate (typeIs_str s (S [c]) tk) F.entry_str_translate ?_ (F.args_str_translate_2 _ _)
  unfold Builtin.«str.translate»
  refine wpAny_bind (wpAny_of_eq (a := (.str (S [c]) tk, S [c], .ref dA)) (by first | rfl | kernel_rfl) ?_)
  dsimp only
  rw [if_neg (show ¬ ((S [c]).length == 0) = true by simp [Str.length])]
  have hall : (#[c].all fun x => decide (x < 128)) = true := by simp [hc]
  have e0 : tooLong 0 = false := by decide
  rw [List.forIn_toArray, List.forIn_cons]
  simp only [hall, e0, Bool.false_eq_true, if_false, if_true, List.lookup_nil]
  refine wpAny_bind (wpAny_bind (wpAny_bind (lookup_keep hm hv hd hh fun h' tk' ext => ?_)))
  simp only [pure_bind, List.forIn_nil]
  refine wpAny_pure (wpAny_pure ?_)
  dsimp only
  rw [if_neg (show ¬ tooLong (0 + 1) = true by decide)]
  show wpAny _ _ (mkStr (S [c]) >>= fun v => ret v) _ _ _
  exact wpAny_bind (wpAny_mkStr (wpAny_pure ⟨_, rfl, k _ _ _ ext⟩) (show 1 ≤ sizeLine by decide))
end
section
variable {prog : Program} {w : World} {h00 : Heap} {R : Shared} {A : Around} {fm : Fm} {loc : Loc} {led : Led}
theorem CallP.isStr {x : Str} : CallP prog w h00 R A (.builtin "isinstance") [.d (.str x), .raw (.type "str")] (.d (.bool true)) := fun X s vals Q E B rv k => by
  cases rv with
  | cons r rs => cases rs with
    | cons r2 rs =>
      cases rs
      obtain ⟨t, rfl⟩ := reads_str r
      cases r2
      exact PySem.IsiPair.str_str (k _ s.heap s.toks Ext.rfl vr_bool)
theorem MethP.str {x : Str} {name : Str} {id : String} (slot : Slot "str" name id) (hty : typeOf (.builtin id) = pure (.type "method_descriptor")) : MethP prog w h00 R A (.d (.str x)) name (.builtin id) := fun X s v pl Q E B r k => by
  obtain ⟨t, rfl⟩ := reads_str r
  exact getMethod_builtin (typeIs_str s x t) PySem.F.plainAttrs_str slot hty (fun a e => nomatch e) k
theorem keys_int {es : Array DictEntry} (h : (es.toList.all fun e => match e.key with | .int k _ => e.hash == hashInt k | _ => false) = true) : KeysOf (intKind prog w) es := fun e he => by
  have := List.all_eq_true.mp h e (by simpa using he)
  split at this
  · next k t hk => exact ⟨k, by rw [hk]; exact intKind_is prog w k t, by show e.hash = hashInt k; simpa using this⟩
  · cases this
theorem mapDict (G : Top0 w.params h00) : ∃ f, h00.MapOf (intKind prog w) 87 f ∧ f 97 = none ∧ f 98 = none := by
  have e : ∃ es ep, (KK w.params).lookup 87 = some { cls := .type "dict", data := .dict es ep } ∧ (es.toList.all fun e => match e.key with | .int k _ => e.hash == hashInt k | _ => false) = true ∧ findBy Value.isInt es 97 = none ∧ findBy Value.isInt es 98 = none :=
    ⟨_, _, rfl, by kernel_rfl, by kernel_rfl, by kernel_rfl⟩
  obtain ⟨es, ep, h1, h2, h3, h4⟩ := e
  exact ⟨_, ⟨_, es, ep, G.X _ _ h1, ⟨rfl, rfl, rfl⟩, rfl, keys_int h2, fun _ => rfl⟩, h3, h4⟩
theorem MapOf.keeps {h h' : Heap} {a : Addr} {f : Int → Option Value} (x : h.MapOf (intKind prog w) a f) (k : Ext h h') : h'.MapOf (intKind prog w) a f := by
  obtain ⟨o, es, ep, ho, r⟩ := x; exact ⟨o, es, ep, k _ _ ho, r⟩
theorem CallP.translate (G : Top0 w.params h00) (hh : A.handled = none) {c : Nat} (hc : c = 97 ∨ c = 98) : CallP prog w h00 R A (.builtin "str.translate") [.d (.str (S [c])), .raw (.ref 87)] (.d (.str (S [c]))) := fun X s vals Q E B rv k => by
  cases rv with
  | cons r rs => cases rs with
    | cons r2 rs =>
      cases rs
      obtain ⟨t, rfl⟩ := reads_str r
      cases r2
      obtain ⟨f, hm, h1, h2⟩ := mapDict (prog := prog) G
      refine translate_one (f := f) (by rcases hc with rfl | rfl <;> decide) (MapOf.keeps hm (B.base.trans hide_le)) ?_ (by decide) hh fun h' tk t e => k _ _ _ e vr_str
      rcases hc with rfl | rfl
      · exact h1
      · exact h2
set_option maxHeartbeats 400000 in
theorem c_escape (G : Top0 w.params h00) (hA : Roomy 120 1200 A) {c : Nat} (hc : c = 97 ∨ c = 98) : CallP prog w h00 R A (.ref 97) [.d (.str (S [c]))] (.d (.str (S [c]))) := by
  refine CallP.def_ ["pattern"] G.X G.T (Nat.lt_trans hA.d (by decide)) rfl rfl rfl rfl (fun vals hv => ?_) ?_ rfl ?_ ?_
  · match vals, hv with
    | [a], _ => rfl
  · decide
  · decide
  · intro L hid
    refine TS.cons (TX.if (b := true) (PT.val (PE.callB (id := "isinstance") (PE.built0 G (by kernel_rfl) (by kernel_rfl) (by decide)) (PEs.cons (PE.name rfl) (PEs.cons (PE.built0 G (by kernel_rfl) (by kernel_rfl) (by decide)) PEs.nil)) CallP.isStr)) (fun _ => ?_) noTF)
    exact TS.cons (TX.ret (TE.pe (PE.meth (id := "str.translate") (PE.name rfl) (MethP.str F.slot_str_translate F.type_str_translate) (PEs.cons (PE.glob0 G rfl) PEs.nil) (CallP.translate G (show (A.deeper _).handled = none from hA.h) hc)) (.inl rfl)))
end
end Mine
end
section
open PySem PySem.Spec PySem.Calls PyProof.Rows PySem.W PySem.SeqAt PySem.Builtin PySem.Builtin.Str
set_option maxRecDepth 100000
set_option linter.unusedVariables false
set_option autoImplicit false
namespace Mine
/-- the parts of a pattern: none for the star -/
noncomputable def trStep (res : List (Option (List Nat))) (c : Nat) : List (Option (List Nat)) := if c = 42 then (if res.getLast? = some none then res else res ++ [none]) else if c = 63 then res ++ [some [97, 98]] else res ++ [some [c]]
noncomputable def tr (p : List Nat) : List (Option (List Nat)) := p.foldl trStep []
noncomputable def partAV (st : Addr) : Option (List Nat) → AV
  | none => .raw (.ref st)
  | some l => .d (.str (S l))
noncomputable def Sign (c : Nat) : Prop := c = 97 ∨ c = 98 ∨ c = 63 ∨ c = 42
theorem trStep_len (res : List (Option (List Nat))) (c : Nat) : (trStep res c).length ≤ res.length + 1 := by
  unfold trStep; split
  · split <;> simp
  · split <;> simp
theorem trFold_len : ∀ (p : List Nat) (res : List (Option (List Nat))), (p.foldl trStep res).length ≤ res.length + p.length
  | [], res => by simp
  | c :: p, res => by
    rw [List.foldl_cons]
    have := trFold_len p (trStep res c)
    have := trStep_len res c
    simp; omega
theorem tr_take (p : List Nat) (i c : Nat) (h : p[i]? = some c) : (p.take (i + 1)).foldl trStep [] = trStep ((p.take i).foldl trStep []) c := by
  rw [List.take_add_one, h, List.foldl_append]; rfl

section
variable {prog : Program} {w : World} {h00 : Heap} {R : Shared} {A : Around} {fm : Fm} {loc : Loc} {led : Led}
theorem Op2.eqS {a b : Nat} (ha : a < 128) (hb : b < 128) (hu : A.units + 64 < 9900) : Op2 prog w A (compareOp .Eq) (.d (.str (S [a]))) (.d (.str (S [b]))) (.d (.bool (a == b))) := by
  have := Op2.eq (prog := prog) (w := w) (A := A) (x := .str (S [a])) (y := .str (S [b])) (shaped_str (strOk_S fun c hc => by rw [List.mem_singleton.mp hc]; exact ha)) (shaped_str (strOk_S fun c hc => by rw [List.mem_singleton.mp hc]; exact hb)) hu
  rwa [eqv_str, S_one] at this
theorem Op2.eqI {a b : Int} (hu : A.units + 64 < 9900) : Op2 prog w A (compareOp .Eq) (.d (.int a)) (.d (.int b)) (.d (.bool (a == b))) := by
  have := Op2.eq (prog := prog) (w := w) (A := A) (x := .int a) (y := .int b) (shaped_int _) (shaped_int _) hu
  rwa [eqv_int] at this
theorem map_getLast {α β : Type} (f : α → β) (l : List α) (x : α) (h : l.getLast? = some x) : (l.map f)[l.length - 1]? = some (f x) := by
  rw [List.getElem?_map]
  rw [List.getLast?_eq_getElem?] at h
  rw [h]; rfl
set_option maxHeartbeats 1000000 in
theorem c_translate (G : Top0 w.params h00) (hA : Roomy 110 1100 A) (p : List Nat) (hp : ∀ c ∈ p, Sign c) (hl : p.length < 100) (st : Addr) {star : AV} (hst : 42 ∈ p → star = .raw (.ref st)) :
    CallP prog w h00 R A (.ref 104) [.d (.str (S p)), star, .d (.str (S [97, 98]))] (.lst ((tr p).map (partAV st))) := by
  refine CallP.def_ ["pat", "STAR", "QUESTION_MARK"] G.X G.T (Nat.lt_trans hA.d (by decide)) rfl rfl rfl rfl (fun vals hv => ?_) ?_ rfl ?_ ?_
  · match vals, hv with
    | [a, b, c], _ => rfl
  · decide
  · decide
  · intro L hid
    have hA' : ∀ env, Roomy 111 1103 (A.deeper env) := fun _ => hA.deeper
    have hu : ∀ env, (A.deeper env).units + 64 < 9900 := fun env => by have := (hA' env).u; omega
    refine TS.cons (TX.assign rfl (.inl rfl) (TE.display (as := []) PEs.nil (by decide) fun a _ => ?_))
    refine TS.cons (TX.assign rfl (.inl rfl) (TE.pe (PE.boundAppend (PE.name rfl) (List.mem_singleton.mpr rfl)) ?_))
    refine TS.cons (TX.assign2 rfl (.inl rfl) (.inl rfl) (hA' _).h (PE.tuple (PEs.cons PE.cInt (PEs.cons (PE.lenS G (PE.name rfl) (by omega)) PEs.nil)) (show 2 ≤ sizeLine by decide)) ?_)
    refine TS.cons (TX.while (fun n l d => ∃ i, n = p.length - i ∧ i ≤ p.length ∧ d = [(a, .list (((p.take i).foldl trStep []).map (partAV st)))] ∧ l.lookup ("pat" : Str) = some (.d (.str (S p))) ∧ l.lookup ("STAR" : Str) = some star ∧
      l.lookup ("QUESTION_MARK" : Str) = some (.d (.str (S [97, 98]))) ∧ l.lookup ("res" : Str) = some (.raw (.ref a)) ∧ l.lookup ("add" : Str) = some (.x (bndHP "builtin_function_or_method" "list.append" (.ref a))) ∧ l.lookup ("i" : Str) = some (.d (.int i)) ∧ l.lookup ("n" : Str) = some (.d (.int p.length)))
      p.length ⟨0, rfl, Nat.zero_le _, rfl, rfl, rfl, rfl, rfl, rfl, rfl, rfl⟩ fun n l d iv => ?_)
    obtain ⟨i, rfl, hi, rfl, h1, h2, h3, h4, h5, h6, h7⟩ := iv
    refine ⟨decide ((i : Int) < p.length), PT.cmp (PE.name h6) (PE.name h7) Op2.lt, fun hlt => ?_, fun hge => ?_⟩
    · have hlt : i < p.length := by have := of_decide_eq_true hlt; omega
      obtain ⟨c, hc⟩ : ∃ c, p[i]? = some c := ⟨p[i], by simp [hlt]⟩
      have hcs : Sign c := hp c (List.mem_of_getElem? hc)
      have hc1 : c < 128 := by rcases hcs with q | q | q | q <;> rw [q] <;> decide
      refine TS.cons (TX.assign rfl (.inl rfl) (TE.pe (PE.sign (PE.name h1) (PE.name h6) hc (by omega)) ?_))
      refine TS.cons (TX.assign rfl (.inl rfl) (TE.pe (PE.bin (PE.name (by exact h6)) PE.cInt Op2.add) ?_))
      have hlen : ((p.take i).foldl trStep []).length ≤ 100 := by
        have := trFold_len (p.take i) []
        rw [List.length_take] at this
        simp at this; omega
      have hbig := line_big
      have back : ∀ (l' : Loc) (d' : Led), d' = [(a, .list ((trStep ((p.take i).foldl trStep []) c).map (partAV st)))] → l' = (("i" : Str), AV.d (.int ((i : Int) + 1))) :: (("c" : Str), AV.d (.str (S [c]))) :: l →
          ∃ m, m < p.length - i ∧ ∃ i', m = p.length - i' ∧ i' ≤ p.length ∧ d' = [(a, .list (((p.take i').foldl trStep []).map (partAV st)))] ∧ l'.lookup ("pat" : Str) = some (.d (.str (S p))) ∧ l'.lookup ("STAR" : Str) = some star ∧
      l'.lookup ("QUESTION_MARK" : Str) = some (.d (.str (S [97, 98]))) ∧ l'.lookup ("res" : Str) = some (.raw (.ref a)) ∧ l'.lookup ("add" : Str) = some (.x (bndHP "builtin_function_or_method" "list.append" (.ref a))) ∧ l'.lookup ("i" : Str) = some (.d (.int i')) ∧ l'.lookup ("n" : Str) = some (.d (.int p.length)) := fun l' d' hd hl' => by
        subst hd hl'
        refine ⟨p.length - (i + 1), by omega, i + 1, rfl, hlt, by rw [tr_take p i c hc], h1, h2, h3, h4, h5, by simp, h7⟩
      refine TS.cons (TX.if (b := c == 42) (PT.cmp (PE.name rfl) PE.cStr (Op2.eqS (b := 42) hc1 (by decide) (hu _))) (fun q => ?_) (fun q => ?_))
      · obtain rfl : c = 42 := by simpa using q
        obtain rfl := hst (List.mem_of_getElem? hc)
        generalize hres : (p.take i).foldl trStep [] = res at back hlen ⊢
        have hne : (res.map (partAV st)).isEmpty = res.isEmpty := by cases res <;> rfl
        refine TS.cons (TX.if (b := !(res.getLast? == some none)) ?_ (fun q => ?_) (fun q => ?_))
        · refine (PT.or (b := res.isEmpty) (c := !(res.getLast? == some none)) ((PT.not (PT.list (PE.name (by exact h4)) (List.mem_singleton.mpr rfl) (by simp; omega))).to (by rw [hne]; simp)) (fun q => ?_)).to ?_
          · obtain ⟨x, hx⟩ : ∃ x, res.getLast? = some x := by
              cases h : res.getLast? with
              | none => rw [List.getLast?_eq_none_iff] at h; subst h; cases q
              | some x => exact ⟨x, rfl⟩
            have hpos : res.length ≠ 0 := by intro h; rw [List.length_eq_zero_iff] at h; subst h; cases q
            rw [hx]
            cases x with
            | none => exact PT.cmp (PE.itemLed (PE.name (by exact h4)) (PE.neg PE.cInt) (List.mem_singleton.mpr rfl) (j := res.length - 1) (.inl ⟨by decide, by simp; omega, by simp; omega⟩) (map_getLast (partAV st) res _ hx) (by simp; omega)) (PE.name (by exact h2)) Op2.isNotSelf
            | some y => exact PT.cmp (PE.itemLed (PE.name (by exact h4)) (PE.neg PE.cInt) (List.mem_singleton.mpr rfl) (j := res.length - 1) (.inl ⟨by decide, by simp; omega, by simp; omega⟩) (map_getLast (partAV st) res _ hx) (by simp; omega)) (PE.name (by exact h2)) Op2.isNotStr
          · cases res with
            | nil => rfl
            | cons y ys => simp
        · have q' : res.getLast? ≠ some none := by simpa using q
          refine TS.cons (TX.expr (TE.callBound (PE.name (by exact h5)) (PE.name (by exact h2)) (List.mem_singleton.mpr rfl) (by simp; omega) ⟨rfl, TS.nil (TS.nil (TS.nil (back _ _ ?_ rfl)))⟩))
          simp [upd, trStep, q', partAV]
        · have q' : res.getLast? = some none := by simpa using q
          refine TS.nil (TS.nil (TS.nil (back _ _ ?_ rfl)))
          simp [trStep, q']
      · have q' : c ≠ 42 := by simpa using q
        refine TS.cons (TX.if (b := c == 63) (PT.cmp (PE.name rfl) PE.cStr (Op2.eqS (b := 63) hc1 (by decide) (hu _))) (fun q2 => ?_) (fun q2 => ?_))
        · obtain rfl : c = 63 := by simpa using q2
          refine TS.cons (TX.expr (TE.callBound (PE.name (by exact h5)) (PE.name (by exact h3)) (List.mem_singleton.mpr rfl) (by simp; omega) ⟨rfl, TS.nil (TS.nil (TS.nil (back _ _ ?_ rfl)))⟩))
          simp [upd, trStep, partAV]
        · have q2' : c ≠ 63 := by simpa using q2
          have hab : c = 97 ∨ c = 98 := by rcases hcs with z | z | z | z <;> simp_all
          refine TS.cons (TX.if (b := false) ((PT.cmp (PE.name rfl) PE.cStr (Op2.eqS (b := 91) hc1 (by decide) (hu _))).to (by rcases hab with rfl | rfl <;> rfl)) noFT (fun _ => ?_))
          refine TS.cons (TX.expr (TE.callBound (PE.name (by exact h5)) (PE.callK G.X rfl (PE.glob0 G rfl) (PEs.cons (PE.name rfl) PEs.nil) (c_escape G (hA' _).le hab)) (List.mem_singleton.mpr rfl) (by simp; omega) ⟨rfl, TS.nil (TS.nil (TS.nil (TS.nil (back _ _ ?_ rfl))))⟩))
          simp [upd, trStep, q', q2', partAV]
    · have hge : i = p.length := by have := of_decide_eq_false hge; omega
      subst hge
      refine TS.nil (TS.cons (TX.assert ((PT.cmp (PE.name h6) (PE.name h7) (Op2.eqI (hu _))).to (by simp)) ?_))
      · rw [List.take_length]
        refine TS.freeze [] [("res", .lst ((tr p).map (partAV st)))] (List.nil_sublist _) (fun s D y a' e => ?_) (TS.cons (TX.ret (TE.pe (PE.name rfl) (.inl rfl))))
        rw [List.lookup_cons] at e
        by_cases q : y = ("res" : Str)
        · subst q
          simp at e; subst e
          refine ⟨_, h4, fun v hv => ?_⟩
          cases hv
          exact D.seen_list (List.nil_sublist _) (List.mem_singleton.mpr rfl) (by simp)
        · rw [show (y == ("res" : Str)) = false by simpa using q] at e; cases e
end
end Mine
end
section
open PySem PySem.Spec PySem.Calls PyProof.Rows PySem.W PySem.SeqAt PySem.Builtin PySem.Builtin.Str
set_option maxRecDepth 100000
set_option linter.unusedVariables false
set_option autoImplicit false
namespace Mine
noncomputable def onward (n l : List Nat) (k : Int) : Bool := decide (k < n.length) && (match n[k.toNat]? with | some c => decide (c ∈ l) | none => false)
noncomputable def takesStep (n : List Nat) (ends : List Int) : Option (List Nat) → List Int
  | none => rangeL (best (ends ++ [9])) ((n.length : Int) + 1)
  | some l => ends.flatMap fun k => if onward n l k then [k + 1] else []
noncomputable def takes (p n : List Nat) : Bool := ((tr p).foldl (takesStep n) [0]).any fun k => k == n.length
theorem argBest_le (bt : Nat → Nat → Bool) : ∀ k, argBest bt k ≤ k
  | 0 => Nat.le_refl _
  | k + 1 => by unfold argBest; split; exact Nat.le_refl _; exact Nat.le_trans (argBest_le bt k) (Nat.le_succ _)
theorem best_mem {l : List Int} (h : l ≠ []) : best l ∈ l := by
  have hl : 0 < l.length := List.length_pos_iff.mpr h
  unfold best
  have := argBest_le (fun i j => decide (l.getD i 0 < l.getD j 0)) (l.length - 1)
  rw [List.getD_eq_getElem?_getD, List.getElem?_eq_getElem (by omega)]
  exact List.getElem_mem _
theorem mem_rangeL {a b x : Int} (h : x ∈ rangeL a b) : a ≤ x ∧ x < b := by
  have h2 := mem_rangeInts h
  have : 0 < (b - a).toNat := by
    rcases Nat.eq_zero_or_pos (b - a).toNat with q | q
    · unfold rangeL at h; rw [q] at h; cases h
    · exact q
  omega
noncomputable def EndsOk (ends : List Int) : Prop := (∀ k ∈ ends, 0 ≤ k ∧ k ≤ 200) ∧ ends.length ≤ 200
theorem rangeL_len (a b : Int) : (rangeL a b).length = (b - a).toNat := rangeInts_length ..
theorem takesStep_ok {n : List Nat} (hn : n.length < 100) {ends : List Int} (h : EndsOk ends) (o : Option (List Nat)) : EndsOk (takesStep n ends o) := by
  cases o with
  | none =>
    have hb := best_mem (l := ends ++ [9]) (by simp)
    have h0 : 0 ≤ best (ends ++ [9]) := by
      rcases List.mem_append.mp hb with q | q
      · exact (h.1 _ q).1
      · rw [List.mem_singleton.mp q]; decide
    refine ⟨fun k hk => ?_, ?_⟩
    · have := mem_rangeL hk; omega
    · show (rangeL _ _).length ≤ 200
      rw [rangeL_len]; omega
  | some l =>
    refine ⟨fun k hk => ?_, ?_⟩
    · obtain ⟨j, hj, hk⟩ := List.mem_flatMap.mp hk
      by_cases q : onward n l j = true
      · rw [if_pos q] at hk
        have := h.1 j hj
        have hlt : j < n.length := of_decide_eq_true (Bool.and_eq_true_iff.mp q).1
        rw [List.mem_singleton.mp hk]; omega
      · rw [if_neg q] at hk; cases hk
    · show (ends.flatMap _).length ≤ 200
      refine Nat.le_trans ?_ h.2
      have : ∀ e : List Int, (e.flatMap fun k => if onward n l k then [k + 1] else []).length ≤ e.length := fun e => by
        induction e with
        | nil => simp
        | cons a e ih => rw [List.flatMap_cons, List.length_append, List.length_cons]; split <;> simp only [List.length_cons, List.length_nil] <;> omega
      exact this ends
theorem takesFold_ok {n : List Nat} (hn : n.length < 100) : ∀ (l : List (Option (List Nat))) {ends : List Int}, EndsOk ends → EndsOk (l.foldl (takesStep n) ends)
  | [], _, h => h
  | o :: l, _, h => takesFold_ok hn l (takesStep_ok hn h o)
theorem tr_part {p : List Nat} : ∀ {o : Option (List Nat)}, o ∈ tr p → o = none ∨ ∃ l, o = some l ∧ (l = [97, 98] ∨ ∃ c ∈ p, l = [c]) := by
  have : ∀ (q : List Nat) (res : List (Option (List Nat))), (∀ c ∈ q, c ∈ p) → (∀ o ∈ res, o = none ∨ ∃ l, o = some l ∧ (l = [97, 98] ∨ ∃ c ∈ p, l = [c])) → ∀ o ∈ q.foldl trStep res, o = none ∨ ∃ l, o = some l ∧ (l = [97, 98] ∨ ∃ c ∈ p, l = [c]) := fun q => by
    induction q with
    | nil => intro res _ h; exact h
    | cons c q ih =>
      intro res hq h
      rw [List.foldl_cons]
      refine ih _ (fun d hd => hq d (List.mem_cons_of_mem _ hd)) fun o ho => ?_
      unfold trStep at ho
      split at ho
      · split at ho
        · exact h o ho
        · rcases List.mem_append.mp ho with z | z
          · exact h o z
          · exact .inl (List.mem_singleton.mp z)
      · split at ho
        · rcases List.mem_append.mp ho with z | z
          · exact h o z
          · exact .inr ⟨_, List.mem_singleton.mp z, .inl rfl⟩
        · rcases List.mem_append.mp ho with z | z
          · exact h o z
          · exact .inr ⟨_, List.mem_singleton.mp z, .inr ⟨c, hq c List.mem_cons_self, rfl⟩⟩
  exact fun {o} ho => this p [] (fun _ h => h) (fun _ h => nomatch h) o ho

section
variable {prog : Program} {w : World} {h00 : Heap} {R : Shared} {A : Around} {fm : Fm} {loc : Loc} {led : Led}
theorem IterP.ints {l : List Int} (hh : A.handled = none) : IterP prog w h00 R A (.d (intsD l)) (l.map fun k => AV.d (.int k)) := by
  have := IterP.list (prog := prog) (w := w) (h00 := h00) (R := R) (ds := l.map .int) hh
  rwa [List.map_map] at this
theorem Op2.inSigns {c : Nat} {l : List Nat} : Op2 prog w A (compareOp .In) (.d (.str (S [c]))) (.d (.str (S l))) (.d (.bool (decide (c ∈ l)))) := by
  have := Op2.inS (prog := prog) (w := w) (A := A) (x := S l) (y := S [c])
  rwa [StrLaws.found_one] at this
set_option maxHeartbeats 1000000 in
theorem c_takes (G : Top0 w.params h00) (hA : Roomy 90 900 A) (p n : List Nat) (hp : ∀ c ∈ p, Sign c) (hl : p.length < 100) (hn : n.length < 100) :
    CallP prog w h00 R A (.ref 270) [.d (.str (S p)), .d (.str (S n))] (.d (.bool (takes p n))) := by
  refine CallP.def_ ["pattern", "name"] G.X G.T (Nat.lt_trans hA.d (by decide)) rfl rfl rfl rfl (fun vals hv => ?_) ?_ rfl ?_ ?_
  · match vals, hv with
    | [a, b], _ => rfl
  · decide
  · decide
  · intro L hid
    have hA' : ∀ env, Roomy 91 903 (A.deeper env) := fun _ => hA.deeper
    have hu : ∀ env, (A.deeper env).units + 65 < 9900 := fun env => by have := (hA' env).u; omega
    have hbig := line_big
    refine TS.cons (TX.assign rfl (.inl rfl) (TE.display (as := [.d (strD [42])]) (PEs.cons PE.cStr PEs.nil) (by decide) fun st _ => ?_))
    refine TS.cons (TX.assign rfl (.inl rfl) (TE.pe (PE.displayD (ds := [.int 0]) (PEs.cons PE.cInt PEs.nil) (by decide)) ?_))
    refine TS.cons (TX.for rfl (stores_cell rfl (by decide)) (PE.callK G.X rfl (PE.glob0 G rfl) (PEs.cons (PE.name rfl) (PEs.cons (PE.name rfl) (PEs.cons PE.cStr PEs.nil))) (c_translate G (hA' _).le p hp hl st fun _ => rfl)) (IterP.lst (hA' _).h)
      (fun i l d => d = [(st, .list [.d (strD [42])])] ∧ l.lookup ("star" : Str) = some (.raw (.ref st)) ∧ l.lookup ("name" : Str) = some (.d (strD n)) ∧ l.lookup ("ends" : Str) = some (.d (intsD (((tr p).take i).foldl (takesStep n) [0]))))
      ⟨rfl, rfl, rfl, rfl⟩ (fun hid i x l d hx iv => ?_) (fun l d iv => ?_))
    · obtain ⟨rfl, h1, h2, h3⟩ := iv
      rw [List.getElem?_map] at hx
      obtain ⟨o, ho, rfl⟩ := Option.map_eq_some_iff.mp hx
      have hstep : ((tr p).take (i + 1)).foldl (takesStep n) [0] = takesStep n (((tr p).take i).foldl (takesStep n) [0]) o := by rw [List.take_add_one, ho, List.foldl_append]; rfl
      have hok : EndsOk (((tr p).take i).foldl (takesStep n) [0]) := takesFold_ok hn _ ⟨by simp, by simp⟩
      generalize ((tr p).take i).foldl (takesStep n) [0] = ends at h3 hstep hok
      cases o with
      | none =>
        refine TS.cons (TX.if (b := true) (PT.cmp (PE.name rfl) (PE.name h1) Op2.isSelf) (fun _ => ?_) noTF)
        have hb := best_mem (l := ends ++ [9]) (by simp)
        have hb2 : 0 ≤ best (ends ++ [9]) ∧ best (ends ++ [9]) ≤ 200 := by
          rcases List.mem_append.mp hb with q | q
          · exact hok.1 _ q
          · rw [List.mem_singleton.mp q]; decide
        refine TS.cons (TX.assign rfl (.inl rfl) (TE.pe (PE.listRange (a := best (ends ++ [9])) (b := (n.length : Int) + 1) (PE.built0 G (by kernel_rfl) (by kernel_rfl) (by decide)) (PE.range2 (PE.built0 G (by kernel_rfl) (by kernel_rfl) (by decide))
          (PE.callB (id := "min") (PE.built0 G (by kernel_rfl) (by kernel_rfl) (by decide)) (PEs.cons ((PE.bin (PE.name (by exact h3)) (PE.displayD (ds := [.int 9]) (PEs.cons PE.cInt PEs.nil) (by decide)) (Op2.addLists ?_)).mono fun B v r => ?_) PEs.nil) (CallP.min (by simp) (hA' _).h))
          (PE.bin (PE.lenS G (PE.name (by exact h2)) (by omega)) PE.cInt Op2.add)) (hA' _).h ?_ ?_ ?_) ?_))
        · have := hok.2; simp; omega
        · have := d_of_lst r
          rwa [show (ends.map PyData.int ++ [PyData.int 9]) = (ends ++ [9]).map PyData.int by simp] at this
        · omega
        · omega
        · omega
        · exact TS.nil (TS.nil ⟨rfl, h1, h2, by rw [hstep]; rfl⟩)
      | some l0 =>
        have hl0 : l0.length < 1000 ∧ ∀ c ∈ l0, c < 128 := by
          rcases tr_part (List.mem_of_getElem? ho) with q | ⟨l', q, q2⟩
          · cases q
          · cases q
            rcases q2 with rfl | ⟨c, hc, rfl⟩
            · exact ⟨by decide, by decide⟩
            · refine ⟨by simp, fun d hd => ?_⟩
              rw [List.mem_singleton.mp hd]
              rcases hp c hc with z | z | z | z <;> rw [z] <;> decide
        refine TS.cons (TX.if (b := false) (PT.cmp (PE.name rfl) (PE.name h1) Op2.isStr) noFT (fun _ => ?_))
        refine TS.cons (TX.comp (g := fun k => AV.d (.int k)) (xs := ends) (fun k => if onward n l0 k then [PyData.int (k + 1)] else []) [("name", .d (strD n)), ("part", .d (strD l0))] rfl (.inl rfl) (PE.name (by exact h3)) (IterP.ints (hA' _).h) ?_
          (fun C hid k hk => ⟨onward n l0 k, PIfs.one ((PT.and (b := decide (k < (n.length : Int))) (c := onward n l0 k) (PT.cmp (PE.name rfl) (PE.lenS G (PE.name rfl) (by omega)) Op2.lt) (fun q => ?_)).to ?_), fun q => ?_, fun q => ⟨.int (k + 1), ?_, PE.bin (PE.name rfl) PE.cInt Op2.add⟩⟩) ?_ ?_)
        · refine Nat.le_trans (len_flat (c := 1) fun k _ => by split <;> simp) ?_
          have := hok.2; omega
        · have hlt : k < (n.length : Int) := of_decide_eq_true q
          have h0 := (hok.1 k hk).1
          obtain ⟨j, rfl⟩ : ∃ j : Nat, k = j := ⟨k.toNat, by omega⟩
          have hj : j < n.length := by omega
          obtain ⟨c, hc⟩ : ∃ c, n[j]? = some c := ⟨n[j], by simp [hj]⟩
          have e : onward n l0 j = decide (c ∈ l0) := by unfold onward; rw [Int.toNat_natCast, hc]; simp [hj]
          rw [e]
          exact PT.cmp (PE.sign (PE.name rfl) (PE.name rfl) hc (by omega)) (PE.name rfl) Op2.inSigns
        · unfold onward; cases decide (k < (n.length : Int)) <;> simp
        · rw [if_neg (by simpa using q)]
        · rw [if_pos q]
        · refine TS.nil (TS.nil ⟨rfl, h1, h2, ?_⟩)
          rw [hstep]
          show some _ = some _
          congr 3
          unfold takesStep
          rw [← flat_map]
          congr 1
          refine funext fun k => ?_
          split <;> rfl
        · exact Caps.cons (fun _ _ => .inl rfl) (fun _ _ => rfl) h2 (.inl rfl) (Caps.cons (fun _ _ => .inl rfl) (fun _ _ => rfl) rfl (.inl rfl) Caps.nil)
    · obtain ⟨rfl, h1, h2, h3⟩ := iv
      rw [List.length_map, List.take_length] at h3
      have hok : EndsOk ((tr p).foldl (takesStep n) [0]) := takesFold_ok hn _ ⟨by simp, by simp⟩
      refine TS.cons (TX.ret (TE.pe ((PE.cmp (PE.lenS G (PE.name h2) (by omega)) (PE.name h3) (Op2.inL (shaped_ints _) (shaped_int _) (hu _))).to ?_) (.inl rfl)))
      refine congrArg (fun b => AV.d (PyData.bool b)) ?_
      unfold takes
      rw [List.any_map]
      refine congrArg (fun f => List.any _ f) (funext fun k => ?_)
      simp [eqv_int]
end
end Mine
end
section
open PySem PySem.Spec PySem.Calls PyProof.Rows PySem.W PySem.SeqAt PySem.Builtin PySem.Builtin.Str
set_option maxRecDepth 100000
set_option linter.unusedVariables false
set_option autoImplicit false
namespace Mine
noncomputable def six (w : List Nat) : List Nat := (List.replicate 6 w).flatten
noncomputable def sixOf (w : List Nat) : List Nat := (six w).take 6
noncomputable def endWords : List (List Nat) := [[97], [98], [97, 98], [97, 97, 98], [97, 98, 98], [97, 97, 98, 98]]
noncomputable def untaken (ps : List (List Nat)) (w : List Nat) : Bool := (ps.filter fun p => takes ([42] ++ p ++ [42]) (sixOf w)).isEmpty
noncomputable def endless (ps : List (List Nat)) : List (List Nat) := endWords.filter (untaken ps)
theorem six_facts : ∀ w ∈ endWords, (⟨(List.replicate 6 (S w).cps).foldl (· ++ ·) #[]⟩ : Str) = S (six w) ∧ strCut (S (six w)) none (some 6) none = S (sixOf w) ∧ w.length < 10 ∧ 0 < w.length ∧ (six w).length < 100 ∧ (sixOf w).length < 100 := by decide +kernel
section
variable {prog : Program} {w : World} {h00 : Heap} {R : Shared} {A : Around} {fm : Fm} {loc : Loc} {led : Led}
theorem Op2.mul6 {x : List Nat} (h : (⟨(List.replicate 6 (S x).cps).foldl (· ++ ·) #[]⟩ : Str) = S (six x)) (h1 : 0 < x.length) (h2 : x.length < 10) (h3 : (six x).length < 100) : Op2 prog w A (binaryOp .Mult) (.d (.str (S x))) (.d (.int 6)) (.d (.str (S (six x)))) := fun X s u v Q E lo ru rv k => by
  obtain ⟨t1, rfl⟩ := reads_str ru
  obtain ⟨t2, rfl⟩ := reads_int rv
  have hl : (S x).length = x.length := S_len x
  refine P.mul_str (by decide) (fun _ _ => ?_) (fun _ _ => ?_) ?_
  · rw [hl]; have : ((2 : Int) ^ 63 - 1) / 6 = 1537228672809129301 := by decide
    rw [this]; omega
  · rw [hl]; have : x.length * (6 : Int).toNat ≤ 60 := by simp; omega
    unfold tooLong; have := line_big; exact decide_eq_false (by omega)
  · rw [if_neg (by decide), if_neg (by rw [show ((6 : Int) == 1) = false by decide, Bool.false_or, beq_iff_eq]; omega)]
    rw [show (6 : Int).toNat = 6 from rfl, h]
    exact made_str (by rw [S_len]; have := line_big; omega) fun v h' tk e r => k v h' tk e (r _)
set_option maxHeartbeats 1000000 in
theorem c_endless (G : Top0 w.params h00) (hA : Roomy 80 800 A) (ps : List (List Nat)) (hps : ∀ p ∈ ps, p.length < 90 ∧ ∀ c ∈ p, Sign c) (hl : ps.length < 100) :
    CallP prog w h00 R A (.ref 275) [.d (strsD ps)] (.d (strsD (endless ps))) := by
  refine CallP.def_ ["patterns"] G.X G.T (Nat.lt_trans hA.d (by decide)) rfl rfl rfl rfl (fun vals hv => ?_) ?_ rfl ?_ ?_
  · match vals, hv with
    | [a], _ => rfl
  · decide
  · decide
  · intro L hid
    have hA' : ∀ env, Roomy 81 803 (A.deeper env) := fun _ => hA.deeper
    have hu : ∀ env, (A.deeper env).units + 64 < 9900 := fun env => by have := (hA' env).u; omega
    have hbig := line_big
    refine TS.cons (TX.assign rfl (.inl rfl) (TE.display (as := []) PEs.nil (by decide) fun a _ => ?_))
    refine TS.cons (TX.for rfl (.inl rfl) (PE.displayD (ds := endWords.map strD) (PEs.cons PE.cStr (PEs.cons PE.cStr (PEs.cons PE.cStr (PEs.cons PE.cStr (PEs.cons PE.cStr (PEs.cons PE.cStr PEs.nil)))))) (by decide)) (IterP.words (hA' _).h)
      (fun i l d => d = [(a, .list (((endWords.take i).filter (untaken ps)).map fun n => .d (strD n)))] ∧ l.lookup ("endless" : Str) = some (.raw (.ref a)) ∧ l.lookup ("patterns" : Str) = some (.d (strsD ps)))
      ⟨rfl, rfl, rfl⟩ (fun hid i x l d hx iv => ?_) (fun l d iv => ?_))
    · obtain ⟨rfl, h1, h2⟩ := iv
      rw [List.getElem?_map] at hx
      obtain ⟨wd, hw, rfl⟩ := Option.map_eq_some_iff.mp hx
      obtain ⟨f1, f2, f3, f4, f5, f6⟩ := six_facts wd (List.mem_of_getElem? hw)
      have hcut : (strCut (S (six wd)) none (some 6) none).length ≤ sizeLine := by rw [f2, S_len]; omega
      have hstep : (endWords.take (i + 1)).filter (untaken ps) = (endWords.take i).filter (untaken ps) ++ (if untaken ps wd then [wd] else []) := by
        rw [List.take_add_one, hw, List.filter_append]; cases h : untaken ps wd <;> simp [h]
      refine TS.cons (TX.assign rfl (stores_cell rfl (by decide)) (TE.pe ((PE.item (PE.bin (PE.name rfl) PE.cInt (Op2.mul6 f1 f4 f3 f5)) (PE.slice (l := none) (u := some _) (st := none) (a := none) (b := some 6) (c := none) trivial PE.cInt trivial) (ItemP.strCut (by decide) hcut)).to (by rw [f2])) ?_))
      refine TS.cons (TX.if (b := untaken ps wd) ((PT.cmp (PE.comp (g := fun p => AV.d (strD p)) (xs := ps) (fun p => if takes ([42] ++ p ++ [42]) (sixOf wd) then [strD p] else []) [("name", .d (strD (sixOf wd)))] (PE.name (by exact h2)) (IterP.words (hA' _).h) ?_
          (fun C2 hid2 p hp2 => ⟨takes ([42] ++ p ++ [42]) (sixOf wd), PIfs.one (PT.val (PE.callK G.X rfl (PE.glob0 G rfl) (PEs.cons (PE.bin (PE.bin PE.cStr (PE.name rfl) (Op2.addL (a := [42]) ?_)) PE.cStr (Op2.addL (b := [42]) ?_)) (PEs.cons (PE.name rfl) PEs.nil)) (c_takes G (hA' _).le _ (sixOf wd) ?_ ?_ f6))), fun q => ?_, fun q => ⟨_, ?_, PE.name rfl⟩⟩) ?_)
          (PE.displayD (ds := []) PEs.nil (by decide)) (Op2.eq ?_ shaped_nil (hu _))).to ?_) (fun q => ?_) (fun q => ?_))
      · refine Nat.le_trans (len_flat (c := 1) fun n _ => by split <;> simp) ?_
        omega
      · have := (hps p hp2).1; simp; omega
      · have := (hps p hp2).1; simp; omega
      · intro c hc
        rcases List.mem_append.mp hc with z | z
        · rcases List.mem_append.mp z with z | z
          · exact .inr (.inr (.inr (List.mem_singleton.mp z)))
          · exact (hps p hp2).2 c z
        · exact .inr (.inr (.inr (List.mem_singleton.mp z)))
      · have := (hps p hp2).1; simp; omega
      · rw [if_neg (by simpa using q)]
      · rw [if_pos q]
      · exact Caps.cons (fun _ _ => .inl rfl) (fun _ _ => rfl) rfl (.inl rfl) Caps.nil
      · rw [flat_filter]
        exact shaped_words fun x hx c hc => by rcases (hps x (List.mem_filter.mp hx).1).2 c hc with z | z | z | z <;> rw [z] <;> decide
      · rw [flat_filter, eqv_nil]; unfold untaken; cases ps.filter fun p => takes ([42] ++ p ++ [42]) (sixOf wd) <;> rfl
      · refine TS.cons (TX.expr (TE.methB (PE.name (by exact h1)) (MethX.list (List.mem_singleton.mpr rfl) F.slot_list_append F.type_list_append) rfl (PEs.cons (PE.name rfl) PEs.nil) (CallT.append (List.mem_singleton.mpr rfl) ?_ ⟨rfl, TS.nil (TS.nil ⟨?_, h1, h2⟩)⟩)))
        · have : ((endWords.take i).filter (untaken ps)).length ≤ 6 := Nat.le_trans (List.length_filter_le ..) (by rw [List.length_take]; exact Nat.le_trans (Nat.min_le_right ..) (by decide))
          rw [List.length_map]; omega
        · rw [hstep, if_pos q]; simp [upd]
      · refine TS.nil (TS.nil ⟨?_, h1, h2⟩)
        rw [hstep, if_neg (by simpa using q)]; simp
    · obtain ⟨rfl, h1, h2⟩ := iv
      rw [List.length_map, List.take_length]
      refine TS.freeze [] [("endless", .d (strsD (endless ps)))] (List.nil_sublist _) (fun s D y a' e => ?_) (TS.cons (TX.ret (TE.pe (PE.name rfl) (.inl rfl))))
      rw [List.lookup_cons] at e
      by_cases q : y = ("endless" : Str)
      · subst q
        simp at e; subst e
        refine ⟨_, h1, fun v hv => ?_⟩
        cases hv
        exact d_of_lst (by rw [List.map_map]; exact D.seen_list (List.nil_sublist _) (List.mem_singleton.mpr rfl) (by simp))
      · rw [show (y == ("endless" : Str)) = false by simpa using q] at e; cases e
end
end Mine
end
section
open PySem PySem.Spec PySem.Calls PyProof.Rows PySem.W PySem.SeqAt PySem.Builtin PySem.Builtin.Str
set_option maxRecDepth 100000
set_option linter.unusedVariables false
set_option autoImplicit false
namespace Mine
noncomputable def codeAt (ns : List Int) (k : Nat) : Int := (sumOf (pick ns (some (k : Int)) none (some 3))).fmod 1000000
noncomputable def codes (ns : List Int) : List Int := [codeAt ns 0, codeAt ns 1, codeAt ns 2]
noncomputable def firstSign (k : Nat) (code : Int) (place : Nat) : Nat := if ((code + 2).fdiv (2 ^ place)).fmod 2 = 0 then 97 + k else 63
noncomputable def firstPat (k : Nat) (code : Int) : List Nat := [0, 1, 2].map (firstSign k code)
noncomputable def moreSign (code : Int) (place : Nat) : Nat := [97, 98, 63].getD (((code.fdiv 24).fdiv (3 ^ place) + place).fmod 3).toNat 97
noncomputable def moreSize (code : Int) : Nat := (1 + (code.fdiv 8 + 2).fmod 3).toNat
noncomputable def morePat (code : Int) : List Nat := (List.range (moreSize code)).map (moreSign code)
noncomputable def pats (ns : List Int) : List (List Nat) := [firstPat 0 (codeAt ns 0), firstPat 1 (codeAt ns 1)] ++ ((codes ns).take ns.length).map morePat
theorem codeAt_range (ns : List Int) (k : Nat) : 0 ≤ codeAt ns k ∧ codeAt ns k < 1000000 := ⟨Int.fmod_nonneg_of_pos _ (by decide), Int.fmod_lt_of_pos _ (by decide)⟩
section
variable {prog : Program} {w : World} {h00 : Heap} {R : Shared} {A : Around} {fm : Fm} {loc : Loc} {led : Led}
theorem PE.lenL (G : Top0 w.params h00) {ds : List PyData} {e : Expr} {p q : Pos} (h : PE prog w h00 R A fm loc led e (.d (.list ds))) (hz : ds.length < 1000)
    (hs : starEach [e] fm.env = (false, eval e fm.env) :: starEach [] fm.env := by rfl)
    (hg : fm.env.globals = mainGlobals := by rfl) (hb : fm.env.builtins = builtinsNs := by rfl) (hk : fm.env.scope.kind = .function := by rfl) (hx : fm.env.kindOf "len" = some .globalImplicit := by rfl) :
    PE prog w h00 R A fm loc led (.Call (.Name "len" p) [e] [] q) (.d (.int ds.length)) :=
  PE.callB (id := "len") (PE.built0 G (by kernel_rfl) (by kernel_rfl) (by decide) hg hb hk hx) (PEs.cons h PEs.nil hs) (CallP.lenL (Nat.lt_trans hz (by decide))) (by simp) (fun _ _ q => by cases q; exact hs) (fun _ _ q => by cases q; rfl) rfl
theorem Caps.one {scope : Scope} {cl : List (Str × Addr)} {x : Str} {a : AV} (h1 : ∀ C hid, (compFm fm scope cl C hid).env.kindOf x = some .cell ∨ (compFm fm scope cl C hid).env.kindOf x = some .free)
    (h2 : ∀ C hid, (compFm fm scope cl C hid).env.cells.lookup x = fm.env.cells.lookup x) (h3 : loc.lookup x = some a) (h4 : fm.env.kindOf x = some .cell ∨ fm.env.kindOf x = some .free) : Caps fm loc scope cl [(x, a)] := Caps.cons h1 h2 h3 h4 Caps.nil
theorem pick_take {α : Type} (ds : List α) (n : Nat) : pick ds none (some (n : Int)) none = ds.take n := by
  have e : sliceBounds none (some (n : Int)) none ds.length = (((0 : Nat) : Int), ((min n ds.length : Nat) : Int), 1) := by
    simp only [sliceBounds, Option.getD_none, show (1 : Int) > 0 by decide, if_true, if_neg (show ¬ ((n : Int) < 0) by omega)]
    congr 1
    congr 1
    omega
  unfold pick
  rw [e]
  simp only [sliceRange_one]
  have := StrLaws.picks ds (min n ds.length) 0 (by omega)
  rw [List.drop_zero] at this
  rw [List.take_eq_take_min, ← this]
  rfl
theorem flat_one {α β γ : Type} (f : α → β) (k : β → γ) (l : List α) : (l.flatMap fun a => [k (f a)]) = (l.map f).map k := by induction l with | nil => rfl | cons a l ih => rw [List.flatMap_cons, ih]; rfl
theorem flat_sing {α β : Type} (f : α → β) (l : List α) : (l.map fun a => [f a]).flatten = l.map f := by induction l with | nil => rfl | cons a l ih => rw [List.map_cons, List.flatten_cons, ih]; rfl
theorem fd2 (code : Int) (place : Nat) (h : place < 3) : (((code + 2).fdiv (2 ^ place)).fmod 2) = (((((code + 2).fdiv (2 ^ place)).fmod 2).toNat : Nat) : Int) ∧ (((code + 2).fdiv (2 ^ place)).fmod 2).toNat < 2 := by
  have h1 := Int.fmod_nonneg_of_pos ((code + 2).fdiv (2 ^ place)) (show (0 : Int) < 2 by decide)
  have h2 := Int.fmod_lt_of_pos ((code + 2).fdiv (2 ^ place)) (show (0 : Int) < 2 by decide)
  omega
theorem fd3 (x : Int) : x.fmod 3 = ((x.fmod 3).toNat : Int) ∧ (x.fmod 3).toNat < 3 := by
  have h1 := Int.fmod_nonneg_of_pos x (show (0 : Int) < 3 by decide)
  have h2 := Int.fmod_lt_of_pos x (show (0 : Int) < 3 by decide)
  omega
set_option maxHeartbeats 1000000 in
theorem c_patterns (G : Top0 w.params h00) (hA : Roomy 80 800 A) (ns : List Int) (hl : ns.length < 100) :
    CallP prog w h00 R A (.ref 229) [.d (intsD ns)] (.d (strsD (pats ns))) := by
  refine CallP.def_ ["script"] G.X G.T (Nat.lt_trans hA.d (by decide)) rfl rfl rfl rfl (fun vals hv => ?_) ?_ rfl ?_ ?_
  · match vals, hv with
    | [a], _ => rfl
  · decide
  · decide
  · intro L hid
    have hA' : ∀ env, Roomy 81 803 (A.deeper env) := fun _ => hA.deeper
    have hbig := line_big
    have hcl : (codes ns).length = 3 := rfl
    refine TS.cons (TX.assign rfl (stores_cell rfl (by decide)) (TE.pe (PE.comp (g := fun (k : Nat) => AV.d (.int k)) (xs := List.range 3) (fun k => [PyData.int (codeAt ns k)]) [("script", .d (intsD ns))] (PE.range (n := 3) (PE.built0 G (by kernel_rfl) (by kernel_rfl) (by decide)) PE.cInt) (IterP.range (by decide) (hA' _).h) (show 3 ≤ sizeLine by decide)
      (fun C hid k hk => ⟨true, PIfs.nil, noTF, fun _ => ⟨_, rfl, PE.bin (PE.callB (id := "sum") (PE.built0 G (by kernel_rfl) (by kernel_rfl) (by decide)) (PEs.cons ((PE.cutL (l := some _) (u := none) (st := some _) (a := some (k : Int)) (b := none) (c := some 3) (PE.name rfl) (PE.name rfl) trivial PE.cInt (by decide) (by rw [List.length_map]; omega)).to (by rw [pick_map])) PEs.nil) (CallP.sum (l := pick ns (some (k : Int)) none (some 3)) (hA' _).h)) (PE.bin PE.cInt (PE.cInt (i := 6)) (Op2.pow (n := 6) (by decide) (by decide))) (Op2.mod (by decide))⟩⟩)
      ?_) ?_))
    · exact Caps.one (fun _ _ => .inl rfl) (fun _ _ => rfl) rfl (.inl rfl)
    have e0 : ((List.range 3).flatMap fun k => [PyData.int (codeAt ns k)]) = (codes ns).map .int := rfl
    rw [e0]
    refine TS.cons (TX.assign rfl (.inl rfl) (TE.display (as := []) PEs.nil (by decide) fun a _ => ?_))
    refine TS.cons (TX.for rfl (stores_cell rfl (by decide)) (PE.range (n := 2) (PE.built0 G (by kernel_rfl) (by kernel_rfl) (by decide)) PE.cInt) (IterP.range (by decide) (hA' _).h)
      (fun i l d => d = [(a, .list (((List.range i).map fun k => firstPat k ((codes ns).getD k 0)).map fun n => .d (strD n)))] ∧ l.lookup ("patterns" : Str) = some (.raw (.ref a)) ∧ l.lookup ("codes" : Str) = some (.d (intsD (codes ns))) ∧ l.lookup ("script" : Str) = some (.d (intsD ns)))
      ⟨rfl, rfl, rfl, rfl⟩ (fun hid k x l d hx iv => ?_) (fun l d iv => ?_))
    · obtain ⟨rfl, h1, h2, h3⟩ := iv
      have hk2 : k < 2 := by have := item_nat hx; simpa using this
      obtain rfl : x = .d (.int k) := by
        rw [List.getElem?_map, List.getElem?_range (by omega)] at hx
        exact (Option.some.inj hx).symm
      have hck : (codes ns)[k]? = some ((codes ns).getD k 0) := by rw [List.getD_eq_getElem?_getD, List.getElem?_eq_getElem (by omega)]; rfl
      generalize hcode : (codes ns).getD k 0 = code at hck ⊢
      have habk : [97, 98][k]? = some (97 + k) := by
        rcases k with _ | _ | k <;> first | rfl | omega
      refine TS.cons (TX.expr (TE.methB (PE.name (by exact h1)) (MethX.list (List.mem_singleton.mpr rfl) F.slot_list_append F.type_list_append) rfl (PEs.cons (PE.meth (id := "str.join") PE.cStr (MethP.str F.slot_str_join F.type_str_join) (PEs.cons
        (PE.comp (g := fun (i : Nat) => AV.d (.int i)) (xs := List.range 3) (fun place => [strD [firstSign k code place]]) [("k", .d (.int k)), ("codes", .d (intsD (codes ns)))] (PE.range (n := 3) (PE.built0 G (by kernel_rfl) (by kernel_rfl) (by decide)) PE.cInt) (IterP.range (by decide) (hA' _).h) (show 3 ≤ sizeLine by decide)
          (fun C hid place hp => ⟨true, PIfs.nil, noTF, fun _ => ⟨_, rfl, PE.item (PE.displayD (ds := [strD [97 + k], strD [63]]) (PEs.cons (PE.sign (l := [97, 98]) PE.cStr (PE.name rfl) habk (by decide)) (PEs.cons PE.cStr PEs.nil)) (show 2 ≤ sizeLine by decide))
            ((PE.bin (PE.bin (PE.bin (PE.item (PE.name rfl) (PE.name rfl) (ItemP.list (ds := (codes ns).map PyData.int) (a := .int code) (by rw [List.getElem?_map, hck]; rfl) (by rw [List.length_map, hcl]; decide))) PE.cInt Op2.add) (PE.bin PE.cInt (PE.name rfl) (Op2.pow (a := 2) (n := place) ?_ (by decide))) (Op2.fdiv ?_ ?_)) PE.cInt (Op2.mod (by decide))).to (congrArg (fun z => AV.d (PyData.int z)) (fd2 code place (List.mem_range.mp hp)).1)) (ItemP.list (ds := [strD [97 + k], strD [63]]) ?_ (show 2 < 2 ^ 62 by decide))⟩⟩) ?_) PEs.nil) (CallP.join (l := (List.range 3).map fun place => [firstSign k code place]) ?_)) PEs.nil) (CallT.append (List.mem_singleton.mpr rfl) ?_ ⟨rfl, TS.nil ⟨?_, h1, h2, h3⟩⟩)))
      · have := List.mem_range.mp hp; omega
      · have := List.mem_range.mp hp; rcases place with _ | _ | _ | _ <;> first | decide | omega
      · have := List.mem_range.mp hp; rcases place with _ | _ | _ | _ <;> first | decide | omega
      · obtain ⟨h4, h5⟩ := fd2 code place (List.mem_range.mp hp)
        unfold firstSign
        generalize ((code + 2).fdiv (2 ^ place)).fmod 2 = z at h4 h5
        generalize z.toNat = m at h4 h5
        subst h4
        rcases m with _ | _ | m
        · rfl
        · rfl
        · omega
      · exact Caps.cons (fun _ _ => .inl rfl) (fun _ _ => rfl) rfl (.inl rfl) (Caps.one (fun _ _ => .inl rfl) (fun _ _ => rfl) h2 (.inl rfl))
      · exact (show 3 ≤ 16777216 by decide)
      · simp; omega
      · simp only [upd, List.map_cons, List.map_nil, if_true]
        rw [List.range_succ (n := k), List.map_append, List.map_append, List.map_singleton, List.map_singleton, hcode]
        rfl
    · obtain ⟨rfl, h1, h2, h3⟩ := iv
      refine TS.cons (TX.for rfl (stores_cell rfl (by decide)) ((PE.cutL (l := none) (u := some _) (st := none) (a := none) (b := some ((ns.map PyData.int).length : Int)) (c := none) (PE.name h2) trivial (PE.lenL G (PE.name h3) (by rw [List.length_map]; omega)) trivial (by decide) (by rw [List.length_map, hcl]; decide)).to (by rw [pick_map, pick_take, List.length_map])) (IterP.ints (l := (codes ns).take ns.length) (hA' _).h)
        (fun i l d => d = [(a, .list (([firstPat 0 (codeAt ns 0), firstPat 1 (codeAt ns 1)] ++ (((codes ns).take ns.length).take i).map morePat).map fun n => .d (strD n)))] ∧ l.lookup ("patterns" : Str) = some (.raw (.ref a)))
        ⟨rfl, h1⟩ (fun hid i x l d hx iv => ?_) (fun l d iv => ?_))
      · obtain ⟨rfl, h1⟩ := iv
        rw [List.getElem?_map] at hx
        obtain ⟨code, hc, rfl⟩ := Option.map_eq_some_iff.mp hx
        have hsz : 1 + (code.fdiv 8 + 2).fmod 3 = ((moreSize code : Nat) : Int) ∧ moreSize code ≤ 3 := by
          obtain ⟨h4, h5⟩ := fd3 (code.fdiv 8 + 2)
          unfold moreSize; omega
        refine TS.cons (TX.assign rfl (.inl rfl) (TE.pe ((PE.bin PE.cInt (PE.bin (PE.bin (PE.bin (PE.name rfl) PE.cInt (Op2.fdiv (by decide) (by decide))) PE.cInt Op2.add) PE.cInt (Op2.mod (by decide))) Op2.add).to (congrArg (fun z => AV.d (PyData.int z)) hsz.1)) ?_))
        refine TS.cons (TX.expr (TE.methB (PE.name (by exact h1)) (MethX.list (List.mem_singleton.mpr rfl) F.slot_list_append F.type_list_append) rfl (PEs.cons (PE.meth (id := "str.join") PE.cStr (MethP.str F.slot_str_join F.type_str_join) (PEs.cons
          ((PE.comp (g := fun (i : Nat) => AV.d (.int i)) (xs := List.range (moreSize code)) (fun place => [strD [moreSign code place]]) [("code", .d (.int code))] (PE.range (n := moreSize code) (PE.built0 G (by kernel_rfl) (by kernel_rfl) (by decide)) (PE.name rfl)) (IterP.range (by omega) (hA' _).h) ?_
            (fun C hid place hp => ⟨true, PIfs.nil, noTF, fun _ => ⟨_, rfl, PE.sign (l := [97, 98, 63]) PE.cStr
              ((PE.bin (PE.bin (PE.bin (PE.bin (PE.name rfl) PE.cInt (Op2.fdiv (by decide) (by decide))) (PE.bin PE.cInt (PE.name rfl) (Op2.pow (a := 3) (n := place) ?_ (by decide))) (Op2.fdiv ?_ ?_)) (PE.name rfl) Op2.add) PE.cInt (Op2.mod (by decide))).to (congrArg (fun z => AV.d (PyData.int z)) (fd3 ((code.fdiv 24).fdiv (3 ^ place) + place)).1)) ?_ (by decide)⟩⟩) ?_).to (congrArg (fun l => AV.d (PyData.list l)) (flat_one (fun place => [moreSign code place]) strD _))) PEs.nil) (CallP.join (l := (List.range (moreSize code)).map fun place => [moreSign code place]) ?_)) PEs.nil) (CallT.append (List.mem_singleton.mpr rfl) ?_ ⟨rfl, TS.nil ⟨?_, h1⟩⟩)))
        · refine Nat.le_trans (len_flat (c := 1) fun _ _ => by simp) ?_
          rw [List.length_range]; omega
        · have := List.mem_range.mp hp; omega
        · have := List.mem_range.mp hp; rcases place with _ | _ | _ | _ <;> first | decide | omega
        · have := List.mem_range.mp hp; rcases place with _ | _ | _ | _ <;> first | decide | omega
        · obtain ⟨h4, h5⟩ := fd3 ((code.fdiv 24).fdiv (3 ^ place) + place)
          unfold moreSign
          generalize (((code.fdiv 24).fdiv (3 ^ place) + (place : Int)).fmod 3).toNat = m at h5 ⊢
          rcases m with _ | _ | _ | m <;> first | rfl | omega
        · exact Caps.one (fun _ _ => .inl rfl) (fun _ _ => rfl) rfl (.inl rfl)
        · rw [List.map_map, show ((fun x : List Nat => x.length) ∘ fun place => [moreSign code place]) = fun _ => 1 from rfl, List.map_const', List.sum_replicate_nat]
          simp; omega
        · simp
          have : i < (codes ns).length := by have := item_nat hc; rw [List.length_take] at this; omega
          omega
        · simp only [upd, List.map_cons, List.map_nil, if_true]
          rw [List.take_add_one (l := (codes ns).take ns.length), hc]
          have e1 : ((List.range (moreSize code)).map fun place => [moreSign code place]).flatten = morePat code := by
            exact flat_sing _ _
          simp [e1]
      · obtain ⟨hd, h1⟩ := iv
        rw [List.length_map, List.take_length] at hd
        subst hd
        refine TS.freeze [] [("patterns", .d (strsD (pats ns)))] (List.nil_sublist _) (fun s D y a' e => ?_) (TS.cons (TX.ret (TE.pe (PE.name rfl) (.inl rfl))))
        rw [List.lookup_cons] at e
        by_cases q : y = ("patterns" : Str)
        · subst q
          simp at e; subst e
          refine ⟨_, h1, fun v hv => ?_⟩
          cases hv
          refine d_of_lst ?_
          have := D.seen_list (List.nil_sublist _) (List.mem_singleton.mpr rfl) (by simp)
          rw [List.map_map]
          exact this
        · rw [show (y == ("patterns" : Str)) = false by simpa using q] at e; cases e
end
end Mine
end
section
open PySem PySem.Spec PySem.Calls PyProof.Rows PySem.W PySem.SeqAt PySem.Builtin PySem.Builtin.Str
set_option maxRecDepth 100000
set_option linter.unusedVariables false
set_option autoImplicit false
namespace Mine
section
variable {prog : Program} {w : World} {h00 : Heap} {R : Shared} {A : Around} {fm : Fm} {loc : Loc} {led : Led}
/-- a record: its addresses and its agents -/
noncomputable def recLed (x dx ua rl : Addr) (agents : List (List Nat)) : Led :=
  [(rl, .list []), (ua, .list (agents.map fun n => .d (strD n))), (x, .inst 76 dx), (dx, .dict [("useragents", .raw (.ref ua)), ("rulelines", .raw (.ref rl)), ("delay", .d .none), ("req_rate", .d .none)])]
set_option maxHeartbeats 1000000 in
theorem c_Entry (G : Top0 w.params h00) (hA : Roomy 90 900 A) {Φ : AV → Led → Prop} (k : ∀ x dx ua rl, dx ≠ x → ua ≠ x → ua ≠ dx → rl ≠ x → rl ≠ dx → rl ≠ ua → Φ (.raw (.ref x)) (led ++ recLed x dx ua rl [])) :
    CallT prog w h00 R A fm loc led (.ref 76) [] Φ := by
  refine CallT.new (f := 52) (names := ["self"]) G.X G.T hA (by decide) (by kernel_rfl) (by kernel_rfl) (by kernel_rfl) rfl (by kernel_rfl) rfl rfl (fun vals hv => ?_) (by decide) rfl (by decide) (fun x dx L hid A' hne nx ndx hA' => ?_)
  · match vals, hv with
    | [a], _ => rfl
  · refine TS.cons (TX.setAttr (C := 76) (dx := dx) G.X (TE.display (as := []) PEs.nil (by decide) fun ua hua => ⟨PE.name rfl, by simp, [], by simp, by decide, ?_⟩) (by kernel_rfl) (by kernel_rfl) (by kernel_rfl) (by kernel_rfl))
    simp only [List.map_cons, List.map_nil, List.mem_cons, List.not_mem_nil, or_false, not_or] at hua
    rw [show upd [(ua, AO.list []), (x, .inst 76 dx), (dx, .dict [])] dx (.dict (putE "useragents" (.raw (.ref ua)) [])) = [(ua, .list []), (x, .inst 76 dx), (dx, .dict [("useragents", .raw (.ref ua))])] by simp [upd, hua.2, hne.symm]; rfl]
    refine TS.cons (TX.setAttr (C := 76) (dx := dx) G.X (TE.display (as := []) PEs.nil (by decide) fun rl hrl => ⟨PE.name rfl, by simp, [("useragents", .raw (.ref ua))], by simp, (show 1 < 900 by decide), ?_⟩) (by kernel_rfl) (by kernel_rfl) (by kernel_rfl) (by kernel_rfl))
    simp only [List.map_cons, List.map_nil, List.mem_cons, List.not_mem_nil, or_false, not_or] at hrl
    rw [show upd [(rl, AO.list []), (ua, .list []), (x, .inst 76 dx), (dx, .dict [("useragents", .raw (.ref ua))])] dx (.dict (putE "rulelines" (.raw (.ref rl)) [("useragents", .raw (.ref ua))])) = [(rl, .list []), (ua, .list []), (x, .inst 76 dx), (dx, .dict [("useragents", .raw (.ref ua)), ("rulelines", .raw (.ref rl))])] by simp [upd, hua.2, hrl.2.2, hne.symm]; rfl]
    refine TS.cons (TX.setAttr (C := 76) (dx := dx) G.X (TE.pe PE.cNone ⟨PE.name rfl, by simp, [("useragents", .raw (.ref ua)), ("rulelines", .raw (.ref rl))], by simp, (show 2 < 900 by decide), ?_⟩) (by kernel_rfl) (by kernel_rfl) (by kernel_rfl) (by kernel_rfl))
    rw [show upd [(rl, AO.list []), (ua, .list []), (x, .inst 76 dx), (dx, .dict [("useragents", .raw (.ref ua)), ("rulelines", .raw (.ref rl))])] dx (.dict (putE "delay" (.d .none) [("useragents", .raw (.ref ua)), ("rulelines", .raw (.ref rl))])) = [(rl, .list []), (ua, .list []), (x, .inst 76 dx), (dx, .dict [("useragents", .raw (.ref ua)), ("rulelines", .raw (.ref rl)), ("delay", .d .none)])] by simp [upd, hua.2, hrl.2.2, hne.symm]; rfl]
    refine TS.cons (TX.setAttr (C := 76) (dx := dx) G.X (TE.pe PE.cNone ⟨PE.name rfl, by simp, [("useragents", .raw (.ref ua)), ("rulelines", .raw (.ref rl)), ("delay", .d .none)], by simp, (show 3 < 900 by decide), ?_⟩) (by kernel_rfl) (by kernel_rfl) (by kernel_rfl) (by kernel_rfl))
    rw [show upd [(rl, AO.list []), (ua, .list []), (x, .inst 76 dx), (dx, .dict [("useragents", .raw (.ref ua)), ("rulelines", .raw (.ref rl)), ("delay", .d .none)])] dx (.dict (putE "req_rate" (.d .none) [("useragents", .raw (.ref ua)), ("rulelines", .raw (.ref rl)), ("delay", .d .none)])) = recLed x dx ua rl [] by simp [upd, hua.2, hrl.2.2, hne.symm, recLed]; rfl]
    exact TS.nil ⟨.inl rfl, k x dx ua rl hne hua.1 hua.2 hrl.2.1 hrl.2.2 hrl.1⟩
end
end Mine
end
section
open PySem PySem.Spec PySem.Calls PyProof.Rows PySem.W PySem.SeqAt PySem.Builtin PySem.Builtin.Str
set_option maxRecDepth 100000
set_option linter.unusedVariables false
set_option autoImplicit false
namespace Mine
noncomputable def up (l : List Nat) : List Nat := l.map (· - 32)
noncomputable def wordStep (ws : List (List Nat)) : Option (List Nat) → List (List Nat)
  | none => ws
  | some l => ws.flatMap fun w => l.map fun c => w ++ [c]
noncomputable def wordsOf (p : List Nat) : List (List Nat) := (tr p).foldl wordStep [[]]
noncomputable def agents (ps : List (List Nat)) : List (List Nat) := [42] :: ps.flatMap fun p => (wordsOf p).map up
/-- all words of three signs a and b at most -/
noncomputable def allWords : List (List Nat) := [[], [97], [98], [97, 97], [97, 98], [98, 97], [98, 98], [97, 97, 97], [97, 97, 98], [97, 98, 97], [97, 98, 98], [98, 97, 97], [98, 97, 98], [98, 98, 97], [98, 98, 98]]
theorem up_facts : ∀ w ∈ allWords, Txt.upper (S w) = S (up w) ∧ Txt.lower (S (up w)) = S w := by decide +kernel
noncomputable def signs3 : List Nat := [97, 98, 63]
noncomputable def allPats : List (List Nat) := (signs3.map fun a => [a]) ++ (signs3.flatMap fun a => signs3.map fun b => [a, b]) ++ (signs3.flatMap fun a => signs3.flatMap fun b => signs3.map fun c => [a, b, c])
noncomputable def patOk (p : List Nat) : Bool := decide (p.length ≤ 3) && p.all (fun c => c == 97 || c == 98 || c == 63) && decide ((wordsOf p).length ≤ 8) && (wordsOf p).all (fun w => allWords.contains w) &&
  ([0, 1, 2, 3].all fun i => decide ((((tr p).take i).foldl wordStep [[]]).length ≤ 8) && (((tr p).take i).foldl wordStep [[]]).all fun w => decide (w.length ≤ 3)) && decide ((tr p).length ≤ 3) && (tr p).all fun o => match o with | some l => decide (l.length ≤ 2) && decide (l.length ≠ 0) | none => false
theorem pats_ok : allPats.all patOk = true := by decide +kernel
structure PatFacts (p : List Nat) : Prop where
  len : p.length ≤ 3
  signs : ∀ c ∈ p, c = 97 ∨ c = 98 ∨ c = 63
  words : (wordsOf p).length ≤ 8
  known : ∀ w ∈ wordsOf p, w ∈ allWords
  some : ∀ i ≤ 3, (((tr p).take i).foldl wordStep [[]]).length ≤ 8 ∧ ∀ w ∈ ((tr p).take i).foldl wordStep [[]], w.length ≤ 3
  parts : (tr p).length ≤ 3
  part : ∀ o ∈ tr p, ∃ l, o = Option.some l ∧ l.length ≤ 2 ∧ l.length ≠ 0
theorem pat_facts {p : List Nat} (h : p ∈ allPats) : PatFacts p := by
  have := List.all_eq_true.mp pats_ok p h
  unfold patOk at this
  simp only [Bool.and_eq_true, decide_eq_true_eq, List.all_eq_true, Bool.or_eq_true, beq_iff_eq] at this
  obtain ⟨⟨⟨⟨⟨⟨h1, h2⟩, h3⟩, h4⟩, h5⟩, h6⟩, h7⟩ := this
  refine ⟨h1, fun c hc => by rcases h2 c hc with (z | z) | z; exact .inl z; exact .inr (.inl z); exact .inr (.inr z), h3, fun w hw => by simpa using h4 w hw, fun i hi => ?_, h6, fun o ho => ?_⟩
  · have := h5 i (by rcases i with _ | _ | _ | _ | i <;> simp <;> omega)
    exact this
  · have := h7 o ho
    cases o with
    | none => cases this
    | some l => simp at this; exact ⟨l, rfl, this.1, by simpa using this.2⟩
noncomputable def recHP (P : Params) (ag : List (List Nat)) : HP := anyHP fun i : Addr × Addr => ledHP P (.ref i.1) [(i.1, .inst 76 i.2), (i.2, .dict [("useragents", .lst (ag.map fun n => .d (strD n))), ("rulelines", .lst []), ("delay", .d .none), ("req_rate", .d .none)])]
theorem recLed_put {x dx ua rl : Addr} {ag ag' : List (List Nat)} (h1 : ua ≠ x) (h2 : ua ≠ dx) (h3 : rl ≠ ua) : upd (recLed x dx ua rl ag) ua (.list (ag'.map fun n => .d (strD n))) = recLed x dx ua rl ag' := by
  simp [upd, recLed, h1.symm, h2.symm, h3]
section
variable {prog : Program} {w : World} {h00 : Heap} {R : Shared} {A : Around} {fm : Fm} {loc : Loc} {led : Led}
theorem IterP.signs {l : List Nat} (hh : A.handled = none) : IterP prog w h00 R A (.d (.str (S l))) (l.map fun c => AV.d (strD [c])) := by
  have := IterP.str (prog := prog) (w := w) (h00 := h00) (R := R) (x := S l) hh
  rwa [show (signsOf (S l)).map AV.d = l.map fun c => AV.d (strD [c]) by simp [signsOf, Function.comp_def]] at this
theorem CallP.upper {x : List Nat} (h : x ∈ allWords) : CallP prog w h00 R A (.builtin "str.upper") [.d (.str (S x))] (.d (.str (S (up x)))) := fun X s vals Q E B rv k => by
  cases rv with
  | cons r rs =>
    cases rs
    obtain ⟨t, rfl⟩ := reads_str r
    have e := (up_facts x h).1
    refine SC.upper (by rw [e, S_len]; unfold tooLong; have := line_big; refine decide_eq_false ?_; have : (up x).length ≤ 3 := by (have : ∀ w ∈ allWords, (up w).length ≤ 3 := by decide); exact this x h
                        omega) (by rw [e]; exact k _ s.heap _ Ext.rfl vr_str)
set_option maxHeartbeats 2000000 in
theorem c_record (G : Top0 w.params h00) (hA : Roomy 80 800 A) (ps : List (List Nat)) (hps : ∀ p ∈ ps, p ∈ allPats) (hl : ps.length < 50) :
    CallP prog w h00 R A (.ref 234) [.d (strsD ps)] (.x (recHP w.params (agents ps))) := by
  refine CallP.def_ ["patterns"] G.X G.T (Nat.lt_trans hA.d (by decide)) rfl rfl rfl rfl (fun vals hv => ?_) ?_ rfl ?_ ?_
  · match vals, hv with
    | [a], _ => rfl
  · decide
  · decide
  · intro L hid
    have hA' : ∀ env, Roomy 81 803 (A.deeper env) := fun _ => hA.deeper
    have hbig := line_big
    refine TS.cons (TX.assign rfl (.inl rfl) (TE.callK0 G.X (by kernel_rfl) (PE.glob0 G rfl) (c_Entry G (hA' _).le fun x dx ua rl n1 n2 n3 n4 n5 n6 => ?_)))
    have hmx : ∀ ag, (x, AO.inst 76 dx) ∈ recLed x dx ua rl ag := fun ag => by simp [recLed]
    have hmd : ∀ ag, (dx, AO.dict [("useragents", .raw (.ref ua)), ("rulelines", .raw (.ref rl)), ("delay", .d .none), ("req_rate", .d .none)]) ∈ recLed x dx ua rl ag := fun ag => by simp [recLed]
    have hmu : ∀ ag, (ua, AO.list (ag.map fun n => .d (strD n))) ∈ recLed x dx ua rl ag := fun ag => by simp [recLed]
    rw [List.nil_append]
    refine TS.cons (TX.expr (TE.methB (PE.attr (attr := none) G.X (PE.name rfl) (hmx _) (hmd _) rfl Handed.ref (by kernel_rfl) (by kernel_rfl) (by kernel_rfl) (by kernel_rfl)) (MethX.list (hmu _) F.slot_list_append F.type_list_append) rfl (PEs.cons PE.cStr PEs.nil) (CallT.append (hmu _) (by simp) ⟨rfl, ?_⟩)))
    rw [show ([].map fun n => AV.d (strD n)) ++ [AV.d (PyData.str (Str.ofString "*"))] = [[42]].map fun n => AV.d (strD n) from rfl, recLed_put n2 n3 n6]
    refine TS.cons (TX.for rfl (.inl rfl) (PE.name rfl) (IterP.words (hA' _).h)
      (fun i l d => d = recLed x dx ua rl (agents (ps.take i)) ∧ l.lookup ("record" : Str) = some (.raw (.ref x))) ⟨rfl, rfl⟩ (fun hid i y l d hx iv => ?_) (fun l d iv => ?_))
    · obtain ⟨rfl, h1⟩ := iv
      rw [List.getElem?_map] at hx
      obtain ⟨p, hp, rfl⟩ := Option.map_eq_some_iff.mp hx
      have hpm := List.mem_of_getElem? hp
      have P := pat_facts (hps p hpm)
      refine TS.cons (TX.assign rfl (.inl rfl) (TE.pe (PE.displayD (ds := [strD []]) (PEs.cons PE.cStr PEs.nil) (by decide)) ?_))
      refine TS.cons (TX.for rfl (stores_cell rfl (by decide)) (PE.callK G.X rfl (PE.glob0 G rfl) (PEs.cons (PE.name rfl) (PEs.cons (PE.display (as := [.d (strD [42])]) (PEs.cons PE.cStr PEs.nil) (by decide)) (PEs.cons PE.cStr PEs.nil))) (c_translate G (hA' _).le p (fun c hc => ?_) ?_ 0 (fun h => ?_))) (IterP.lst (hA' _).h)
        (fun j l d => d = recLed x dx ua rl (agents (ps.take i)) ∧ l.lookup ("record" : Str) = some (.raw (.ref x)) ∧ l.lookup ("words" : Str) = some (.d (strsD (((tr p).take j).foldl wordStep [[]])))) ⟨rfl, h1, rfl⟩ (fun hid j y l d hx iv => ?_) (fun l d iv => ?_))
      · rcases P.signs c hc with z | z | z
        · exact .inl z
        · exact .inr (.inl z)
        · exact .inr (.inr (.inl z))
      · have := P.len; omega
      · rcases P.signs _ h with z | z | z <;> cases z
      · obtain ⟨rfl, h1, h2⟩ := iv
        rw [List.getElem?_map] at hx
        obtain ⟨o, ho, rfl⟩ := Option.map_eq_some_iff.mp hx
        obtain ⟨sg, rfl, hs1, hs2⟩ := P.part o (List.mem_of_getElem? ho)
        have hj : j < 3 := Nat.lt_of_lt_of_le (item_nat ho) P.parts
        have W := P.some j (by omega)
        have hstep : ((tr p).take (j + 1)).foldl wordStep [[]] = (((tr p).take j).foldl wordStep [[]]).flatMap fun w => sg.map fun c => w ++ [c] := by rw [List.take_add_one, ho, List.foldl_append]; rfl
        generalize ((tr p).take j).foldl wordStep [[]] = ws at h2 hstep W
        refine TS.cons (TX.compX (g := fun n => AV.d (strD n)) (xs := ws) (fun n => sg.map fun c => strD (n ++ [c])) (fun env => emitTwo _ 1 _ env) [("part", .d (strD sg))] (fun _ => LoopRule.outer) rfl (.inl rfl) (PE.name (by exact h2)) (IterP.words (hA' _).h) ?_ (fun C hid n hn => ⟨true, PIfs.nil, noTF, fun _ => ?_⟩) ?_ rfl (.inl fun _ _ => .inl rfl) ?_ rfl rfl (by decide) (fun _ => rfl) rfl)
        · refine Nat.le_trans (len_flat (c := 2) fun n _ => by simpa using hs1) ?_
          have := W.1; omega
        · have e2 : (sg.map fun c => strD (n ++ [c])) = sg.flatMap fun c => [strD (n ++ [c])] := by
            clear hs1 hs2 ho hx hstep; induction sg with | nil => rfl | cons a l ih => rw [List.map_cons, List.flatMap_cons, ih]; rfl
          rw [e2]
          refine EmitP.two (g := fun c => AV.d (strD [c])) (xs := sg) (fun c => [strD (n ++ [c])]) rfl (.inl rfl) (PE.name rfl) (IterP.signs (hA' _).h) rfl (fun hid c hc => ⟨true, PIfs.nil, noTF, fun _ => EmitP.one (PE.bin (PE.name rfl) (PE.name rfl) (Op2.addL (by have := W.2 n hn; simp; omega)))⟩) (fun _ => rfl)
        · refine TS.nil ⟨rfl, h1, ?_⟩
          rw [hstep]
          show some _ = some _
          refine congrArg (fun z => some (AV.d (PyData.list z))) ?_
          show ws.flatMap _ = (ws.flatMap _).map strD
          rw [← flat_map]
          refine congrArg (fun f => ws.flatMap f) (funext fun k => ?_)
          rw [List.map_map]; rfl
        · exact Caps.one (fun _ _ => .inl rfl) (fun _ _ => rfl) rfl (.inl rfl)
      · obtain ⟨rfl, h1, h2⟩ := iv
        rw [List.length_map, List.take_length] at h2
        have hi : i < ps.length := item_nat hp
        have hal : ∀ m, (agents (ps.take m)).length ≤ 1 + m * 8 := fun m => by
          have : ∀ q : List (List Nat), (∀ p ∈ q, p ∈ allPats) → (q.flatMap fun p => (wordsOf p).map up).length ≤ q.length * 8 := fun q hq => by
            induction q with
            | nil => simp
            | cons a q ih =>
              rw [List.flatMap_cons, List.length_append, List.length_cons, List.length_map]
              have := ih fun p hp => hq p (List.mem_cons_of_mem _ hp)
              have := (pat_facts (hq a List.mem_cons_self)).words
              omega
          have h3 := this (ps.take m) fun p hp => hps p (List.mem_of_mem_take hp)
          have h4 : (ps.take m).length ≤ m := by rw [List.length_take]; exact Nat.min_le_left ..
          unfold agents; rw [List.length_cons]; omega
        have hagn : agents (ps.take (i + 1)) = agents (ps.take i) ++ (wordsOf p).map up := by
          unfold agents; rw [List.take_add_one, hp, List.flatMap_append]; simp
        refine TS.cons (TX.expr (TE.methB (PE.attr (attr := none) G.X (PE.name (by exact h1)) (hmx _) (hmd _) rfl Handed.ref (by kernel_rfl) (by kernel_rfl) (by kernel_rfl) (by kernel_rfl)) (MethX.list (hmu _) F.slot_list_extend F.type_list_extend) rfl (PEs.cons
          (PE.compL (g := fun n => AV.d (strD n)) (xs := wordsOf p) (fun w => [strD (up w)]) [] (PE.name (by exact h2)) (IterP.words (hA' _).h) ?_ (fun C hid w hw => ⟨true, PIfs.nil, noTF, fun _ => ⟨_, rfl, PE.meth0 (id := "str.upper") (PE.name rfl) (MethP.str F.slot_str_upper F.type_str_upper) (CallP.upper (P.known w hw))⟩⟩) Caps.nil) PEs.nil) (CallT.extend (hmu _) ?_ ⟨rfl, TS.nil ⟨?_, h1⟩⟩)))
        · refine Nat.le_trans (len_flat (c := 1) fun n _ => by simp) ?_
          have := P.words; omega
        · have h3 : ((wordsOf p).flatMap fun w => [strD (up w)]).length ≤ (wordsOf p).length * 1 := len_flat (c := 1) fun n _ => by simp
          have h4 := P.words
          have h5 := hal i
          rw [List.length_map, List.length_map]; omega
        · rw [show (agents (ps.take i)).map (fun n => AV.d (strD n)) ++ ((wordsOf p).flatMap fun w => [strD (up w)]).map AV.d = (agents (ps.take (i + 1))).map fun n => AV.d (strD n) by
            rw [hagn, List.map_append, flat_one up strD, List.map_map]; rfl]
          exact recLed_put n2 n3 n6
    · obtain ⟨hd, h1⟩ := iv
      rw [List.length_map, List.take_length] at hd
      subst hd
      refine TS.freeze [] [("record", .x (recHP w.params (agents ps)))] (List.nil_sublist _) (fun s D y a' e => ?_) (TS.cons (TX.ret (TE.pe (PE.name rfl) (.inl rfl))))
      rw [List.lookup_cons] at e
      by_cases q : y = ("record" : Str)
      · subst q
        simp at e; subst e
        refine ⟨_, h1, fun v hv => ?_⟩
        cases hv
        refine ⟨(x, dx), rfl, fun p hp => ?_⟩
        have hU := D.seen_list (List.nil_sublist _) (hmu (agents ps)) (by simp)
        have hR := D.seen_list (a := rl) (xs := []) (List.nil_sublist _) (by simp [recLed]) (by simp)
        rcases List.mem_cons.mp hp with rfl | hp
        · exact D.seen (List.nil_sublist _) (hmx _) (by simp)
        · rw [List.mem_singleton.mp hp]
          obtain ⟨o, ho, l, n, rfl, hE⟩ := D.seen (List.nil_sublist _) (hmd (agents ps)) (by simp)
          refine ⟨_, ho, l, n, rfl, ?_⟩
          cases hE with
          | cons r1 hE => cases hE with
            | cons r2 hE =>
              cases r1; cases r2
              exact .cons hU (.cons hR hE)
      · rw [show (y == ("record" : Str)) = false by simpa using q] at e; cases e
end
end Mine
end
section
open PySem PySem.Spec PySem.Calls PyProof.Rows PySem.W PySem.SeqAt PySem.Builtin PySem.Builtin.Str
set_option maxRecDepth 100000
set_option linter.unusedVariables false
set_option autoImplicit false
namespace Mine
section
variable {prog : Program} {w : World} {h00 : Heap} {R : Shared} {A : Around} {fm : Fm} {loc : Loc} {led : Led}
theorem vrs_numbered {B : Heap} {l : List (List Nat)} {k : Nat} : VRs B ((l.map strD).map .d) (strValues (numbered k (l.map S))) := by
  have : ∀ (ts : List (List Nat)) (q : List (Str × Tok)), q.map (·.1) = ts.map S → VRs B ((ts.map strD).map .d) (strValues q) := fun ts => by
    induction ts with
    | nil => intro q h; rw [List.map_nil, List.map_eq_nil_iff] at h; subst h; exact .nil
    | cons a ts ih =>
      intro q h
      cases q with
      | nil => cases h
      | cons x q =>
        rw [List.map_cons, List.map_cons] at h
        injection h with h1 h2
        obtain ⟨x1, x2⟩ := x
        cases h1
        exact .cons vr_str (ih q h2)
  exact this l _ (numbered_texts _ _)
theorem CallP.split {x : List Nat} {y : Str} {l : List (List Nat)} (h1 : (decide ((S x).length < y.length) || decide (strKind (S x) < strKind y)) = false) (hy : (y.length == 0) = false) (hz : x.length < 1000) (hl : l.length < 1000)
    (hf : (occurrences (S x) y 0 (S x).length ((S x).length + 1)).isEmpty = false ∧ partsBetween (S x) (occurrences (S x) y 0 (S x).length ((S x).length + 1)) y.length = l.map S ∨ (occurrences (S x) y 0 (S x).length ((S x).length + 1)).isEmpty = true ∧ l = [x]) :
    CallP prog w h00 R A (.builtin "str.split") [.d (.str (S x)), .d (.str y)] (.d (strsD l)) := fun X s vals Q E B rv k => by
  cases rv with
  | cons r rs => cases rs with
    | cons r2 rs =>
      cases rs
      obtain ⟨t, rfl⟩ := reads_str r
      obtain ⟨u, rfl⟩ := reads_str r2
      have up : ∀ o, Ext s.heap (s.heap.push o) := fun o b ob e => Heap.get?_push_of_some _ e
      have hbig := line_big
      rcases hf with ⟨hf, hp⟩ | ⟨hf, rfl⟩
      · refine call_meets F.slot_str_split (typeIs_str _ _ _) F.entry_str_split (F.args_str_split_2 _ _) (meets_str_split_sep (S x) y t u h1 hy hf (by rw [S_len]; omega) (by rw [hp, List.length_map]; omega)) ?_
        show wants Q E _ { s with toks := _, heap := s.heap.push { cls := .type "list", data := .seq (strsFrom s.toks (partsBetween (S x) (occurrences (S x) y 0 (S x).length ((S x).length + 1)) y.length)).toArray } }
        rw [strsFrom_eq, hp]
        exact k _ _ _ (up _) (d_of_lst ⟨s.heap.objs.size, _, 0, rfl, hideAll_get _ (Heap.get?_push_size _ rfl) fun h => absurd (B.low _ h) (Nat.lt_irrefl _), vrs_numbered⟩)
      · refine call_meets F.slot_str_split (typeIs_str _ _ _) F.entry_str_split (F.args_str_split_2 _ _) (meets_str_split_not_found (S x) y t u h1 hy hf) ?_
        exact k _ _ _ (up _) (d_of_lst ⟨s.heap.objs.size, [.str (S x) t], 0, rfl, hideAll_get _ (Heap.get?_push_size _ rfl) fun h => absurd (B.low _ h) (Nat.lt_irrefl _), .cons vr_str .nil⟩)
end
noncomputable def inside (w base : List Nat) : Bool := !(occurrences (S base) (S w) 0 (S base).length 1).isEmpty
noncomputable def down (n : List Nat) : List Nat := n.map (· + 32)
noncomputable def hit (base n : List Nat) : Bool := !(S [42] == S n || false) && inside (down n) base
noncomputable def words2 : List (List Nat) := [[97, 97], [97, 98], [98, 97], [98, 98]]
noncomputable def words3 : List (List Nat) := [[97, 97, 97], [97, 97, 98], [97, 98, 97], [97, 98, 98], [98, 97, 97], [98, 97, 98], [98, 98, 97], [98, 98, 98]]
noncomputable def behind : List Nat := [47, 97, 98, 98, 97]
noncomputable def queries : List (List Nat × List Nat × List (List Nat)) := (words2.map fun w => (w, w, [w])) ++ words3.map fun w => (w ++ behind, w, [w, [97, 98, 98, 97]])
noncomputable def queryOk (q : List Nat × List Nat × List (List Nat)) : Bool :=
  !(decide ((S q.1).length < (S [47]).length) || decide (strKind (S q.1) < strKind (S [47]))) && decide (q.1.length < 1000) && decide (q.2.1.length < 100) && decide (q.2.2.length < 1000) && q.2.2.head? == some q.2.1 && Txt.lower (S q.2.1) == S q.2.1 &&
  ((!(occurrences (S q.1) (S [47]) 0 (S q.1).length ((S q.1).length + 1)).isEmpty && partsBetween (S q.1) (occurrences (S q.1) (S [47]) 0 (S q.1).length ((S q.1).length + 1)) 1 == q.2.2.map S) || ((occurrences (S q.1) (S [47]) 0 (S q.1).length ((S q.1).length + 1)).isEmpty && q.2.2 == [q.1]))
theorem queries_ok : queries.all queryOk = true := by decide +kernel
end Mine
end
section
open PySem PySem.Spec PySem.Calls PyProof.Rows PySem.W PySem.SeqAt PySem.Builtin PySem.Builtin.Str
set_option maxRecDepth 100000
set_option linter.unusedVariables false
set_option autoImplicit false
namespace Mine
section
variable {prog : Program} {w : World} {h00 : Heap} {R : Shared} {A : Around} {fm : Fm} {loc : Loc} {led : Led}
theorem Op2.isNoneStr {x : Str} : Op2 prog w A (compareOp .Is) (.d (.str x)) (.d .none) (.d (.bool false)) := fun X s u v Q E lo ru rv k => by
  obtain ⟨t, rfl⟩ := reads_str ru
  obtain ⟨as, rv⟩ := rv
  cases rv
  exact is_none (k _ s.heap s.toks Ext.rfl vr_bool)
theorem CallP.lower {x y : List Nat} (h : Txt.lower (S x) = S y) (hz : y.length < 1000) : CallP prog w h00 R A (.builtin "str.lower") [.d (.str (S x))] (.d (.str (S y))) := fun X s vals Q E B rv k => by
  cases rv with
  | cons r rs =>
    cases rs
    obtain ⟨t, rfl⟩ := reads_str r
    refine SC.lower (by rw [h, S_len]; unfold tooLong; have := line_big; exact decide_eq_false (by omega)) (by rw [h]; exact k _ s.heap _ Ext.rfl vr_str)
theorem S_inj {a b : List Nat} : (S a == S b) = (a == b) := by
  rw [Bool.eq_iff_iff]; simp
theorem up_down {w : List Nat} (h : w ∈ allWords) : down (up w) = w ∧ w.length ≤ 3 ∧ up w ≠ [42] ∧ ∀ c ∈ up w, c < 128 := by
  have : ∀ w ∈ allWords, down (up w) = w ∧ w.length ≤ 3 ∧ up w ≠ [42] ∧ ∀ c ∈ up w, c < 128 := by decide
  exact this w h
theorem up_star : ∀ w ∈ allWords, (!PyData.eqv (strD (up w)) (strD [42])) = true := by decide +kernel
set_option maxHeartbeats 2000000 in
theorem c_applies (G : Top0 w.params h00) (hA : Roomy 90 900 A) (ag : List (List Nat)) (hag : ∀ n ∈ ag, n = [42] ∨ ∃ w ∈ allWords, n = up w) {q base : List Nat} {parts : List (List Nat)} (hq : (q, base, parts) ∈ queries) :
    CallP prog w h00 R A (.ref 66) [.x (recHP w.params ag), .d (strD q)] (.d (.bool (ag.any (hit base)))) := by
  have ok := List.all_eq_true.mp queries_ok _ hq
  unfold queryOk at ok
  simp only [Bool.and_eq_true, Bool.not_eq_true', decide_eq_true_eq, beq_iff_eq, Bool.or_eq_true] at ok
  obtain ⟨⟨⟨⟨⟨⟨o1, o2⟩, o3⟩, o4⟩, o5⟩, o6⟩, o7⟩ := ok
  refine CallP.def_ ["self", "useragent"] G.X G.T (Nat.lt_trans hA.d (by decide)) rfl (by kernel_rfl) rfl rfl (fun vals hv => ?_) ?_ rfl ?_ ?_
  · match vals, hv with
    | [a, b], _ => rfl
  · decide
  · decide
  · intro L hid
    have hA' : ∀ env, Roomy 91 903 (A.deeper env) := fun _ => hA.deeper
    have hu : ∀ env, (A.deeper env).units + 64 < 9900 := fun env => by have := (hA' env).u; omega
    refine TS.open (y := "self") rfl fun i => ?_
    obtain ⟨x, dx⟩ := i
    have hhead : (parts.map strD)[0]? = some (strD base) := by
      rw [List.getElem?_map, ← List.head?_eq_getElem?, o5]; rfl
    refine TS.cons (TX.if (b := false) (PT.cmp (PE.name rfl) PE.cNone Op2.isNoneStr) noFT (fun _ => ?_))
    refine TS.nil (TS.cons (TX.assign rfl (.inl rfl) (TE.pe (PE.meth0 (id := "str.lower") (PE.item (PE.meth (id := "str.split") (PE.name rfl) (MethP.str F.slot_str_split F.type_str_split) (PEs.cons PE.cStr PEs.nil) (CallP.split (l := parts) (y := S [47]) o1 (by decide) o2 o4 ?_)) PE.cInt (ItemP.list (ds := parts.map strD) (n := 0) hhead (by rw [List.length_map]; omega))) (MethP.str F.slot_str_lower F.type_str_lower) (CallP.lower o6 (by omega))) ?_)))
    · rcases o7 with ⟨a, b⟩ | ⟨a, b⟩
      · exact .inl ⟨a, b⟩
      · exact .inr ⟨a, b⟩
    · refine TS.cons (TX.for rfl (.inl rfl) (PE.attrH (attr := none) G.X (PE.ledName (PE.name rfl)) (Has.ofLoc (y := "self") rfl (List.mem_cons_self ..)) (Has.ofLoc (y := "self") rfl (List.mem_cons_of_mem _ (List.mem_cons_self ..))) rfl Handed.lst (by kernel_rfl) (by kernel_rfl) (by kernel_rfl) (by kernel_rfl)) (IterP.lst (hA' _).h)
        (fun i l d => l.lookup ("useragent" : Str) = some (.d (strD base)) ∧ (ag.take i).any (hit base) = false) ⟨rfl, rfl⟩ (fun hid i a l d hx iv => ?_) (fun l d iv => ?_))
      · obtain ⟨hb, hn⟩ := iv
        rw [List.getElem?_map, Option.map_eq_some_iff] at hx
        obtain ⟨n, hx, rfl⟩ := hx
        have hn' : (ag.take (i + 1)).any (hit base) = hit base n := by
          rw [List.take_add_one, hx, List.any_append, hn]; simp
        have hmem : n ∈ ag := List.mem_of_getElem? hx
        have hsome : hit base n = true → ag.any (hit base) = true := fun h => List.any_eq_true.mpr ⟨n, hmem, h⟩
        have hn128 : ∀ c ∈ n, c < 128 := by
          obtain rfl | ⟨w', hw, rfl⟩ := hag n hmem
          · decide
          · exact (up_down hw).2.2.2
        refine TS.cons (TX.if (b := !PyData.eqv (strD n) (strD [42])) (PT.cmp (PE.name rfl) PE.cStr (Op2.ne (shaped_str (strOk_S hn128)) (shaped_str (strOk_S (by decide))) (hu _))) (fun h => ?_) (fun h => ?_))
        · have hne : n ≠ [42] := fun e => by subst e; revert h; decide
          obtain e | ⟨w', hw, rfl⟩ := hag n hmem
          · exact absurd e hne
          obtain ⟨u1, u2, u3, u4⟩ := up_down hw
          have hh : hit base (up w') = inside w' base := by
            unfold hit
            rw [u1]
            have : (S [42] == S (up w')) = false := by rw [S_inj]; exact beq_false_of_ne (fun e => u3 e.symm)
            rw [this]; rfl
          refine TS.cons (TX.assign rfl (.inl rfl) (TE.pe (PE.meth0 (id := "str.lower") (PE.name rfl) (MethP.str F.slot_str_lower F.type_str_lower) (CallP.lower (y := w') (by exact (up_facts w' hw).2) (by omega))) ?_))
          refine TS.cons (TX.if (b := inside w' base) (PT.cmp (PE.name rfl) (PE.name (by exact hb)) Op2.inS) (fun h => ?_) (fun h => ?_))
          · refine TS.cons (TX.ret (TE.pe PE.cBool ?_))
            exact .inl (by rw [hsome (hh.trans h)])
          · exact TS.nil (TS.nil (TS.nil ⟨by exact hb, by rw [hn', hh, h]⟩))
        · refine TS.nil (TS.nil ⟨by exact hb, ?_⟩)
          rw [hn']
          have e : n = [42] := by
            obtain e | ⟨w', hw, rfl⟩ := hag n hmem
            · exact e
            · exact absurd h (by rw [up_star w' hw]; decide)
          subst e
          rfl
      · obtain ⟨hb, hn⟩ := iv
        rw [List.length_map, List.take_length] at hn
        exact TS.cons (TX.ret (TE.pe PE.cBool (.inl (by rw [hn]))))
end
end Mine
end
section
open PySem PySem.Spec PySem.Calls PyProof.Rows PySem.W PySem.SeqAt PySem.Builtin PySem.Builtin.Str
set_option maxRecDepth 100000
set_option linter.unusedVariables false
set_option autoImplicit false
namespace Mine
/-- values that carry what is told of them -/
inductive Fits (B : Heap) : List (Str × AV) → List (Str × Value) → Prop
  | nil : Fits B [] []
  | cons {k av v es kvs} : VR B av v → Fits B es kvs → Fits B ((k, av) :: es) ((k, v) :: kvs)
theorem Fits.mono {B B' : Heap} (x : Ext B B') {es kvs} (h : Fits B es kvs) : Fits B' es kvs := by
  induction h with
  | nil => exact .nil
  | cons a _ ih => exact .cons (a.mono x) ih
theorem Fits.names {B : Heap} {es kvs} (h : Fits B es kvs) : kvs.map (·.1) = es.map (·.1) := by
  induction h with
  | nil => rfl
  | cons _ _ ih => rw [List.map_cons, List.map_cons, ih]
theorem Fits.len {B : Heap} {es kvs} (h : Fits B es kvs) : kvs.length = es.length := by
  have := congrArg List.length h.names; simpa using this
theorem Fits.find {B : Heap} {k : Str} {av : AV} {es kvs} (h : Fits B es kvs) (e : es.lookup k = some av) : ∃ v, valueAt kvs k = some v ∧ VR B av v := by
  induction h with
  | nil => cases e
  | cons r _ ih =>
    rename_i k' av' v' es' kvs' _
    rw [List.lookup_cons] at e
    by_cases q : k = k'
    · subst q; simp at e; subst e
      exact ⟨v', by simp [valueAt], r⟩
    · rw [show (k == k') = false by simpa using q] at e
      obtain ⟨v, h1, h2⟩ := ih e
      refine ⟨v, ?_, h2⟩
      unfold valueAt at h1 ⊢
      rw [List.find?_cons, show decide (k' = k) = false from decide_eq_false fun z => q z.symm]
      exact h1
theorem Fits.none {B : Heap} {k : Str} {es kvs} (h : Fits B es kvs) (e : es.lookup k = none) : valueAt kvs k = none := by
  induction h with
  | nil => rfl
  | cons r _ ih =>
    rename_i k' av' v' es' kvs' _
    rw [List.lookup_cons] at e
    by_cases q : k = k'
    · subst q; simp at e
    · rw [show (k == k') = false by simpa using q] at e
      unfold valueAt
      rw [List.find?_cons, show decide (k' = k) = false from decide_eq_false fun z => q z.symm]
      exact ih e
theorem lookup_some_mem {α : Type} {k : Str} : ∀ {es : List (Str × α)}, k ∈ es.map (·.1) → (es.lookup k).isSome = true
  | (k', a) :: es, h => by
    rw [List.lookup_cons]
    by_cases q : k = k'
    · subst q; simp
    · rw [show (k == k') = false by simpa using q]
      exact lookup_some_mem ((List.mem_cons.mp h).resolve_left q)
theorem putE_names {k : Str} {av : AV} : ∀ {es : List (Str × AV)}, (putE k av es).map (·.1) = if k ∈ es.map (·.1) then es.map (·.1) else es.map (·.1) ++ [k]
  | [] => by simp [putE]
  | (k', a) :: es => by
    unfold putE
    by_cases q : k' = k
    · subst q; simp
    · rw [if_neg (by simpa using q), List.map_cons, putE_names]
      have : k ∈ List.map (fun x => x.fst) ((k', a) :: es) ↔ k ∈ es.map (·.1) := by simp [Ne.symm q]
      by_cases m : k ∈ es.map (·.1)
      · rw [if_pos m, if_pos (this.mpr m)]; rfl
      · rw [if_neg m, if_neg (fun z => m (this.mp z))]; rfl
/-- a told dict without one name -/
noncomputable def delE (k : Str) (es : List (Str × AV)) : List (Str × AV) := es.filter fun p => decide (p.1 ≠ k)
theorem Fits.put {B : Heap} {k : Str} {av : AV} {v : Value} (r : VR B av v) {es kvs} (h : Fits B es kvs) (nd : (es.map (·.1)).Nodup) : Fits B (putE k av es) (stored kvs k v) := by
  unfold stored
  induction h with
  | nil => exact .cons r .nil
  | cons r' hs ih =>
    rename_i k' av' v' es' kvs'
    have nd' := List.nodup_cons.mp nd
    unfold putE
    by_cases q : k' = k
    · subst q
      rw [if_pos (by simp), List.any_cons, decide_eq_true (rfl : k' = k'), Bool.true_or, if_pos rfl, List.map_cons, if_pos rfl]
      refine .cons r ?_
      rw [map_store_of_not_mem _ _ _ (by rw [hs.names]; exact nd'.1)]
      exact hs
    · rw [if_neg (by simpa using q), List.any_cons, decide_eq_false q, Bool.false_or]
      have z := ih nd'.2
      split
      · next c => rw [if_pos c] at z; rw [List.map_cons, if_neg q]; exact .cons r' z
      · next c => rw [if_neg c] at z; exact .cons r' z
theorem Fits.del {B : Heap} {k : Str} {es kvs} (h : Fits B es kvs) : Fits B (delE k es) (without kvs k) := by
  induction h with
  | nil => exact .nil
  | cons r' hs ih =>
    rename_i k' av' v' es' kvs'
    unfold delE without at ih ⊢
    rw [List.filter_cons, List.filter_cons]
    split
    · exact .cons r' ih
    · exact ih
theorem EntsAre.fits {prog : Program} {w : World} {B : Heap} {es : List (Str × AV)} {l : List DictEntry} (h : EntsAre w.params B es l) : ∃ kvs, Pairs (PySem.strKind prog w) l kvs ∧ Fits B es kvs ∧ ∀ e ∈ l, ∃ k, (PySem.strKind prog w).is k e.key = true ∧ e.hash = (PySem.strKind prog w).hash k := by
  induction h with
  | nil => exact ⟨[], .nil, .nil, fun e h => nomatch h⟩
  | cons r _ ih =>
    rename_i k av t v es' l' _
    obtain ⟨kvs, h1, h2, h3⟩ := ih
    have hk : (PySem.strKind prog w).is k (.str k t) = true := by show (k == k) = true; simp
    refine ⟨(k, v) :: kvs, .cons hk rfl h1, .cons r h2, fun e he => ?_⟩
    rcases List.mem_cons.mp he with rfl | he
    · exact ⟨k, hk, rfl⟩
    · exact h3 e he
theorem entsAre_of {prog : Program} {w : World} {B : Heap} {es : List (Str × AV)} {l : List DictEntry} {kvs : List (Str × Value)} (h1 : Pairs (PySem.strKind prog w) l kvs) (h2 : Fits B es kvs)
    (h3 : ∀ e ∈ l, ∃ k, (PySem.strKind prog w).is k e.key = true ∧ e.hash = (PySem.strKind prog w).hash k) : EntsAre w.params B es l := by
  induction h1 generalizing es with
  | nil => cases h2; exact .nil
  | cons a b c ih =>
    rename_i e kv l' kvs'
    cases h2 with
    | cons r rs =>
      rename_i k av v es'
      obtain ⟨k', h4, h5⟩ := h3 e List.mem_cons_self
      obtain ⟨t, ht⟩ := Value.isStrOf_shape a
      have : k' = k := (PySem.strKind prog w).inj _ _ _ h4 a
      subst this
      obtain ⟨hash, key, val⟩ := e
      dsimp only at ht h5 b
      subst ht h5 b
      exact .cons r (ih rs fun e he => h3 e (List.mem_cons_of_mem _ he))
theorem EntsAre.dictOf {prog : Program} {w : World} {B h : Heap} {a : Addr} {es : List (Str × AV)} {l : List DictEntry} {n : Nat} (E : EntsAre w.params B es l) (ho : h.get? a = some { cls := .type "dict", data := .dict l.toArray n }) (nd : (es.map (·.1)).Nodup) :
    ∃ kvs, h.DictOf (PySem.strKind prog w) a kvs ∧ Fits B es kvs := by
  obtain ⟨kvs, h1, h2, h3⟩ := E.fits (prog := prog)
  exact ⟨kvs, ⟨_, l.toArray, n, ho, ⟨rfl, rfl, rfl⟩, rfl, fun e he => h3 e (by simpa using he), by simpa using h1, by rw [h2.names]; exact nd⟩, h2⟩
theorem dictOf_or {prog : Program} {w : World} {B h : Heap} {a : Addr} {es : List (Str × AV)} {kvs : List (Str × Value)} (D : h.DictOf (PySem.strKind prog w) a kvs) (F : Fits B es kvs) : ∃ o, h.get? a = some o ∧ OR w.params B (.dict es) o := by
  obtain ⟨o, l, n, ho, ⟨c1, c2, c3⟩, hd, h3, h1, _⟩ := D
  refine ⟨o, ho, l.toList, n, ?_, entsAre_of h1 F fun e he => h3 e (by simpa using he)⟩
  obtain ⟨a, b, c, d⟩ := o
  dsimp only at c1 c2 c3 hd
  subst c1 c2 c3 hd
  rfl
theorem keyIs {prog : Program} {w : World} {k : Str} {t : Tok} : (PySem.strKind prog w).is k (.str k t) = true := by show (k == k) = true; simp
section
variable {prog : Program} {w : World} {h00 : Heap} {R : Shared} {A : Around} {fm : Fm} {loc : Loc} {led : Led} {a : Addr} {es : List (Str × AV)} {k : Str} {av : AV}
theorem Has.dictAt {s : Shared} (D : St w.params h00 R fm loc led s) (h : Has w.params h00 R fm loc led a (.dict es)) (nd : (es.map (·.1)).Nodup) : ∃ kvs, s.heap.DictOf (PySem.strKind prog w) a kvs ∧ Fits (vis fm led s.heap) es kvs := by
  obtain ⟨o, ho, l, n, rfl, E⟩ := h s D
  exact E.dictOf ho nd
/-- an item of a known dict -/
theorem PE.itemDict {value slice : Expr} {pos : Pos} (hv : PE prog w h00 R A fm loc led value (.raw (.ref a))) (hi : PE prog w h00 R A fm loc led slice (.d (.str k))) (hm : Has w.params h00 R fm loc led a (.dict es)) (nd : (es.map (·.1)).Nodup)
    (hx : es.lookup k = some av)
    (hsl : ∀ u v, subscripted slice false u v = operate [u, v] (getItem u v) ∨ subscripted slice false u v = operate [v, u] (getItem u v) := by first | exact fun _ _ => .inl rfl | exact fun _ _ => .inr rfl) : PE prog w h00 R A fm loc led (.Subscript value slice pos) av := fun s D Q E q => by
  refine Subscript_ (hv s D _ _ fun u h1 t1 k1 r1 => hi _ (D.quiet k1) _ _ fun v h2 t2 k2 r2 => ?_)
  cases r1
  obtain ⟨t, rfl⟩ := reads_str r2
  have D2 := (D.quiet (tk := t1) k1).quiet (tk := t2) k2
  obtain ⟨kvs, hd, hf⟩ := Has.dictAt (prog := prog) D2 hm nd
  obtain ⟨y, hy, ry⟩ := hf.find hx
  refine sub_tail (T := "dict") hd.typeIs slot_dict_getitem.lookup ?_ (hsl _ _)
  exact wpAny_getItem_of keyIs hd.mapOf hy (q _ h2 _ (k1.trans k2) ry)
/-- is it a key of a known dict? -/
theorem PT.inDict {l r : Expr} {pos : Pos} (hl : PE prog w h00 R A fm loc led l (.d (.str k))) (hr : PE prog w h00 R A fm loc led r (.raw (.ref a))) (hm : Has w.params h00 R fm loc led a (.dict es)) (nd : (es.map (·.1)).Nodup) (hs : (a == sysModules) = false)
    (hb : behindInMarks .In r = false := by with_unfolding_all rfl) : PT prog w h00 R A fm loc led (.Compare l [.In] [r] pos) (es.lookup k).isSome := fun s D Q E q =>
  wpAny_isTrue_Compare1 (hl s D _ _ fun u h1 t1 k1 r1 => hr _ (D.quiet k1) _ _ fun v h2 t2 k2 r2 => by
    cases r2
    obtain ⟨t, rfl⟩ := reads_str r1
    have D2 := (D.quiet (tk := t1) k1).quiet (tk := t2) k2
    obtain ⟨kvs, hd, hf⟩ := Has.dictAt (prog := prog) D2 hm nd
    have hv : (valueAt kvs k).isSome = (es.lookup k).isSome := by
      cases e : es.lookup k with
      | none => rw [hf.none e]; rfl
      | some av => obtain ⟨y, hy, _⟩ := hf.find e; rw [hy]; rfl
    refine wpAny_in_of (f := valueAt kvs) keyIs hs hd.mapOf ?_
    rw [hv]
    exact wpAny_truthy_bool (q h2 _ (k1.trans k2))) hb
theorem MethX.dict {name : Str} {id : String} (hm : Has w.params h00 R fm loc led a (.dict es)) (slot : Slot "dict" name id) (hty : typeOf (.builtin id) = pure (.type "method_descriptor")) :
    MethX prog w h00 R A fm loc led (.ref a) name (.builtin id) [.ref a] := fun s D pl Q E q => by
  obtain ⟨o, ho, l, n, rfl, _⟩ := hm s D
  exact getMethod_builtin ⟨_, ho, rfl⟩ PySem.F.plainAttrs_dict slot hty (fun b e => by cases e; exact ⟨_, ho, rfl⟩) (q s.toks)
theorem CallT.dictGet {Φ : AV → Led → Prop} (hm : Has w.params h00 R fm loc led a (.dict es)) (nd : (es.map (·.1)).Nodup) (hs : (a == sysModules) = false) (h : Φ ((es.lookup k).getD (.d .none)) led) :
    CallT prog w h00 R A fm loc led (.builtin "dict.get") [.raw (.ref a), .d (.str k)] Φ := fun s D vals rv Q E q => by
  cases rv with
  | cons r0 rs => cases rs with
    | cons r1 rs =>
      cases rs
      cases r0
      obtain ⟨t, rfl⟩ := reads_str r1
      obtain ⟨kvs, hd, hf⟩ := Has.dictAt (prog := prog) D hm nd
      refine call_meetsIn PySem.F.slot_dict_get hd.typeIs PySem.F.entry_dict_get (PySem.F.args_dict_get_2 _ _) (meets_dict_get (PySem.strKind prog w) (k := k) a keyIs hs) ⟨valueAt kvs, hd.mapOf, ?_⟩
      have D2 := D.quiet (tk := s.toks + 1) Ext.rfl
      refine q _ _ _ led (Step.quiet D Ext.rfl) D2 ?_ h
      cases e : es.lookup k with
      | none => rw [hf.none e]; exact ⟨_, .none⟩
      | some av => obtain ⟨y, hy, ry⟩ := hf.find e; rw [hy]; exact ry
/-- an empty dict that will change -/
theorem TE.dict0 {pos : Pos} {Φ : AV → Loc → Led → Prop} (G : Top0 w.params h00) (h : ∀ a, a ∉ led.map (·.1) → (a == sysModules) = false → Φ (.raw (.ref a)) loc ((a, .dict []) :: led)) : TE prog w h00 R A fm loc led (.Dict [] [] pos) Φ := fun s D Q E q => by
  refine wpAny_Dict_empty ?_
  have up : Ext s.heap (s.heap.push { cls := .type "dict", data := .dict #[] }) := fun b o e => Heap.get?_push_of_some _ e
  have no : s.heap.get? s.heap.objs.size = none := by
    cases q : s.heap.get? s.heap.objs.size with
    | none => rfl
    | some o => exact absurd (Heap.lt_size q) (Nat.lt_irrefl _)
  obtain ⟨D2, S2⟩ := D.add (ao := .dict []) (tk := s.toks) no up (Heap.get?_push_size _ rfl) ⟨[], 0, rfl, .nil⟩
  obtain ⟨p, loose, mg, mb, T⟩ := G.T
  have hlow := modules_low (T.keeps (D.base.trans hide_le)).nolimit
  refine q _ _ (.raw (.ref _)) _ _ S2 D2 rfl (h _ (fun hm => ?_) (by simpa using Nat.ne_of_gt hlow))
  obtain ⟨o, ho⟩ := D.bs.there _ (away_mem.mpr (.inr (.inr (.inl hm))))
  exact absurd (Heap.lt_size ho) (Nat.lt_irrefl _)
/-- the heap step of d[k] = v -/
theorem set_dict {s : Shared} {t : Tok} {v : Value} {Q : Unit → Shared → Prop} {E : Value → Shared → Prop} (D : St w.params h00 R fm loc led s) (hm : (a, .dict es) ∈ led) (nd : (es.map (·.1)).Nodup) (hz : es.length ≤ 1000) (r : VR (vis fm led s.heap) av v)
    (q : ∀ s', Step fm led (upd led a (.dict (putE k av es))) s s' → St w.params h00 R fm loc (upd led a (.dict (putE k av es))) s' → Q () s') : wpAny (model prog w) A (setItem (.ref a) (.str k t) v) Q E s := by
  obtain ⟨kvs, hd, hf⟩ := Has.dictAt (prog := prog) D (Has.ofLed hm) nd
  obtain ⟨o0, ho0, _⟩ := D.ld _ hm
  refine wpAny_setItem_pairs (hsz := by rw [hf.len]; exact Nat.le_trans hz line_big) keyIs hd fun h' hd' hs' => ?_
  obtain ⟨o', ho', hr⟩ := dictOf_or hd' (hf.put r nd)
  obtain ⟨D2, S2⟩ := D.put (ao := .dict (putE k av es)) (h' := h') (tk := s.toks + 1) (mem_addr hm) (fun b o hb e => (hs'.2 b hb).trans e) ho' hr ⟨o0, ho0, by obtain ⟨o, ho, hr⟩ := D.ld _ hm; rw [ho0] at ho; cases ho; exact OR.nocell hr⟩
  exact q _ S2 D2
theorem TX.setItem {o i value : Expr} {p pos : Pos} {Φ : AF → Loc → Led → Prop}
    (hv : TE prog w h00 R A fm loc led value fun av l1 d1 => PE prog w h00 R A fm l1 d1 o (.raw (.ref a)) ∧ PE prog w h00 R A fm l1 d1 i (.d (.str k)) ∧ ∃ es, (a, .dict es) ∈ d1 ∧ (es.map (·.1)).Nodup ∧ es.length ≤ 1000 ∧ Φ .next l1 (upd d1 a (.dict (putE k av es))))
    (hs : swapsWith value (some (.Subscript o i p)) pos.line fm.env = pure false := by rfl) : TX prog w h00 R A fm loc led (.Assign [.Subscript o i p] value pos) Φ := fun s D Q E q => by
  refine wpAny_Assign_Subscript (hv s D _ _ fun v s1 av l1 d1 S1 D1 r1 pp => ?_) hs
  obtain ⟨ho, hi, es, hm, nd, hz, fin⟩ := pp
  refine ho s1 D1 _ _ fun u h2 t2 k2 r2 => hi _ (D1.quiet k2) _ _ fun x h3 t3 k3 r3 => ?_
  cases r2
  obtain ⟨t, rfl⟩ := reads_str r3
  have D3 := (D1.quiet (tk := t2) k2).quiet (tk := t3) k3
  exact set_dict D3 hm nd hz (r1.mono (hide_ext (k2.trans k3))) fun s4 S4 D4 => q _ s4 .next _ _ (S1.trans (D1.step (k2.trans k3) S4)) D4 rfl fin
/-- the heap step of del d[k] -/
theorem del_dict {s : Shared} {t : Tok} {Q : Unit → Shared → Prop} {E : Value → Shared → Prop} (D : St w.params h00 R fm loc led s) (hm : (a, .dict es) ∈ led) (nd : (es.map (·.1)).Nodup) (hz : es.length ≤ 1000) (hk : k ∈ es.map (·.1))
    (q : ∀ s', Step fm led (upd led a (.dict (delE k es))) s s' → St w.params h00 R fm loc (upd led a (.dict (delE k es))) s' → Q () s') : wpAny (model prog w) A (delItem (.ref a) (.str k t)) Q E s := by
  obtain ⟨kvs, hd, hf⟩ := Has.dictAt (prog := prog) D (Has.ofLed hm) nd
  obtain ⟨o0, ho0, _⟩ := D.ld _ hm
  unfold delItem
  try with_reducible refine wpAny_holding ?_
  have hv : (valueAt kvs k).isSome = true := by
    obtain ⟨av, e⟩ := Option.isSome_iff_exists.mp (lookup_some_mem hk)
    obtain ⟨y, hy, _⟩ := hf.find e
    rw [hy]; rfl
  refine wpAny_bind (wpAny_sequenceKey hd.typeIs (by decide) ?_)
  refine wpAny_bind (wpAny_callSpecial?_slot (name := Str.ofString "__delitem__") hd.typeIs PySem.F.slot_dict_delitem
    (call_meetsIn PySem.F.slot_dict_delitem hd.typeIs PySem.F.entry_dict_delitem (PySem.F.args_dict_delitem_2 _ _) (meets_dict_delitem_pairs (PySem.strKind prog w) (k := k) a keyIs) ⟨kvs, hd, (by rw [hf.len]; exact Nat.le_trans hz line_big), hv, fun h' hd' hs' => ?_⟩))
  obtain ⟨o', ho', hr⟩ := dictOf_or hd' hf.del
  obtain ⟨D2, S2⟩ := D.put (ao := .dict (delE k es)) (h' := h') (tk := s.toks + 1) (mem_addr hm) (fun b o hb e => (hs'.2 b hb).trans e) ho' hr ⟨o0, ho0, by obtain ⟨o, ho, hr⟩ := D.ld _ hm; rw [ho0] at ho; cases ho; exact OR.nocell hr⟩
  exact wpAny_pure (q _ S2 D2)
/-- del d[e], where e may change the ledger -/
theorem TX.delItem {o i : Expr} {p pos : Pos} {Φ : AF → Loc → Led → Prop} (ho : PE prog w h00 R A fm loc led o (.raw (.ref a)))
    (hi : TE prog w h00 R A fm loc led i fun av l1 d1 => ∃ k es, av = .d (.str k) ∧ (a, .dict es) ∈ d1 ∧ (es.map (·.1)).Nodup ∧ es.length ≤ 1000 ∧ k ∈ es.map (·.1) ∧ Φ .next l1 (upd d1 a (.dict (delE k es)))) : TX prog w h00 R A fm loc led (.Delete [.Subscript o i p] pos) Φ := fun s D Q E q => by
  refine wpAny_Delete (wpAny_deleteEach_cons (wpAny_delete_Subscript (ho s D _ _ fun u h1 t1 k1 r1 => ?_)))
  cases r1
  refine hi _ (D.quiet (tk := t1) k1) _ _ fun v s2 av l2 d2 S2 D2 r2 pp => ?_
  obtain ⟨k, es, rfl, hm, nd, hz, hk, fin⟩ := pp
  obtain ⟨t, rfl⟩ := reads_str r2
  exact del_dict D2 hm nd hz hk fun s3 S3 D3 => wpAny_deleteEach_nil (q _ s3 .next _ _ ((D.step k1 S2).trans S3) D3 rfl fin)
end
end Mine
end
section
open PySem PySem.Spec PySem.Calls PyProof.Rows PySem.W PySem.SeqAt PySem.Builtin PySem.Builtin.Str
set_option maxRecDepth 100000
set_option linter.unusedVariables false
set_option autoImplicit false
namespace Mine
theorem setOf_of {prog : Program} {w : World} {B h : Heap} {a : Addr} {xs : List Str} {o : Obj} (ho : h.get? a = some o) (r : OR w.params B (.sset xs) o) (hz : xs.length < 4000) : ∃ n, h.SetOf (PySem.strKind prog w) a (fun k => decide (k ∈ xs)) n ∧ n ≤ xs.length := by
  obtain ⟨es, n, t, rfl, h1, h2, h3, h4⟩ := r
  refine ⟨es.size, ⟨_, es, n, t, ho, ⟨rfl, rfl, rfl⟩, rfl, h1, fun k => ?_, ?_, h4, rfl⟩, h3⟩
  · rw [decide_eq_true_eq]; exact h2 k
  · show es.size < 4096; omega
theorem setOf_or {prog : Program} {w : World} {B h : Heap} {a : Addr} {xs : List Str} {S : Str → Bool} {n : Nat} (H : h.SetOf (PySem.strKind prog w) a S n) (hS : ∀ k, S k = true ↔ k ∈ xs) (hn : n ≤ xs.length) : ∃ o, h.get? a = some o ∧ OR w.params B (.sset xs) o := by
  obtain ⟨o, es, ep, t, ho, ⟨c1, c2, c3⟩, hd, h1, h2, h3, h4, rfl⟩ := H
  refine ⟨o, ho, es, ep, t, ?_, h1, fun k => (hS k).symm.trans (h2 k), hn, h4⟩
  obtain ⟨c, d, dt, sl⟩ := o
  dsimp only at c1 c2 c3 hd
  subst c1 c2 c3 hd
  rfl
section
variable {prog : Program} {w : World} {h00 : Heap} {R : Shared} {A : Around} {fm : Fm} {loc : Loc} {led : Led} {a : Addr} {xs : List Str} {k : Str} {av : AV} {es : List (Str × AV)}
theorem St.set {s : Shared} (D : St w.params h00 R fm loc led s) (hm : (a, .sset xs) ∈ led) (hz : xs.length < 4000) : ∃ n, s.heap.SetOf (PySem.strKind prog w) a (fun k => decide (k ∈ xs)) n ∧ n ≤ xs.length := by
  obtain ⟨o, ho, r⟩ := D.ld _ hm
  exact setOf_of ho r hz
theorem PT.inSet {l r : Expr} {pos : Pos} (hl : PE prog w h00 R A fm loc led l (.d (.str k))) (hr : PE prog w h00 R A fm loc led r (.raw (.ref a))) (hm : (a, .sset xs) ∈ led) (hz : xs.length < 4000)
    (hb : behindInMarks .In r = false := by with_unfolding_all rfl) : PT prog w h00 R A fm loc led (.Compare l [.In] [r] pos) (decide (k ∈ xs)) := fun s D Q E q =>
  wpAny_isTrue_Compare1 (hl s D _ _ fun u h1 t1 k1 r1 => hr _ (D.quiet k1) _ _ fun v h2 t2 k2 r2 => by
    cases r2
    obtain ⟨t, rfl⟩ := reads_str r1
    have D2 := (D.quiet (tk := t1) k1).quiet (tk := t2) k2
    obtain ⟨n, hS, _⟩ := D2.set (prog := prog) hm hz
    exact wpAny_inSet_of (knd := PySem.strKind prog w) (k := k) keyIs rfl hS (wpAny_truthy_bool (q h2 _ (k1.trans k2)))) hb
theorem MethX.set (hm : (a, .sset xs) ∈ led) (hz : xs.length < 4000) : MethX prog w h00 R A fm loc led (.ref a) "add" (.builtin "set.add") [.ref a] := fun s D pl Q E q => by
  obtain ⟨n, hS, _⟩ := D.set (prog := prog) hm hz
  exact getMethod_set_add hS (q s.toks)
theorem CallT.setAdd {Φ : AV → Led → Prop} (hm : (a, .sset xs) ∈ led) (hz : xs.length < 3000) (h : Φ (.d .none) (upd led a (.sset (xs ++ [k])))) : CallT prog w h00 R A fm loc led (.builtin "set.add") [.raw (.ref a), .d (.str k)] Φ := fun s D vals rv Q E q => by
  cases rv with
  | cons r0 rs => cases rs with
    | cons r1 rs =>
      cases rs
      cases r0
      obtain ⟨t, rfl⟩ := reads_str r1
      obtain ⟨n, hS, hn⟩ := D.set (prog := prog) hm (by omega)
      obtain ⟨o0, ho0, hr0⟩ := D.ld _ hm
      refine call_set_add (knd := PySem.strKind prog w) (k := k) keyIs rfl hS (by show n + 1 < 4096; omega) fun h' hs' hS' => ?_
      obtain ⟨o', ho', hr⟩ := setOf_or (B := vis fm led s.heap) (xs := xs ++ [k]) hS' (fun k' => by simp [Bool.or_eq_true, decide_eq_true_eq]) (by rw [List.length_append, List.length_singleton]; split <;> omega)
      obtain ⟨D2, S2⟩ := D.put (ao := .sset (xs ++ [k])) (h' := h') (tk := s.toks + 1) (mem_addr hm) (fun b o hb e => (hs'.2 b hb).trans e) ho' hr ⟨o0, ho0, OR.nocell hr0⟩
      exact q _ _ (.d .none) _ S2 D2 ⟨_, .none⟩ h
/-- set() -/
theorem TE.set0 {func : Expr} {pos : Pos} {Φ : AV → Loc → Led → Prop} (hf : PE prog w h00 R A fm loc led func (.raw (.type "set"))) (h : ∀ a, a ∉ led.map (·.1) → Φ (.raw (.ref a)) loc ((a, .sset []) :: led))
    (he : eval (.Call func [] [] pos) fm.env = (do callWith pos (← eval func fm.env) [] (backTo pos (starEach [] fm.env)) (backToKw pos (keywordEach [] fm.env))) := by rfl) : TE prog w h00 R A fm loc led (.Call func [] [] pos) Φ := fun s D Q E q => by
  refine Call_ (hf s D _ _ fun g h1 t1 k1 r1 => ?_) he
  cases r1
  have D1 := D.quiet (tk := t1) k1
  refine callWith_type0 (call_set_0 fun ld => ?_)
  have up : ∀ o, Ext h1 (h1.push o) := fun o b ob e => Heap.get?_push_of_some _ e
  have no : h1.get? h1.objs.size = none := by
    cases q : h1.get? h1.objs.size with
    | none => rfl
    | some o => exact absurd (Heap.lt_size q) (Nat.lt_irrefl _)
  obtain ⟨D2, S2⟩ := D1.add (ao := .sset []) (tk := t1) no (up _) (Heap.get?_push_size _ rfl) ⟨#[], 0, .fresh 0 0 ld, rfl, fun e h => (by simp at h), fun x => (by simp), Nat.le_refl _, by rfl⟩
  refine q _ _ (.raw (.ref _)) _ _ (D.step k1 S2) D2 rfl (h _ fun hm => ?_)
  obtain ⟨o, ho⟩ := D1.bs.there _ (away_mem.mpr (.inr (.inr (.inl hm))))
  exact absurd (Heap.lt_size ho) (Nat.lt_irrefl _)
/-- what lies behind a told name, told of another value -/
theorem PE.tell {e : Expr} {y : Str} {u u0 : Value} {L L' : Led} (h : PE prog w h00 R A fm loc led e (.raw u)) (hl : loc.lookup y = some (.x (ledHP w.params u0 L))) (sub : ∀ p ∈ L', p ∈ L) : PE prog w h00 R A fm loc led e (.x (ledHP w.params u L')) := fun s D Q E q =>
  h s D Q E fun v h' tk k r => by
    cases r
    obtain ⟨v0, r0⟩ := (D.quiet (tk := tk) k).told hl
    exact q _ h' tk k ⟨rfl, fun p hp => r0.2 p (sub p hp)⟩
theorem IterP.dictKeys {L : Led} (hh : A.handled = none) (hm : (a, .dict es) ∈ L) (nd : (es.map (·.1)).Nodup) (hs : (a == sysModules) = false) : IterP prog w h00 R A (.x (ledHP w.params (.ref a) L)) (es.map fun p => .d (.str p.1)) := fun X s v Q E B rv k => by
  obtain ⟨rfl, r⟩ := rv
  obtain ⟨o, e, l, n, rfl, ents⟩ := r _ hm
  have e0 := hide_le _ _ e
  obtain ⟨kvs, hd, hf⟩ := ents.dictOf (prog := prog) e0 nd
  obtain ⟨ep, hat⟩ := hd.dictAt
  have hlt : a < s.heap.objs.size := Heap.lt_size e0
  have up : Ext s.heap (s.heap.push { cls := .type "dict_keyiterator", data := .fields #[.ref a, .int 0 0, .int kvs.length 0, .int ep 0] }) := fun b o e => Heap.get?_push_of_some _ e
  refine wpAny_pyIter_dict hs hat (k s.heap.objs.size [s.heap.objs.size, a] _ s.toks (fun i h => h.IsKeyIter s.heap.objs.size a i kvs.length ep ∧ h.DictAt (PySem.strKind prog w) a kvs ep) up ?_ (fun i h st => ?_) (fun b hb => ?_) ?_ ⟨⟨_, Heap.get?_push_size _ rfl, rfl, rfl⟩, hat.push _⟩)
  · cases q : s.heap.get? s.heap.objs.size with
    | none => rfl
    | some o => exact absurd (Heap.lt_size q) (Nat.lt_irrefl _)
  · obtain ⟨o, ho, hc, hd⟩ := st.1; exact ⟨o, ho, fun u => by rw [hd]; simp⟩
  · rcases List.mem_cons.mp hb with rfl | hb
    · exact .inl rfl
    · rw [List.mem_singleton.mp hb]; exact .inr ⟨hide_none e, _, e0⟩
  · have W := Walks.dictKeys (prog := prog) (w := w) (knd := PySem.strKind prog w) hh s.heap.objs.size a (Nat.ne_of_lt hlt) kvs ep
    rw [show (es.map fun p => AV.d (.str p.1)).length = kvs.length by rw [List.length_map, hf.len]]
    refine Walks.weak W fun i v p => ?_
    obtain ⟨k', x, hx, hk⟩ := p
    obtain ⟨t, rfl⟩ := Value.isStrOf_shape hk
    refine ⟨.d (.str k'), ?_, vr_str⟩
    have z : (kvs.map (·.1))[i]? = some k' := by rw [List.getElem?_map, hx]; rfl
    rw [hf.names, List.getElem?_map] at z
    rw [List.getElem?_map]
    obtain ⟨p, hp, hq⟩ := Option.map_eq_some_iff.mp z
    rw [hp]; exact congrArg (fun z => some (AV.d (PyData.str z))) hq
/-- the values of a dict that stays -/
noncomputable def valsHP (P : Params) (a : Addr) (es : List (Str × AV)) : HP := ⟨fun B v => ∃ q l n, v = .ref q ∧ B.get? q = some { cls := .type "dict_values", data := .fields #[.ref a] } ∧ B.get? a = some { cls := .type "dict", data := .dict (List.toArray l) n } ∧ EntsAre P B es l,
  fun B B' v k ⟨q, l, n, e, h1, h2, h3⟩ => ⟨q, l, n, e, k _ _ h1, k _ _ h2, h3.mono k⟩⟩
theorem MethP.ledDict {L : Led} {name : Str} {id : String} (hm : (a, .dict es) ∈ L) (slot : Slot "dict" name id) (hty : typeOf (.builtin id) = pure (.type "method_descriptor")) :
    MethP prog w h00 R A (.x (ledHP w.params (.ref a) L)) name (.builtin id) := fun X s v pl Q E B rv q => by
  obtain ⟨rfl, r⟩ := rv
  obtain ⟨o, e, l, n, rfl, _⟩ := r _ hm
  have e0 := hide_le _ _ e
  exact getMethod_builtin ⟨_, e0, rfl⟩ PySem.F.plainAttrs_dict slot hty (fun b e => by cases e; exact ⟨_, e0, rfl⟩) q
theorem CallP.values {L : Led} (hm : (a, .dict es) ∈ L) (nd : (es.map (·.1)).Nodup) (hs : (a == sysModules) = false) : CallP prog w h00 R A (.builtin "dict.values") [.x (ledHP w.params (.ref a) L)] (.x (valsHP w.params a es)) := fun X s vals Q E B rv k => by
  cases rv with
  | cons r0 rs =>
    cases rs
    obtain ⟨rfl, r⟩ := r0
    obtain ⟨o, e, l, n, rfl, ents⟩ := r _ hm
    have e0 := hide_le _ _ e
    obtain ⟨kvs, hd, hf⟩ := ents.dictOf (prog := prog) e0 nd
    have up : ∀ o, Ext s.heap (s.heap.push o) := fun o b ob e => Heap.get?_push_of_some _ e
    refine call_meetsIn PySem.F.slot_dict_values hd.typeIs PySem.F.entry_dict_values (PySem.F.args_dict_values_1 _) (meets_dict_values (PySem.strKind prog w) a hs) ⟨⟨kvs, hd⟩, ?_⟩
    exact k _ _ s.toks (up _) ⟨s.heap.objs.size, l, n, rfl, hideAll_get _ (Heap.get?_push_size _ rfl) fun h => absurd (B.low _ h) (Nat.lt_irrefl _), (hide_ext (up _)) _ _ e, ents.mono (hide_ext (up _))⟩
theorem Fits.at {B : Heap} {i : Nat} {p : Str × Value} {es kvs} (h : Fits B es kvs) (e : kvs[i]? = some p) : ∃ q, es[i]? = some q ∧ VR B q.2 p.2 := by
  induction h generalizing i with
  | nil => simp at e
  | cons r _ ih => cases i with
    | zero => simp at e; subst e; exact ⟨_, rfl, r⟩
    | succ i => exact ih (by simpa using e)
theorem IterP.vals (hh : A.handled = none) (nd : (es.map (·.1)).Nodup) : IterP prog w h00 R A (.x (valsHP w.params a es)) (es.map (·.2)) := fun X s v Q E B rv k => by
  obtain ⟨q, l, n, rfl, e1, e, ents⟩ := rv
  have e0 := hide_le _ _ e
  have e10 := hide_le _ _ e1
  obtain ⟨kvs, hd, hf⟩ := ents.dictOf (prog := prog) e0 nd
  obtain ⟨ep, hat⟩ := hd.dictAt
  have hlt : a < s.heap.objs.size := Heap.lt_size e0
  have up : Ext s.heap (s.heap.push { cls := .type "dict_valueiterator", data := .fields #[.ref a, .int 0 0, .int kvs.length 0, .int ep 0] }) := fun b o e => Heap.get?_push_of_some _ e
  refine wpAny_pyIter_values ⟨_, e10, rfl, rfl⟩ hat (k s.heap.objs.size [s.heap.objs.size, a] _ s.toks (fun i h => h.IsValIter s.heap.objs.size a i kvs.length ep ∧ h.DictAt (PySem.strKind prog w) a kvs ep) up ?_ (fun i h st => ?_) (fun b hb => ?_) ?_ ⟨⟨_, Heap.get?_push_size _ rfl, rfl, rfl⟩, hat.push _⟩)
  · cases q : s.heap.get? s.heap.objs.size with
    | none => rfl
    | some o => exact absurd (Heap.lt_size q) (Nat.lt_irrefl _)
  · obtain ⟨o, ho, hc, hd⟩ := st.1; exact ⟨o, ho, fun u => by rw [hd]; simp⟩
  · rcases List.mem_cons.mp hb with rfl | hb
    · exact .inl rfl
    · rw [List.mem_singleton.mp hb]; exact .inr ⟨hide_none e, _, e0⟩
  · have W := Walks.dictValues (prog := prog) (w := w) (knd := PySem.strKind prog w) hh s.heap.objs.size a (Nat.ne_of_lt hlt) kvs ep
    rw [show (es.map (·.2)).length = kvs.length by rw [List.length_map, hf.len]]
    refine Walks.weak W fun i v p => ?_
    obtain ⟨k', hx⟩ := p
    obtain ⟨q, hq, r⟩ := hf.at hx
    exact ⟨q.2, by rw [List.getElem?_map, hq]; rfl, r⟩
end
end Mine
end
section
open PySem PySem.Spec PySem.Calls PyProof.Rows PySem.W PySem.SeqAt PySem.Builtin PySem.Builtin.Str
set_option maxRecDepth 100000
set_option linter.unusedVariables false
set_option autoImplicit false
namespace Mine
section
variable {prog : Program} {w : World} {h00 : Heap} {R : Shared} {A : Around} {fm : Fm} {loc : Loc} {led led' : Led} {K : Frag} {x dx C p : Addr} {es : List (Str × AV)} {vs : List (Option AV)} {name : Str} {i : Nat} {av : AV}
theorem AttrGet.dictH {attr : Option Value} (X : K.In h00) (hx : Has w.params h00 R fm loc led x (.inst C dx)) (hd : Has w.params h00 R fm loc led dx (.dict es)) (hl : es.lookup name = some av) (hv : Handed av)
    (hg : plainGet K C name = true) (hh : hasDictIn K C = true) (ha : findIn K (.ref C) name = some attr) (hn : noGet K attr = true) : AttrGet prog w h00 R A fm loc led x name av := fun s D Q E k => by
  obtain ⟨l, n, h1, h2, h3⟩ := Has.inst D hx hd
  obtain ⟨en, h4, h5⟩ := h3.find hl
  have hl' : lookIn name (dictOf l n) = some (some en.val) := by rw [lookIn_dict]; unfold getL; rw [h4]
  exact get_value (D.K X) (inst_at h1 h2) (plainGet_of hg).1 (findObj_own hh ha hn hl') (hv _ _ h5) (k _ s.heap _ Ext.rfl h5)
theorem AttrGet.slotH (X : K.In h00) (hx : Has w.params h00 R fm loc led x (.slots C dx vs)) (hd : Has w.params h00 R fm loc led dx (.dict es)) (hl : vs[i]? = some (some av)) (hv : Handed av)
    (hg : plainGet K C name = true) (hc : isClsIn K C = true) (ha : findIn K (.ref C) name = some (some (.ref p))) (hn : specialIn K (.ref p) "__get__" = some (some (.builtin "member_descriptor.__get__"))) (ht : takesIn K (.ref p) = some true) (hp : slotIn K p C = some i) : AttrGet prog w h00 R A fm loc led x name av := fun s D Q E k => by
  obtain ⟨o, h1, ws, rfl, h2⟩ := hx s D
  obtain ⟨o', h3, l, n, rfl, h4⟩ := hd s D
  obtain ⟨v, h5, h6⟩ := h2.at_ hl
  have I : InstAt s.heap x { cls := .ref C, dict := some dx, data := .plain, slots := ws.toArray } C (some (dictOf l n)) := ⟨h1, rfl, rfl, h3⟩
  exact get_bind (D.K X) I (plainGet_of hg).1 (findObj_data hc ha hn ht) (plainGet_of hg).2 (wpAny_call (slot_get (s := { s with toks := s.toks + 1 }) (D.K X) I hp (v := v) (by simp [h5]) (handed_on (hv _ _ h6) (k _ s.heap _ Ext.rfl h6))))
theorem AttrSet.dictH (X : K.In h00) (hx : Has w.params h00 R fm loc led x (.inst C dx)) (hd : (dx, .dict es) ∈ led) (hz : es.length < 900)
    (hs : findIn K (.ref C) "__setattr__" = some (some (.builtin "object.__setattr__"))) (hp : plainOver K C = true) (ht : takerIn K C name = some none) (hh : hasDictIn K C = true) : AttrSet prog w h00 R A fm loc led x name av (upd led dx (.dict (putE name av es))) := fun s D v r Q E k => by
  obtain ⟨l, n, h1, h3, h4⟩ := Has.inst D hx (Has.ofLed hd)
  have hlen := h4.len
  refine setAttr_dict (D.K X) h1 h3 hs hp ht hh h4.get (by rw [hlen]; exact hz) fun h' n' tk k2 g => ?_
  obtain ⟨D3, S3⟩ := D.put (ao := .dict (putE name av es)) (h' := h') (tk := tk) (mem_addr hd) k2 g ⟨_, _, rfl, h4.put r⟩ ⟨_, h3, fun u => by simp⟩
  exact k _ S3 D3
theorem AttrSet.slotH {ao : AO} (X : K.In h00) (hx : (x, ao) ∈ led) (hao : asSlots ao = some (C, dx, vs)) (hd : Has w.params h00 R fm loc led dx (.dict es))
    (hs : findIn K (.ref C) "__setattr__" = some (some (.builtin "object.__setattr__"))) (hp : plainOver K C = true) (ht : takerIn K C name = some (some (.ref p))) (hT : typeIn K (.ref p) = some (.type "member_descriptor")) (hi : slotIn K p C = some i) (hz : i < 1000) :
    AttrSet prog w h00 R A fm loc led x name av (upd led x (.slots C dx (putSlot i av vs))) := fun s D v r Q E k => by
  obtain ⟨ox, h1, h5⟩ := D.ld _ hx
  obtain ⟨ws, rfl, h6⟩ := OR.asSlots h5 hao
  obtain ⟨od, h3, l, n, rfl, h4⟩ := hd s D
  have I : InstAt s.heap x { cls := .ref C, dict := some dx, data := .plain, slots := ws.toArray } C (some (dictOf l n)) := ⟨h1, rfl, rfl, h3⟩
  refine set_plain (D.K X) I hs (osa_descr KF.slot_mset (D.K X) I hp ht hT (mset_own (D.K X) I hi hz rfl (fun _ => rfl) fun h' k2 g => ?_))
  obtain ⟨D3, S3⟩ := D.put (ao := .slots C dx (putSlot i av vs)) (h' := h') (tk := s.toks + 1) (mem_addr hx) k2 g ⟨putSlot i v ws, by (congr 1; apply Array.ext'; simp [putSlot]), h6.put r i⟩ ⟨_, h1, fun u => by simp⟩
  exact k _ S3 D3
/-- an attribute read -/
theorem PE.attrG {e : Expr} {pos : Pos} (he : PE prog w h00 R A fm loc led e (.raw (.ref x))) (hg : AttrGet prog w h00 R A fm loc led x name av)
    (hb : eval (.Attribute e name pos) fm.env = (do
      let o ← eval e fm.env
      standAt pos.atName
      let r ← holding [o] (getAttr o name true)
      letTemporaryGo e o r
      Pure.pure r) := by rfl) : PE prog w h00 R A fm loc led (.Attribute e name pos) av := PE.attrX he hg hb
/-- an attribute stored -/
theorem TX.setBy {o value : Expr} {apos pos : Pos} {Φ : AF → Loc → Led → Prop}
    (hv : TE prog w h00 R A fm loc led value fun av l1 d1 => ∃ x d2, PE prog w h00 R A fm l1 d1 o (.raw (.ref x)) ∧ AttrSet prog w h00 R A fm l1 d1 x name av d2 ∧ Φ .next l1 d2)
    (hsw : swapsWith value (some (.Attribute o name apos)) pos.line fm.env = Pure.pure false := by rfl) : TX prog w h00 R A fm loc led (.Assign [.Attribute o name apos] value pos) Φ := fun s D Q E q => by
  refine plainObj_wpAny_Assign_Attribute (hv s D _ _ fun v s1 av l1 d1 S1 D1 r1 p => ?_) hsw
  obtain ⟨x, d2, ho, hs, fin⟩ := p
  refine ho s1 D1 _ _ fun u h2 t2 k2 r2 => ?_
  cases r2
  have D2 := D1.quiet (tk := t2) k2
  exact hs _ D2 v (r1.mono (hide_ext k2)) _ _ fun s3 S3 D3 => q _ s3 .next _ _ (S1.trans (D1.step k2 S3)) D3 rfl fin
/-- x.a op= e -/
theorem TX.aug {o value : Expr} {apos pos : Pos} {op : Operator} {Φ : AF → Loc → Led → Prop} {old v new : AV} {d2 : Led} (ho : PE prog w h00 R A fm loc led o (.raw (.ref x))) (hg : AttrGet prog w h00 R A fm loc led x name old)
    (hv : PE prog w h00 R A fm loc led value v) (hop : Op2 prog w A (inplaceOp op) old v new) (hs : AttrSet prog w h00 R A fm loc led x name new d2) (fin : Φ .next loc d2) : TX prog w h00 R A fm loc led (.AugAssign (.Attribute o name apos) op value pos) Φ := fun s D Q E q => by
  refine wpAny_AugAssign_AttributeAny (ho s D _ _ fun u h1 t1 k1 r1 => ?_)
  cases r1
  have D1 := D.quiet (tk := t1) k1
  refine hg _ D1 _ _ fun y h2 t2 k2 r2 => ?_
  have D2 := D1.quiet (tk := t2) k2
  refine hv _ D2 _ _ fun z h3 t3 k3 r3 => ?_
  have D3 := D2.quiet (tk := t3) k3
  refine hop _ _ y z _ _ D3.lo (r2.mono (hide_ext k3)) r3 fun r h4 t4 k4 r4 => ?_
  have D4 := D3.quiet (tk := t4) k4
  exact hs _ D4 r r4 _ _ fun s5 S5 D5 => q _ s5 .next _ _ (D.step (k1.trans (k2.trans (k3.trans k4))) S5) D5 rfl fin
theorem Op2.iadd {a b : Int} : Op2 prog w A (inplaceOp .Add) (.d (.int a)) (.d (.int b)) (.d (.int (a + b))) := .ints fun s u v Q E k => PySem.P.iadd_int (k _ _ fun _ => vr_int)
theorem Op2.isub {a b : Int} : Op2 prog w A (inplaceOp .Sub) (.d (.int a)) (.d (.int b)) (.d (.int (a - b))) := .ints fun s u v Q E k => PySem.P.isub_int (k _ _ fun _ => vr_int)
theorem Op2.isNone {a : AV} {b : Bool} (h : ∀ B v, VR B a v → (v == Value.none) = b) : Op2 prog w A (compareOp .Is) a (.d .none) (.d (.bool b)) := fun X s u v Q E lo ru rv k => by
  obtain ⟨as, rv⟩ := rv
  cases rv
  have e := h _ _ ru
  exact PySem.is_none (by rw [e]; exact k _ s.heap s.toks Ext.rfl vr_bool)
theorem Op2.isNotNone {a : AV} {b : Bool} (h : ∀ B v, VR B a v → (v == Value.none) = b) : Op2 prog w A (compareOp .IsNot) a (.d .none) (.d (.bool !b)) := fun X s u v Q E lo ru rv k => by
  obtain ⟨as, rv⟩ := rv
  cases rv
  have e := h _ _ ru
  exact PySem.isNot_none (by rw [e]; exact k _ s.heap s.toks Ext.rfl vr_bool)
theorem none_ref {a : Addr} : ∀ B v, VR B (.raw (.ref a)) v → (v == Value.none) = false := fun B v h => by cases h; rfl
theorem none_none : ∀ B v, VR B (.d .none) v → (v == Value.none) = true := fun B v h => by obtain ⟨as, h⟩ := h; cases h; rfl
end
end Mine
end
section
open PySem PySem.Spec PySem.Calls PyProof.Rows PySem.W PySem.SeqAt PySem.Builtin PySem.Builtin.Str
set_option maxRecDepth 100000
set_option linter.unusedVariables false
set_option autoImplicit false
namespace Mine
section
variable {prog : Program} {w : World} {h00 : Heap} {R : Shared} {A : Around} {fm : Fm} {loc : Loc} {led led' : Led}
/-- if (r := e) is None -/
theorem TX.ifNamed {r : Str} {pr np cp kp pos : Pos} {kn : Nat} {value : Expr} {body orelse : List Stmt} {Φ : AF → Loc → Led → Prop} (hk : fm.env.scope.kind = .function) (hx : Stores fm r)
    (h : TE prog w h00 R A fm loc led value fun av l1 d1 => ∃ b, (∀ B v, VR B av v → (v == Value.none) = b) ∧ (b = true → TS prog w h00 R A fm ((r, av) :: l1) d1 body Φ) ∧ (b = false → TS prog w h00 R A fm ((r, av) :: l1) d1 orelse Φ)) :
    TX prog w h00 R A fm loc led (.If (.Compare (.NamedExpr (.Name r pr) value np) [.Is] [.Constant .none kn kp] cp) body orelse pos) Φ := fun s D Q E q => by
  refine wpAny_If (wpAny_isTrue_Compare1 (wpAny_NamedExpr (h s D _ _ fun v s1 av l1 d1 S1 D1 r1 p => ?_)) (by with_unfolding_all rfl))
  obtain ⟨b, hb, ht, hf⟩ := p
  refine wpAny_assign_Name (show wpAny _ _ (storeName fm.env r v) _ _ _ from store_name D1 r1 hk (hx.l _) fun s2 S2 _ D2 => ?_)
  refine wpAny_Constant_none (PySem.is_none (wpAny_truthy_bool ?_))
  rw [hb _ _ r1]
  have go : ∀ {ss}, TS prog w h00 R A fm ((r, av) :: l1) d1 ss Φ → wpAny (model prog w) A (execs ss fm.env) Q E s2 := fun hh => hh _ D2 _ _ fun fl s3 af l3 d3 y D3 r3 p3 => q fl s3 af l3 d3 ((S1.trans S2).trans y) D3 r3 p3
  cases b with
  | true => exact go (ht rfl)
  | false => exact go (hf rfl)
/-- d[k] = r = e -/
theorem TX.setItemName {r : Str} {a : Addr} {k : Str} {o i value : Expr} {p1 p2 pos : Pos} {Φ : AF → Loc → Led → Prop} (hk : fm.env.scope.kind = .function) (hx : Stores fm r)
    (hv : TE prog w h00 R A fm loc led value fun av l1 d1 => PE prog w h00 R A fm l1 d1 o (.raw (.ref a)) ∧ PE prog w h00 R A fm l1 d1 i (.d (.str k)) ∧ ∃ es, (a, .dict es) ∈ d1 ∧ (es.map (·.1)).Nodup ∧ es.length ≤ 1000 ∧ Φ .next ((r, av) :: l1) (upd d1 a (.dict (putE k av es))))
    (he : (assignEach [.Subscript o i p1, .Name r p2] fm.env).map (·.2) = [PySem.assign (.Subscript o i p1) fm.env, PySem.assign (.Name r p2) fm.env] := by rfl)
    (hw : swappedStores [.Subscript o i p1, .Name r p2] value fm.env = Pure.pure none := by rfl) :
    TX prog w h00 R A fm loc led (.Assign [.Subscript o i p1, .Name r p2] value pos) Φ := fun s D Q E q => by
  refine wpAny_Assign_two (hv s D _ _ fun v s1 av l1 d1 S1 D1 r1 pp => ?_) he hw
  obtain ⟨ho, hi, es, hm, nd, hz, fin⟩ := pp
  rw [assign_Subscript]
  refine wpAny_bind (wpAny_holding (ho s1 D1 _ _ fun u h2 t2 k2 r2 => wpAny_bind (wpAny_holding (hi _ (D1.quiet k2) _ _ fun x h3 t3 k3 r3 => ?_))))
  cases r2
  obtain ⟨t, rfl⟩ := reads_str r3
  have D3 := (D1.quiet (tk := t2) k2).quiet (tk := t3) k3
  refine wpAny_bind (wpAny_standAt (wpAny_bind (wpAny_holding (set_dict D3 hm nd hz (r1.mono (hide_ext (k2.trans k3))) fun s4 S4 D4 => ?_))))
  refine wpAny_release ?_
  refine wpAny_assign_Name (show wpAny _ _ (storeName fm.env r v) _ _ _ from store_name D4 ((r1.mono (hide_ext (k2.trans k3))).mono S4.ext) hk (hx.l _) fun s5 S5 _ D5 => ?_)
  exact q _ s5 .next _ _ (S1.trans ((D1.step (k2.trans k3) S4).trans S5)) D5 rfl fin
end
end Mine
end
section
open PySem PySem.Spec PySem.Calls PyProof.Rows PySem.W PySem.SeqAt PySem.Builtin PySem.Builtin.Str
set_option maxRecDepth 100000
set_option linter.unusedVariables false
set_option autoImplicit false
namespace Mine
theorem slot_wd_get : Slot "wrapper_descriptor" "__get__" "wrapper_descriptor.__get__" :=
  .of (owner := "wrapper_descriptor") (n := "__get__") (by rw [typeLookup_type, builtinLookup_eq_fast]; kernel_rfl) (by decide +kernel) (by decide +kernel) (by decide +kernel)
    (by first | exact .inl (by decide +kernel) | exact .inr (by decide +kernel)) (by rw [isSubtype_type]; kernel_rfl)
theorem noset_wd : typeLookup (.type "wrapper_descriptor") "__set__" = pure none := by rw [typeLookup_type, builtinLookup_eq_fast]; kernel_rfl
theorem nodel_wd : typeLookup (.type "wrapper_descriptor") "__delete__" = pure none := by rw [typeLookup_type, builtinLookup_eq_fast]; kernel_rfl
theorem entry_wd_get : entryFor table "wrapper_descriptor.__get__" = some Builtin.«wrapper_descriptor.__get__» := entryFor_of_tree (by kernel_rfl)
theorem args_wd_get (a b c : Value) : argsOk "wrapper_descriptor.__get__" ⟨[a, b, c], []⟩ := by unfold argsOk; kernel_rfl
theorem type_li_next : typeOf (.builtin "list_iterator.__next__") = pure (.type "wrapper_descriptor") := by show builtinType _ = _; rw [builtinType_eq_fast]; kernel_rfl
theorem slot_li_ga : Slot "list_iterator" "__getattribute__" "object.__getattribute__" :=
  .of (owner := "object") (n := "__getattribute__") (by rw [typeLookup_type, builtinLookup_eq_fast]; kernel_rfl) (by decide +kernel) (by decide +kernel) (by decide +kernel)
    (by first | exact .inl (by decide +kernel) | exact .inr (by decide +kernel)) (by rw [isSubtype_type]; kernel_rfl)
theorem args_obj_ga (a b : Value) : argsOk "object.__getattribute__" ⟨[a, b], []⟩ := by unfold argsOk; kernel_rfl
section
variable {prog : Program} {w : World} {A : Around} {E : Value → Shared → Prop} {h : Heap} {g : Array GenState} {d : Drawn} {t : Nat} {os : OsState} {a : Addr} {fs : Array Value}
set_option maxHeartbeats 4000000 in
theorem next_entry {tk : Tok} {Q : Fin → Shared → Prop} (hx : h.get? a = some { cls := .type "list_iterator", data := .fields fs }) 
   (hq : Q (.done (.ret (.ref h.objs.size))) ⟨h.push { cls := .type "method-wrapper", data := .fields #[.builtin "list_iterator.__next__", .ref a] }, g, d, t, os⟩) :
    wpAny (model prog w) A (Builtin.«object.__getattribute__» ⟨[.ref a, .str "__next__" tk], []⟩) Q E ⟨h, g, d, t, os⟩ := by
  have hT : (⟨h, g, d, t, os⟩ : Shared).TypeIs (.ref a) "list_iterator" := ⟨_, hx, rfl⟩
  have f4 := slot_listiter_next.lookup
  have f5 := type_li_next
  have hT5 : (⟨h, g, d, t, os⟩ : Shared).TypeIs (.builtin "list_iterator.__next__") "wrapper_descriptor" := f5
  have f6 := slot_wd_get.lookup
  have f7 := noset_wd
  have f8 := nodel_wd
  repeat (any_goals (first | assumption | wp_step))
  refine codeAny_call_builtin slot_wd_get.plain entry_wd_get (slot_wd_get.check _ _ _ _ _ _ _ _ hT5 (args_wd_get _ _ _) ?_)
  unfold Builtin.«wrapper_descriptor.__get__»
  refine wpAny_bind (wpAny_of_eq (a := (.builtin "list_iterator.__next__", some (.ref a), some (.type "list_iterator"))) (by first | rfl | kernel_rfl) ?_)
  dsimp only
  have own : ".".intercalate ("list_iterator.__next__".cutAt '.').dropLast = "list_iterator" := by decide +kernel
  show wpAny _ _ ((isInstance (.ref a) (.type (".".intercalate ("list_iterator.__next__".cutAt '.').dropLast)) >>= fun r => if (!r) = true then _ else pure ()) >>= fun _ => newFields "method-wrapper" [.builtin "list_iterator.__next__", .ref a] >>= fun v => ret v) _ _ _
  rw [own]
  have g1 : isSubtype (.type "list_iterator") (.type "list_iterator") = pure true := by rw [isSubtype_type]; kernel_rfl
  refine wpAny_bind (wpAny_bind ?_)
  repeat (any_goals (first | assumption | wp_step))
set_option maxHeartbeats 4000000 in
theorem next_getAttr {expr : Bool} {Q : Value → Shared → Prop} (hx : h.get? a = some { cls := .type "list_iterator", data := .fields fs })
   (hq : ∀ t', Q (.ref h.objs.size) ⟨h.push { cls := .type "method-wrapper", data := .fields #[.builtin "list_iterator.__next__", .ref a] }, g, d, t', os⟩) :
    wpAny (model prog w) A (getAttr (.ref a) "__next__" expr) Q E ⟨h, g, d, t, os⟩ := by
  have hT : (⟨h, g, d, t, os⟩ : Shared).TypeIs (.ref a) "list_iterator" := ⟨_, hx, rfl⟩
  have f2 := slot_li_ga.lookup
  have f3 := slot_li_ga.bind (.ref a)
  unfold getAttr getAttrBy
  refine wpAny_bind (wpAny_mkText (wpAny_holding (wpAny_bind ?_)))
  repeat (any_goals (first | assumption | wp_step))
  rw [if_neg (by cases expr <;> decide)]
  repeat (any_goals (first | assumption | wp_step))
  refine codeAny_call_builtin slot_li_ga.plain PySem.F.entry_object_getattribute (slot_li_ga.check _ _ _ _ _ _ _ _ (show (⟨h, g, d, t + 1, os⟩ : Shared).TypeIs (.ref a) "list_iterator" from ⟨_, hx, rfl⟩) (args_obj_ga _ _) (next_entry hx ?_))
  repeat (any_goals (first | assumption | wp_step))
  exact hq _
theorem sig_next : Manifest.signature? "list_iterator.__next__" = some ⟨.exact, "wrapper __next__", "", .self, []⟩ := by kernel_rfl
end
end Mine
end
section
open PySem PySem.Spec PySem.Calls PyProof.Rows PySem.W PySem.SeqAt PySem.Builtin PySem.Builtin.Str
set_option maxRecDepth 100000
set_option linter.unusedVariables false
set_option autoImplicit false
namespace Mine
theorem upd_none {led : Led} {a : Addr} {ao : AO} (h : a ∉ led.map (·.1)) : upd led a ao = led := by
  unfold upd
  conv => rhs; rw [← List.map_id led]
  refine List.map_congr_left fun p hp => ?_
  rw [if_neg fun (q : p.1 = a) => h (q ▸ List.mem_map_of_mem (f := (·.1)) hp)]; rfl
theorem upd_app (l1 l2 : Led) (a : Addr) (ao : AO) : upd (l1 ++ l2) a ao = upd l1 a ao ++ upd l2 a ao := by unfold upd; rw [List.map_append]
theorem upd_mid {pre post : Led} {a : Addr} {x ao : AO} (nd : ((pre ++ (a, x) :: post).map (·.1)).Nodup) : upd (pre ++ (a, x) :: post) a ao = pre ++ (a, ao) :: post := by
  rw [List.map_append, List.map_cons] at nd
  obtain ⟨h1, h2, h3⟩ := List.nodup_append.mp nd
  have h4 := (List.nodup_cons.mp h2).1
  rw [upd_app, upd_none fun h => h3 _ h _ List.mem_cons_self rfl]
  show pre ++ (if a = a then (a, ao) else (a, x)) :: upd post a ao = _
  rw [if_pos rfl, upd_none h4]
section
variable {prog : Program} {w : World} {h00 : Heap} {R : Shared} {A : Around} {fm : Fm} {loc : Loc} {led : Led}
theorem St.ledNd {P : Params} {s : Shared} (D : St P h00 R fm loc led s) : (led.map (·.1)).Nodup := (List.nodup_append.mp (List.nodup_cons.mp D.nd).2).2.1
theorem TS.nodup {ss : List Stmt} {Φ : AF → Loc → Led → Prop} (h : (led.map (·.1)).Nodup → TS prog w h00 R A fm loc led ss Φ) : TS prog w h00 R A fm loc led ss Φ := fun s D Q E q => h D.ledNd s D Q E q
theorem TX.nodup {ss : Stmt} {Φ : AF → Loc → Led → Prop} (h : (led.map (·.1)).Nodup → TX prog w h00 R A fm loc led ss Φ) : TX prog w h00 R A fm loc led ss Φ := fun s D Q E q => h D.ledNd s D Q E q
theorem CallT.nodup {f : Value} {args : List AV} {Φ : AV → Led → Prop} (h : (led.map (·.1)).Nodup → CallT prog w h00 R A fm loc led f args Φ) : CallT prog w h00 R A fm loc led f args Φ := fun s D vals rv Q E q => h D.ledNd s D vals rv Q E q
end
/-- a node of the graph: its name, the number of those before it, those behind it -/
structure Nd where
  nm : List Nat
  np : Int
  su : List (List Nat)

/-- where the sorter's objects lie -/
structure Ad where
  S : Addr
  D : Addr
  N : Addr
  a : List Nat → Addr
  b : List Nat → Addr
  l : List Nat → Addr
noncomputable def wordsAV (l : List (List Nat)) : List AV := l.map fun x => .d (strD x)
noncomputable def slotsOf (ad : Ad) (n : Nd) : List (Option AV) := [some (.d (strD n.nm)), some (.d (.int n.np)), some (.raw (.ref (ad.l n.nm)))]
noncomputable def nodeLed (ad : Ad) (n : Nd) : Led := [(ad.l n.nm, .list (wordsAV n.su)), (ad.a n.nm, .slots 123 (ad.b n.nm) (slotsOf ad n)), (ad.b n.nm, .dict [])]
noncomputable def n2iE (ad : Ad) (g : List Nd) : List (Str × AV) := g.map fun n => (S n.nm, .raw (.ref (ad.a n.nm)))
noncomputable def sorE (N : Addr) (rdy : AV) (po nf : Int) : List (Str × AV) := [("_node2info", .raw (.ref N)), ("_ready_nodes", rdy), ("_npassedout", .d (.int po)), ("_nfinished", .d (.int nf))]
noncomputable def bLed (ad : Ad) (g : List Nd) : Led := (ad.N, .dict (n2iE ad g)) :: (ad.S, .inst 220 ad.D) :: (ad.D, .dict (sorE ad.N (.d .none) 0 0)) :: g.flatMap (nodeLed ad)
noncomputable def names (g : List Nd) : List (List Nat) := g.map (·.nm)
noncomputable def addNode (g : List Nd) (nm : List Nat) : List Nd := if nm ∈ names g then g else g ++ [⟨nm, 0, []⟩]
noncomputable def chg (nm : List Nat) (f : Nd → Nd) (g : List Nd) : List Nd := g.map fun n => if n.nm = nm then f n else n
noncomputable def Same (ad ad' : Ad) (g : List Nd) : Prop := ad'.S = ad.S ∧ ad'.D = ad.D ∧ ad'.N = ad.N ∧ ∀ m ∈ names g, ad'.a m = ad.a m ∧ ad'.b m = ad.b m ∧ ad'.l m = ad.l m
theorem Same.rfl {ad : Ad} {g : List Nd} : Same ad ad g := ⟨_root_.rfl, _root_.rfl, _root_.rfl, fun m _ => ⟨_root_.rfl, _root_.rfl, _root_.rfl⟩⟩
theorem nodeLed_same {ad ad' : Ad} {n : Nd} (h : ad'.a n.nm = ad.a n.nm ∧ ad'.b n.nm = ad.b n.nm ∧ ad'.l n.nm = ad.l n.nm) : nodeLed ad' n = nodeLed ad n := by
  unfold nodeLed slotsOf; rw [h.1, h.2.1, h.2.2]
theorem flat_same {ad ad' : Ad} {g : List Nd} (h : ∀ m ∈ names g, ad'.a m = ad.a m ∧ ad'.b m = ad.b m ∧ ad'.l m = ad.l m) : g.flatMap (nodeLed ad') = g.flatMap (nodeLed ad) := by
  rw [List.flatMap_def, List.flatMap_def]
  refine congrArg List.flatten (List.map_congr_left fun n hn => nodeLed_same (h _ (List.mem_map_of_mem (f := (·.nm)) hn)))
theorem n2iE_same {ad ad' : Ad} {g : List Nd} (h : ∀ m ∈ names g, ad'.a m = ad.a m ∧ ad'.b m = ad.b m ∧ ad'.l m = ad.l m) : n2iE ad' g = n2iE ad g :=
  List.map_congr_left fun n hn => by rw [(h _ (List.mem_map_of_mem (f := (·.nm)) hn)).1]
theorem S_eq {a b : List Nat} : S a = S b ↔ a = b := by simp
theorem n2iE_names {ad : Ad} {g : List Nd} : (n2iE ad g).map (·.1) = (names g).map S := by unfold n2iE names; rw [List.map_map, List.map_map]; rfl
theorem n2iE_nodup {ad : Ad} {g : List Nd} (h : (names g).Nodup) : ((n2iE ad g).map (·.1)).Nodup := by
  rw [n2iE_names]
  unfold List.Nodup at h ⊢
  rw [List.pairwise_map]
  exact h.imp fun {a b} q z => q (S_eq.mp z)
theorem n2iE_look {ad : Ad} {nm : List Nat} : ∀ {g : List Nd}, (n2iE ad g).lookup (S nm) = if nm ∈ names g then some (.raw (.ref (ad.a nm))) else none
  | [] => _root_.rfl
  | n :: g => by
    show List.lookup (S nm) ((S n.nm, _) :: n2iE ad g) = _
    rw [List.lookup_cons]
    by_cases q : nm = n.nm
    · subst q; simp [names]
    · have : (S nm == S n.nm) = false := by simpa using q
      rw [this]
      show List.lookup (S nm) (n2iE ad g) = _
      rw [n2iE_look]
      have : nm ∈ names (n :: g) ↔ nm ∈ names g := by simp [names, q]
      by_cases z : nm ∈ names g
      · rw [if_pos z, if_pos (this.mpr z)]
      · rw [if_neg z, if_neg fun h => z (this.mp h)]
theorem putE_app {k : Str} {av : AV} : ∀ {es : List (Str × AV)}, k ∉ es.map (·.1) → putE k av es = es ++ [(k, av)]
  | [], _ => _root_.rfl
  | (k', a) :: es, h => by
    rw [List.map_cons, List.mem_cons, not_or] at h
    unfold putE
    rw [if_neg (by simpa using fun z => h.1 z.symm), putE_app h.2]; rfl
section
variable {prog : Program} {w : World} {h00 : Heap} {R : Shared} {A : Around} {fm : Fm} {loc : Loc} {led : Led} {x dx : Addr} {vs : List (Option AV)} {av : AV} {es : List (Str × AV)}
theorem getNode (G : Top0 w.params h00) (hx : Has w.params h00 R fm loc led x (.slots 123 dx vs)) (hd : Has w.params h00 R fm loc led dx (.dict [])) (hl : vs[0]? = some (some av)) (hv : Handed av) : AttrGet prog w h00 R A fm loc led x "node" av :=
  AttrGet.slotH (p := 124) (i := 0) G.X hx hd hl hv (by kernel_rfl) (by kernel_rfl) (by kernel_rfl) (by kernel_rfl) (by kernel_rfl) (by kernel_rfl)
theorem getNp (G : Top0 w.params h00) (hx : Has w.params h00 R fm loc led x (.slots 123 dx vs)) (hd : Has w.params h00 R fm loc led dx (.dict [])) (hl : vs[1]? = some (some av)) (hv : Handed av) : AttrGet prog w h00 R A fm loc led x "npredecessors" av :=
  AttrGet.slotH (p := 125) (i := 1) G.X hx hd hl hv (by kernel_rfl) (by kernel_rfl) (by kernel_rfl) (by kernel_rfl) (by kernel_rfl) (by kernel_rfl)
theorem getSu (G : Top0 w.params h00) (hx : Has w.params h00 R fm loc led x (.slots 123 dx vs)) (hd : Has w.params h00 R fm loc led dx (.dict [])) (hl : vs[2]? = some (some av)) (hv : Handed av) : AttrGet prog w h00 R A fm loc led x "successors" av :=
  AttrGet.slotH (p := 126) (i := 2) G.X hx hd hl hv (by kernel_rfl) (by kernel_rfl) (by kernel_rfl) (by kernel_rfl) (by kernel_rfl) (by kernel_rfl)
theorem setNode {ao : AO} (G : Top0 w.params h00) (hx : (x, ao) ∈ led) (hao : asSlots ao = some (123, dx, vs)) (hd : Has w.params h00 R fm loc led dx (.dict [])) : AttrSet prog w h00 R A fm loc led x "node" av (upd led x (.slots 123 dx (putSlot 0 av vs))) :=
  AttrSet.slotH (p := 124) (i := 0) G.X hx hao hd (by kernel_rfl) (by kernel_rfl) (by kernel_rfl) (by kernel_rfl) (by kernel_rfl) (by decide)
theorem setNp {ao : AO} (G : Top0 w.params h00) (hx : (x, ao) ∈ led) (hao : asSlots ao = some (123, dx, vs)) (hd : Has w.params h00 R fm loc led dx (.dict [])) : AttrSet prog w h00 R A fm loc led x "npredecessors" av (upd led x (.slots 123 dx (putSlot 1 av vs))) :=
  AttrSet.slotH (p := 125) (i := 1) G.X hx hao hd (by kernel_rfl) (by kernel_rfl) (by kernel_rfl) (by kernel_rfl) (by kernel_rfl) (by decide)
theorem setSu {ao : AO} (G : Top0 w.params h00) (hx : (x, ao) ∈ led) (hao : asSlots ao = some (123, dx, vs)) (hd : Has w.params h00 R fm loc led dx (.dict [])) : AttrSet prog w h00 R A fm loc led x "successors" av (upd led x (.slots 123 dx (putSlot 2 av vs))) :=
  AttrSet.slotH (p := 126) (i := 2) G.X hx hao hd (by kernel_rfl) (by kernel_rfl) (by kernel_rfl) (by kernel_rfl) (by kernel_rfl) (by decide)
theorem c_NodeInfo (G : Top0 w.params h00) (hA : Roomy 90 900 A) (nm : List Nat) {Φ : AV → Led → Prop} (k : ∀ x dx l, Φ (.raw (.ref x)) (led ++ [(l, .list []), (x, .slots 123 dx [some (.d (strD nm)), some (.d (.int 0)), some (.raw (.ref l))]), (dx, .dict [])])) :
    CallT prog w h00 R A fm loc led (.ref 123) [.d (strD nm)] Φ := by
  refine CallT.new (f := 119) (names := ["self", "node"]) G.X G.T hA (by decide) (by kernel_rfl) (by kernel_rfl) (by kernel_rfl) rfl (by kernel_rfl) rfl rfl (fun vals hv => ?_) (by decide) rfl (by decide) (fun x dx L hid A' hne nx ndx hA' => ?_)
  · match vals, hv with
    | [a, b], _ => rfl
  · refine TS.cons (TX.setBy (TE.pe (PE.name rfl) ⟨x, _, PE.name rfl, setNode (ao := .inst 123 dx) (dx := dx) (vs := []) G (List.mem_cons_self ..) rfl (Has.ofLed (by simp)), ?_⟩))
    rw [show upd [(x, AO.inst 123 dx), (dx, .dict [])] x (.slots 123 dx (putSlot 0 (AV.d (strD nm)) [])) = [(x, .slots 123 dx [some (.d (strD nm))]), (dx, .dict [])] by simp [upd, hne, putSlot]]
    refine TS.cons (TX.setBy (TE.pe PE.cInt ⟨x, _, PE.name rfl, setNp (dx := dx) (vs := [some (.d (strD nm))]) G (List.mem_cons_self ..) rfl (Has.ofLed (by simp)), ?_⟩))
    rw [show upd [(x, AO.slots 123 dx [some (.d (strD nm))]), (dx, .dict [])] x (.slots 123 dx (putSlot 1 (AV.d (.int 0)) [some (.d (strD nm))])) = [(x, .slots 123 dx [some (.d (strD nm)), some (.d (.int 0))]), (dx, .dict [])] by simp [upd, hne, putSlot]]
    refine TS.cons (TX.setBy (TE.display (as := []) PEs.nil (by decide) fun l hl => ⟨x, _, PE.name rfl, setSu (dx := dx) (vs := [some (.d (strD nm)), some (.d (.int 0))]) G (List.mem_cons_of_mem _ (List.mem_cons_self ..)) rfl (Has.ofLed (by simp)), ?_⟩))
    simp only [List.map_cons, List.map_nil, List.mem_cons, List.not_mem_nil, or_false, not_or] at hl
    rw [show upd [(l, AO.list []), (x, AO.slots 123 dx [some (.d (strD nm)), some (.d (.int 0))]), (dx, .dict [])] x (.slots 123 dx (putSlot 2 (AV.raw (.ref l)) [some (.d (strD nm)), some (.d (.int 0))])) = [(l, .list []), (x, .slots 123 dx [some (.d (strD nm)), some (.d (.int 0)), some (.raw (.ref l))]), (dx, .dict [])] by
      simp [upd, hne, putSlot, hl.1]]
    exact TS.nil ⟨.inl rfl, k x dx l⟩
end
end Mine
end
section
open PySem PySem.Spec PySem.Calls PyProof.Rows PySem.W PySem.SeqAt PySem.Builtin PySem.Builtin.Str
set_option maxRecDepth 100000
set_option linter.unusedVariables false
set_option autoImplicit false
namespace Mine
section
variable {prog : Program} {w : World} {h00 : Heap} {R : Shared} {A : Around} {fm : Fm} {loc : Loc} {led : Led} {x dx : Addr} {vs : List (Option AV)} {av : AV} {es : List (Str × AV)}
theorem setS (G : Top0 w.params h00) {name : Str} (hx : Has w.params h00 R fm loc led x (.inst 220 dx)) (hd : (dx, .dict es) ∈ led) (hz : es.length < 900) (ht : takerIn (KK w.params) 220 name = some none := by kernel_rfl) : AttrSet prog w h00 R A fm loc led x name av (upd led dx (.dict (putE name av es))) :=
  AttrSet.dictH G.X hx hd hz (by kernel_rfl) (by kernel_rfl) ht (by kernel_rfl)
theorem getS (G : Top0 w.params h00) {name : Str} (hx : Has w.params h00 R fm loc led x (.inst 220 dx)) (hd : Has w.params h00 R fm loc led dx (.dict es)) (hl : es.lookup name = some av) (hv : Handed av) (hg : plainGet (KK w.params) 220 name = true := by kernel_rfl) (ha : findIn (KK w.params) (.ref 220) name = some none := by kernel_rfl) : AttrGet prog w h00 R A fm loc led x name av :=
  AttrGet.dictH (attr := none) G.X hx hd hl hv hg (by kernel_rfl) ha (by kernel_rfl)
theorem c_Sorter (G : Top0 w.params h00) (hA : Roomy 90 900 A) {Φ : AV → Led → Prop} (k : ∀ ad, (ad.N == sysModules) = false → Φ (.raw (.ref ad.S)) (led ++ bLed ad [])) :
    CallT prog w h00 R A fm loc led (.ref 220) [] Φ := by
  refine CallT.newX (args' := [.d .none]) (f := 156) (names := ["self", "graph"]) G.X G.T hA (by decide) (by kernel_rfl) (by kernel_rfl) (by kernel_rfl) rfl (by kernel_rfl) rfl rfl (fun x => Binds.dflt (fun vals hv S => ?_)) (by decide) rfl (by decide) (fun x dx L hid A' hne nx ndx hA' => ?_)
  · match vals, hv with
    | [a], _ => kernel_rfl
  · refine TS.cons (TX.setBy (TE.dict0 G fun N hN hs => ⟨x, _, PE.name rfl, setS (dx := dx) (es := []) G (Has.ofLed (by simp)) (by simp) (by decide), ?_⟩))
    simp only [List.map_cons, List.map_nil, List.mem_cons, List.not_mem_nil, or_false, not_or] at hN
    rw [show upd [(N, AO.dict []), (x, .inst 220 dx), (dx, .dict [])] dx (.dict (putE "_node2info" (.raw (.ref N)) [])) = [(N, .dict []), (x, .inst 220 dx), (dx, .dict [("_node2info", .raw (.ref N))])] by simp [upd, hN.2, hne.symm]; rfl]
    refine TS.cons (TX.setBy (TE.pe PE.cNone ⟨x, _, PE.name rfl, setS (dx := dx) (es := [("_node2info", .raw (.ref N))]) G (Has.ofLed (by simp)) (by simp) (show 1 < 900 by decide), ?_⟩))
    rw [show upd [(N, AO.dict []), (x, .inst 220 dx), (dx, .dict [("_node2info", .raw (.ref N))])] dx (.dict (putE "_ready_nodes" (.d .none) [("_node2info", .raw (.ref N))])) = [(N, .dict []), (x, .inst 220 dx), (dx, .dict [("_node2info", .raw (.ref N)), ("_ready_nodes", .d .none)])] by simp [upd, hN.2, hne.symm]; rfl]
    refine TS.cons (TX.setBy (TE.pe PE.cInt ⟨x, _, PE.name rfl, setS (dx := dx) (es := [("_node2info", .raw (.ref N)), ("_ready_nodes", .d .none)]) G (Has.ofLed (by simp)) (by simp) (show 2 < 900 by decide), ?_⟩))
    rw [show upd [(N, AO.dict []), (x, .inst 220 dx), (dx, .dict [("_node2info", .raw (.ref N)), ("_ready_nodes", .d .none)])] dx (.dict (putE "_npassedout" (.d (.int 0)) [("_node2info", .raw (.ref N)), ("_ready_nodes", .d .none)])) = [(N, .dict []), (x, .inst 220 dx), (dx, .dict [("_node2info", .raw (.ref N)), ("_ready_nodes", .d .none), ("_npassedout", .d (.int 0))])] by simp [upd, hN.2, hne.symm]; rfl]
    refine TS.cons (TX.setBy (TE.pe PE.cInt ⟨x, _, PE.name rfl, setS (dx := dx) (es := [("_node2info", .raw (.ref N)), ("_ready_nodes", .d .none), ("_npassedout", .d (.int 0))]) G (Has.ofLed (by simp)) (by simp) (show 3 < 900 by decide), ?_⟩))
    rw [show upd [(N, AO.dict []), (x, .inst 220 dx), (dx, .dict [("_node2info", .raw (.ref N)), ("_ready_nodes", .d .none), ("_npassedout", .d (.int 0))])] dx (.dict (putE "_nfinished" (.d (.int 0)) [("_node2info", .raw (.ref N)), ("_ready_nodes", .d .none), ("_npassedout", .d (.int 0))])) = bLed ⟨x, dx, N, fun _ => 0, fun _ => 0, fun _ => 0⟩ [] by simp [upd, hN.2, hne.symm]; rfl]
    refine TS.cons (TX.if (b := false) (PT.to (PT.cmp (PE.name rfl) PE.cNone (Op2.isNotNone none_none)) rfl) noFT fun _ => TS.nil (TS.nil ⟨.inl rfl, k ⟨x, dx, N, fun _ => 0, fun _ => 0, fun _ => 0⟩ hs⟩))
theorem upd_head {post : Led} {a : Addr} {x ao : AO} (nd : (((a, x) :: post).map (·.1)).Nodup) : upd ((a, x) :: post) a ao = (a, ao) :: post := upd_mid (pre := []) nd
theorem bLed_new {ad : Ad} {g : List Nd} {nm : List Nat} {x dx l : Addr} (hn : nm ∉ names g) (nd : ((bLed ad g ++ [(l, AO.list []), (x, .slots 123 dx [some (.d (strD nm)), some (.d (.int 0)), some (.raw (.ref l))]), (dx, .dict [])]).map (·.1)).Nodup) :
    ∃ ad', Same ad ad' g ∧ ad'.a nm = x ∧ upd (bLed ad g ++ [(l, AO.list []), (x, .slots 123 dx [some (.d (strD nm)), some (.d (.int 0)), some (.raw (.ref l))]), (dx, .dict [])]) ad.N (.dict (putE (S nm) (.raw (.ref x)) (n2iE ad g))) = bLed ad' (addNode g nm) := by
  have ne : ∀ m ∈ names g, m ≠ nm := fun m hm q => hn (q ▸ hm)
  refine ⟨{ ad with a := fun m => if m = nm then x else ad.a m, b := fun m => if m = nm then dx else ad.b m, l := fun m => if m = nm then l else ad.l m }, ⟨rfl, rfl, rfl, fun m hm => ⟨if_neg (ne m hm), if_neg (ne m hm), if_neg (ne m hm)⟩⟩, if_pos rfl, ?_⟩
  generalize hl : [(l, AO.list []), (x, .slots 123 dx [some (.d (strD nm)), some (.d (.int 0)), some (.raw (.ref l))]), (dx, .dict [])] = tl at nd
  unfold bLed at nd ⊢
  rw [List.cons_append] at nd ⊢
  rw [upd_head nd]
  unfold addNode
  rw [if_neg hn]
  have h1 : n2iE { ad with a := fun m => if m = nm then x else ad.a m, b := fun m => if m = nm then dx else ad.b m, l := fun m => if m = nm then l else ad.l m } (g ++ [⟨nm, 0, []⟩]) = n2iE ad g ++ [(S nm, .raw (.ref x))] := by
    unfold n2iE
    rw [List.map_append]
    have e1 : g.map (fun n => (S n.nm, AV.raw (.ref (if n.nm = nm then x else ad.a n.nm)))) = g.map fun n => (S n.nm, AV.raw (.ref (ad.a n.nm))) :=
      List.map_congr_left fun n hm => by rw [if_neg (ne _ (List.mem_map_of_mem (f := (·.nm)) hm))]
    show g.map (fun n => (S n.nm, AV.raw (.ref (if n.nm = nm then x else ad.a n.nm)))) ++ [(S nm, AV.raw (.ref (if nm = nm then x else ad.a nm)))] = _
    rw [e1, if_pos rfl]
  have h2 : (g ++ [(⟨nm, 0, []⟩ : Nd)]).flatMap (nodeLed { ad with a := fun m => if m = nm then x else ad.a m, b := fun m => if m = nm then dx else ad.b m, l := fun m => if m = nm then l else ad.l m }) = g.flatMap (nodeLed ad) ++ tl := by
    rw [List.flatMap_append, flat_same (ad := ad) fun m hm => ⟨if_neg (ne m hm), if_neg (ne m hm), if_neg (ne m hm)⟩]
    refine congrArg _ ?_
    rw [← hl, List.flatMap_cons, List.flatMap_nil, List.append_nil]
    unfold nodeLed slotsOf
    simp [wordsAV]
  rw [h1, h2, putE_app (by rw [n2iE_names, List.mem_map]; rintro ⟨m, hm, q⟩; exact hn (S_eq.mp q ▸ hm))]
  rfl
theorem c_info (G : Top0 w.params h00) (hA : Roomy 80 800 A) (ad : Ad) (g : List Nd) (nm : List Nat) (hg : (names g).Nodup) (hz : g.length < 100) (hs : (ad.N == sysModules) = false) {Φ : AV → Led → Prop}
    (k : ∀ ad', Same ad ad' g → Φ (.raw (.ref (ad'.a nm))) (bLed ad' (addNode g nm))) : CallT prog w h00 R A fm loc (bLed ad g) (.ref 163) [.raw (.ref ad.S), .d (strD nm)] Φ := by
  refine CallT.def_ (led2 := []) (led1 := bLed ad g) ["self", "node"] G.X G.T (Nat.lt_trans hA.d (by decide)) rfl (by kernel_rfl) rfl rfl (fun vals hv => ?_) (by decide) rfl (by decide) (fun L hid => ?_)
  · match vals, hv with
    | [a, b], _ => rfl
  · have hA' : ∀ env, Roomy 81 803 (A.deeper env) := fun _ => hA.deeper
    have nd := n2iE_nodup (ad := ad) hg
    have mS : (ad.S, AO.inst 220 ad.D) ∈ bLed ad g := by simp [bLed]
    have mD : (ad.D, AO.dict (sorE ad.N (.d .none) 0 0)) ∈ bLed ad g := by simp [bLed]
    have mN : (ad.N, AO.dict (n2iE ad g)) ∈ bLed ad g := by simp [bLed]
    refine TS.cons (TX.ifNamed rfl (.inl rfl) (TE.methB (PE.attrG (PE.name rfl) (getS G (Has.ofLed mS) (Has.ofLed mD) rfl Handed.ref)) (MethX.dict (Has.ofLed mN) PySem.F.slot_dict_get PySem.F.type_dict_get) rfl (PEs.cons (PE.name rfl) PEs.nil) (CallT.dictGet (Has.ofLed mN) nd hs ?_)))
    rw [n2iE_look]
    by_cases q : nm ∈ names g
    · rw [if_pos q]
      refine ⟨false, none_ref, noFT, fun _ => TS.nil (TS.cons (TX.ret (TE.pe (PE.name rfl) ⟨_, ?_, .inl rfl⟩)))⟩
      have := k ad Same.rfl
      unfold addNode at this
      rwa [if_pos q] at this
    · rw [if_neg q]
      refine ⟨true, none_none, fun _ => TS.cons (TX.setItemName (k := S nm) rfl (.inl rfl) (TE.callK G.X (by kernel_rfl) (PE.glob0 G rfl) (PEs.cons (PE.name rfl) PEs.nil) (CallT.nodup fun _ => c_NodeInfo G (hA' _).le nm fun x dx l => ⟨PE.attrG (PE.name rfl) (getS G (Has.ofLed (List.mem_append_left _ mS)) (Has.ofLed (List.mem_append_left _ mD)) rfl Handed.ref), PE.name rfl, n2iE ad g, List.mem_append_left _ mN, nd, by simp [n2iE]; omega, TS.nil (TS.nodup fun nd' => ?_)⟩))), noTF⟩
      rw [upd_addrs] at nd'
      obtain ⟨ad', s1, s2, s3⟩ := bLed_new q nd'
      rw [s3]
      refine TS.cons (TX.ret (TE.pe (PE.name rfl) ⟨_, ?_, .inl rfl⟩))
      rw [← s2]
      exact k ad' s1
end
end Mine
end
section
open PySem PySem.Spec PySem.Calls PyProof.Rows PySem.W PySem.SeqAt PySem.Builtin PySem.Builtin.Str
set_option maxRecDepth 100000
set_option linter.unusedVariables false
set_option autoImplicit false
namespace Mine
theorem chg_mid {f : Nd → Nd} {n : Nd} {g1 g2 : List Nd} (nd : (names (g1 ++ n :: g2)).Nodup) : chg n.nm f (g1 ++ n :: g2) = g1 ++ f n :: g2 := by
  unfold names at nd
  rw [List.map_append, List.map_cons] at nd
  obtain ⟨h1, h2, h3⟩ := List.nodup_append.mp nd
  have h4 := (List.nodup_cons.mp h2).1
  have id1 : ∀ g : List Nd, (∀ m ∈ g, m.nm ≠ n.nm) → g.map (fun m => if m.nm = n.nm then f m else m) = g := fun g h => by
    conv => rhs; rw [← List.map_id g]
    exact List.map_congr_left fun m hm => by rw [if_neg (h m hm)]; rfl
  unfold chg
  rw [List.map_append, List.map_cons, if_pos rfl, id1 g1 fun m hm q => h3 _ (List.mem_map_of_mem (f := (·.nm)) hm) n.nm List.mem_cons_self q, id1 g2 fun m hm q => h4 (q ▸ List.mem_map_of_mem (f := (·.nm)) hm)]
theorem chg_names {f : Nd → Nd} (hf : ∀ n, (f n).nm = n.nm) {nm : List Nat} (g : List Nd) : names (chg nm f g) = names g := by
  unfold names chg
  rw [List.map_map]
  refine List.map_congr_left fun n _ => ?_
  show (if n.nm = nm then f n else n).nm = n.nm
  split
  · exact hf n
  · rfl
theorem n2iE_mid {ad : Ad} {f : Nd → Nd} (hf : ∀ n, (f n).nm = n.nm) {n : Nd} {g1 g2 : List Nd} : n2iE ad (g1 ++ f n :: g2) = n2iE ad (g1 ++ n :: g2) := by
  unfold n2iE; rw [List.map_append, List.map_append, List.map_cons, List.map_cons, hf]
theorem upd_np {ad : Ad} {g : List Nd} {n : Nd} {v : Int} (hn : n ∈ g) (hg : (names g).Nodup) (nd : ((bLed ad g).map (·.1)).Nodup) : upd (bLed ad g) (ad.a n.nm) (.slots 123 (ad.b n.nm) (putSlot 1 (.d (.int v)) (slotsOf ad n))) = bLed ad (chg n.nm (fun m => { m with np := v }) g) := by
  obtain ⟨g1, g2, rfl⟩ := List.append_of_mem hn
  rw [chg_mid hg]
  have h1 : n2iE ad (g1 ++ { n with np := v } :: g2) = n2iE ad (g1 ++ n :: g2) := n2iE_mid (f := fun n => { n with np := v }) fun _ => rfl
  unfold bLed at nd ⊢
  rw [h1]
  rw [List.flatMap_append, List.flatMap_cons] at nd ⊢
  rw [List.flatMap_append, List.flatMap_cons]
  have e : ∀ t : Led, (ad.N, AO.dict (n2iE ad (g1 ++ n :: g2))) :: (ad.S, .inst 220 ad.D) :: (ad.D, .dict (sorE ad.N (.d .none) 0 0)) :: (g1.flatMap (nodeLed ad) ++ (nodeLed ad n ++ t)) =
    ((ad.N, AO.dict (n2iE ad (g1 ++ n :: g2))) :: (ad.S, .inst 220 ad.D) :: (ad.D, .dict (sorE ad.N (.d .none) 0 0)) :: (g1.flatMap (nodeLed ad) ++ [(ad.l n.nm, .list (wordsAV n.su))])) ++ (ad.a n.nm, .slots 123 (ad.b n.nm) (slotsOf ad n)) :: (ad.b n.nm, .dict []) :: t := fun t => by simp [nodeLed]
  rw [e] at nd ⊢
  rw [upd_mid nd]
  simp [nodeLed, slotsOf, putSlot]
theorem upd_su {ad : Ad} {g : List Nd} {n : Nd} {y : List Nat} (hn : n ∈ g) (hg : (names g).Nodup) (nd : ((bLed ad g).map (·.1)).Nodup) : upd (bLed ad g) (ad.l n.nm) (.list (wordsAV n.su ++ [.d (strD y)])) = bLed ad (chg n.nm (fun m => { m with su := m.su ++ [y] }) g) := by
  obtain ⟨g1, g2, rfl⟩ := List.append_of_mem hn
  rw [chg_mid hg]
  have h1 : n2iE ad (g1 ++ { n with su := n.su ++ [y] } :: g2) = n2iE ad (g1 ++ n :: g2) := n2iE_mid (f := fun n => { n with su := n.su ++ [y] }) fun _ => rfl
  unfold bLed at nd ⊢
  rw [h1]
  rw [List.flatMap_append, List.flatMap_cons] at nd ⊢
  rw [List.flatMap_append, List.flatMap_cons]
  have e : ∀ t : Led, (ad.N, AO.dict (n2iE ad (g1 ++ n :: g2))) :: (ad.S, .inst 220 ad.D) :: (ad.D, .dict (sorE ad.N (.d .none) 0 0)) :: (g1.flatMap (nodeLed ad) ++ (nodeLed ad n ++ t)) =
    ((ad.N, AO.dict (n2iE ad (g1 ++ n :: g2))) :: (ad.S, .inst 220 ad.D) :: (ad.D, .dict (sorE ad.N (.d .none) 0 0)) :: g1.flatMap (nodeLed ad)) ++ (ad.l n.nm, .list (wordsAV n.su)) :: (ad.a n.nm, .slots 123 (ad.b n.nm) (slotsOf ad n)) :: (ad.b n.nm, .dict []) :: t := fun t => by simp [nodeLed]
  rw [e] at nd ⊢
  rw [upd_mid nd]
  simp [nodeLed, slotsOf, wordsAV]
theorem node_mem {ad : Ad} {g : List Nd} {n : Nd} (hn : n ∈ g) : (ad.l n.nm, AO.list (wordsAV n.su)) ∈ bLed ad g ∧ (ad.a n.nm, AO.slots 123 (ad.b n.nm) (slotsOf ad n)) ∈ bLed ad g ∧ (ad.b n.nm, AO.dict []) ∈ bLed ad g := by
  have h : ∀ p ∈ nodeLed ad n, p ∈ bLed ad g := fun p hp => List.mem_cons_of_mem _ (List.mem_cons_of_mem _ (List.mem_cons_of_mem _ (List.mem_flatMap.mpr ⟨n, hn, hp⟩)))
  exact ⟨h _ (by simp [nodeLed]), h _ (by simp [nodeLed]), h _ (by simp [nodeLed])⟩
theorem name_mem {g : List Nd} {nm : List Nat} (h : nm ∈ names g) : ∃ n ∈ g, n.nm = nm := by
  obtain ⟨n, hn, rfl⟩ := List.mem_map.mp h; exact ⟨n, hn, rfl⟩
theorem addNode_mem (g : List Nd) (nm : List Nat) : nm ∈ names (addNode g nm) := by
  unfold addNode; split
  · next h => exact h
  · simp [names]
theorem addNode_nodup {g : List Nd} {nm : List Nat} (h : (names g).Nodup) : (names (addNode g nm)).Nodup := by
  unfold addNode; split
  · exact h
  · next q =>
    unfold names at h q ⊢
    rw [List.map_append]
    exact List.nodup_append.mpr ⟨h, by simp, fun a ha b hb e => q (by simp at hb; rw [← hb, ← e]; exact ha)⟩
theorem addNode_len (g : List Nd) (nm : List Nat) : (addNode g nm).length ≤ g.length + 1 := by
  unfold addNode; split <;> simp
theorem addNode_sub {g : List Nd} {nm m : List Nat} (h : m ∈ names g) : m ∈ names (addNode g nm) := by
  unfold addNode; split
  · exact h
  · unfold names at h ⊢; rw [List.map_append]; exact List.mem_append_left _ h
/-- nm is put behind p -/
noncomputable def link (nm : List Nat) (g : List Nd) (p : List Nat) : List Nd := chg p (fun m => { m with su := m.su ++ [nm] }) (addNode g p)
noncomputable def addG (g : List Nd) (nm : List Nat) (ps : List (List Nat)) : List Nd := ps.foldl (link nm) (chg nm (fun m => { m with np := m.np + ps.length }) (addNode g nm))
theorem link_names {nm p : List Nat} {g : List Nd} : names (link nm g p) = names (addNode g p) := chg_names (f := fun m => { m with su := m.su ++ [nm] }) (fun _ => rfl) _
theorem chg_len {f : Nd → Nd} {nm : List Nat} {g : List Nd} : (chg nm f g).length = g.length := List.length_map _
theorem chg_at {f f' : Nd → Nd} {g : List Nd} {n : Nd} (hn : n ∈ g) (hg : (names g).Nodup) (h : f n = f' n) : chg n.nm f g = chg n.nm f' g := by
  obtain ⟨g1, g2, rfl⟩ := List.append_of_mem hn
  rw [chg_mid hg, chg_mid hg, h]
section
variable {prog : Program} {w : World} {h00 : Heap} {R : Shared} {A : Around} {fm : Fm} {loc : Loc} {led : Led}
theorem CallP.lenTup {as : List AV} (hz : as.length < 1000) : CallP prog w h00 R A (.builtin "len") [.tup as] (.d (.int as.length)) := fun X s vals Q E B rv k => by
  cases rv with
  | cons r rs =>
    cases rs
    obtain ⟨l, vs, m, rfl, e, r⟩ := r
    have hlen : vs.length = as.length := r.len
    refine PySem.P.len_tuple (items := vs.toArray) (n := m) (hide_le _ _ e) (by rw [List.size_toArray, hlen]; omega) ?_
    rw [List.size_toArray, hlen]
    exact k _ s.heap _ Ext.rfl vr_int
theorem CallP.lenTupN {as : List AV} {n : Nat} (h : as.length = n) (hz : n < 1000) : CallP prog w h00 R A (.builtin "len") [.tup as] (.d (.int n)) := h ▸ CallP.lenTup (h ▸ hz)
theorem Same.trans {a b c : Ad} {g g' : List Nd} (h1 : Same a b g) (h2 : Same b c g') (hs : ∀ m ∈ names g, m ∈ names g') : Same a c g :=
  ⟨h2.1.trans h1.1, h2.2.1.trans h1.2.1, h2.2.2.1.trans h1.2.2.1, fun m hm => by
    obtain ⟨a1, a2, a3⟩ := h1.2.2.2 m hm
    obtain ⟨b1, b2, b3⟩ := h2.2.2.2 m (hs m hm)
    exact ⟨b1.trans a1, b2.trans a2, b3.trans a3⟩⟩
set_option maxHeartbeats 1000000 in
theorem c_add (G : Top0 w.params h00) (hA : Roomy 70 700 A) (ad : Ad) (g : List Nd) (nm : List Nat) (ps : List (List Nat)) (hp : ps.length ≤ 1) (hg : (names g).Nodup) (hz : g.length < 50) (hs : (ad.N == sysModules) = false) (hsu : ∀ n ∈ g, n.su.length < 50) {Φ : AV → Led → Prop}
    (k : ∀ ad', Same ad ad' g → Φ (.d .none) (bLed ad' (addG g nm ps))) : CallT prog w h00 R A fm loc (bLed ad g) (.ref 170) (.raw (.ref ad.S) :: .d (strD nm) :: wordsAV ps) Φ := by
  refine CallT.defX (led2 := []) (led1 := bLed ad g) (args' := [.raw (.ref ad.S), .d (strD nm), .tup (wordsAV ps)]) ["self", "node", "predecessors"] G.X G.T (Nat.lt_trans hA.d (by decide)) rfl (by kernel_rfl) rfl rfl (Binds.star 2 fun vals hv Sg => ?_) (by decide) rfl (by decide) (fun L hid => ?_)
  · match ps, hp, vals, hv with
    | [], _, [a, b], _ => exact ⟨_, rfl, fun D => rfl⟩
    | [p], _, [a, b, c], _ => exact ⟨_, rfl, fun D => rfl⟩
  · have hA' : ∀ env, Roomy 71 703 (A.deeper env) := fun _ => hA.deeper
    have mS : ∀ (ad : Ad) g, (ad.S, AO.inst 220 ad.D) ∈ bLed ad g := fun ad g => by simp [bLed]
    have mD : ∀ (ad : Ad) g, (ad.D, AO.dict (sorE ad.N (.d .none) 0 0)) ∈ bLed ad g := fun ad g => by simp [bLed]
    refine TS.cons (TX.if (b := false) (PT.to (PT.cmp (PE.attrG (PE.name rfl) (getS G (Has.ofLed (mS ad g)) (Has.ofLed (mD ad g)) rfl Handed.none)) PE.cNone (Op2.isNotNone none_none)) rfl) noFT fun _ => TS.nil ?_)
    refine TS.cons (TX.assign rfl (.inl rfl) (TE.methK G.X (by kernel_rfl) (PE.name rfl) (MethX.inst G.X (mS ad g) (mD ad g) rfl (by kernel_rfl) (by kernel_rfl) (by kernel_rfl)) rfl (PEs.cons (PE.name rfl) PEs.nil) (c_info G (hA' _).le ad g nm hg (by omega) hs fun ad1 s1 => ?_)))
    have hg1 := addNode_nodup (nm := nm) hg
    obtain ⟨n, hn, rfl⟩ := name_mem (addNode_mem g nm)
    obtain ⟨q1, q2, q3⟩ := node_mem (ad := ad1) hn
    refine TS.cons (TX.nodup fun nd => TX.aug (old := .d (.int n.np)) (v := .d (.int ps.length)) (new := .d (.int (n.np + ps.length))) (PE.name rfl) (getNp G (Has.ofLed q2) (Has.ofLed q3) rfl Handed.int) ?_ Op2.iadd (setNp G q2 rfl (Has.ofLed q3)) ?_)
    · exact PE.callB (id := "len") (PE.built0 G (by kernel_rfl) (by kernel_rfl) (by decide)) (PEs.cons (PE.name rfl) PEs.nil) (CallP.lenTupN (by simp [wordsAV]) (by omega))
    rw [upd_np hn hg1 nd, chg_at (f' := fun m => { m with np := m.np + ps.length }) hn hg1 rfl]
    have hg2 : (names (chg n.nm (fun m => { m with np := m.np + ps.length }) (addNode g n.nm))).Nodup := by rw [chg_names (f := fun m => { m with np := m.np + ps.length }) fun _ => rfl]; exact hg1
    have hz2 : (chg n.nm (fun m => { m with np := m.np + ps.length }) (addNode g n.nm)).length < 60 := by rw [chg_len]; have := addNode_len g n.nm; omega
    have su1 : ∀ (g : List Nd) nm, (∀ n ∈ g, n.su.length < 50) → ∀ n ∈ addNode g nm, n.su.length < 50 := fun g nm h n hn => by
      unfold addNode at hn; split at hn
      · exact h n hn
      · rcases List.mem_append.mp hn with q | q
        · exact h n q
        · rw [List.mem_singleton.mp q]; exact (by decide : (0 : Nat) < 50)
    have su2 : ∀ m ∈ chg n.nm (fun m => { m with np := m.np + ps.length }) (addNode g n.nm), m.su.length < 50 := fun m hm => by
      obtain ⟨m', hm', rfl⟩ := List.mem_map.mp hm
      have := su1 g n.nm hsu m' hm'
      split <;> exact this
    have sub2 : ∀ m ∈ names g, m ∈ names (chg n.nm (fun m => { m with np := m.np + ps.length }) (addNode g n.nm)) := fun m hm => by rw [chg_names (f := fun m => { m with np := m.np + ps.length }) fun _ => rfl]; exact addNode_sub hm
    have fin : addG g n.nm ps = ps.foldl (link n.nm) (chg n.nm (fun m => { m with np := m.np + ps.length }) (addNode g n.nm)) := rfl
    generalize chg n.nm (fun m => { m with np := m.np + ps.length }) (addNode g n.nm) = g2 at hg2 hz2 su2 sub2 fin ⊢
    have sz : (ad1.N == sysModules) = false := by rw [s1.2.2.1]; exact hs
    refine TS.cons (TX.for rfl (.inl rfl) (PE.name rfl) (IterP.tup (hA' _).h)
      (fun i l d => (∃ ad', Same ad1 ad' g2 ∧ d = bLed ad' ((ps.take i).foldl (link n.nm) g2)) ∧ l.lookup ("self" : Str) = some (.raw (.ref ad.S)) ∧ l.lookup ("node" : Str) = some (.d (strD n.nm))) ⟨⟨ad1, Same.rfl, rfl⟩, rfl, rfl⟩ (fun hid i y l d hx iv => ?_) (fun l d iv => ?_))
    · obtain ⟨⟨ad2, s2, rfl⟩, h1, h2⟩ := iv
      unfold wordsAV at hx
      rw [List.getElem?_map] at hx
      obtain ⟨p, hpp, rfl⟩ := Option.map_eq_some_iff.mp hx
      have hi : i = 0 := by have := item_nat hpp; omega
      subst hi
      have htk : (ps.take (0 + 1)).foldl (link n.nm) g2 = link n.nm g2 p := by rw [List.take_add_one, hpp]; rfl
      rw [show (ps.take 0).foldl (link n.nm) g2 = g2 from rfl]
      have eS : ad2.S = ad.S := s2.1.trans s1.1
      rw [← eS] at h1
      refine TS.cons (TX.assign rfl (.inl rfl) (TE.methK G.X (by kernel_rfl) (PE.name (by exact h1)) (MethX.inst G.X (mS ad2 g2) (mD ad2 g2) rfl (by kernel_rfl) (by kernel_rfl) (by kernel_rfl)) rfl (PEs.cons (PE.name rfl) PEs.nil) (c_info G (hA' _).le ad2 g2 p hg2 (by omega) (by rw [s2.2.2.1]; exact sz) fun ad3 s3 => ?_)))
      obtain ⟨m, hm, rfl⟩ := name_mem (addNode_mem g2 p)
      obtain ⟨q1, q2, q3⟩ := node_mem (ad := ad3) hm
      have hg3 := addNode_nodup (nm := m.nm) hg2
      refine TS.cons (TX.nodup fun nd => TX.expr (TE.methB (PE.attrG (PE.name rfl) (getSu G (Has.ofLed q2) (Has.ofLed q3) rfl Handed.ref)) (MethX.list q1 F.slot_list_append F.type_list_append) rfl (PEs.cons (PE.name (by exact h2)) PEs.nil) (CallT.append q1 (by have := su1 g2 m.nm su2 m hm; have := line_big; simp [wordsAV]; omega) ⟨rfl, TS.nil ⟨⟨ad3, Same.trans s2 s3 fun _ h => h, ?_⟩, by rw [← eS]; exact h1, h2⟩⟩)))
      rw [htk]
      exact upd_su hm hg3 nd
    · obtain ⟨⟨ad2, s2, rfl⟩, h1, h2⟩ := iv
      rw [show (wordsAV ps).length = ps.length by simp [wordsAV], List.take_length, ← fin]
      exact TS.nil ⟨_, k ad2 (Same.trans s1 s2 sub2), .inr ⟨rfl, rfl⟩⟩
end
end Mine
end
section
open PySem PySem.Spec PySem.Calls PyProof.Rows PySem.W PySem.SeqAt PySem.Builtin PySem.Builtin.Str
set_option maxRecDepth 100000
set_option linter.unusedVariables false
set_option autoImplicit false
namespace Mine
section
variable {prog : Program} {w : World} {h00 : Heap} {R : Shared} {A : Around} {fm : Fm} {loc : Loc} {led : Led}
/-- a method of the text's own, of a told value, called -/
theorem PE.methKP {K : Frag} {o : Expr} {name : Str} {apos pos : Pos} {args : List Expr} {f : Value} {ov : AV} {as : List AV} {c : AV} {pl : Sem Bool} (X : K.In h00) (hk : keepIn K f = true) (ho : PE prog w h00 R A fm loc led o ov)
    (hm : MethP prog w h00 R A ov name f) (ha : PEs prog w h00 R A fm loc led args as) (hc : CallP prog w h00 R A f (ov :: as) c)
    (hne : args ≠ [] := by decide)
    (hs : ∀ e r, args = e :: r → starEach (e :: r) fm.env = (false, eval e fm.env) :: starEach r fm.env := by intro _ _ q; cases q; rfl)
    (hp : ∀ e r, args = e :: r → (backTo pos (starEach r fm.env)).any (·.1) = false := by intro _ _ q; cases q; rfl)
    (he : eval (.Call (.Attribute o name apos) args [] pos) fm.env = (do
      let ov ← eval o fm.env
      standAt apos.atName
      let (f, first) ← holding [ov] (getMethod ov name pl)
      callWith pos f first (backTo pos (starEach args fm.env)) []) := by rfl) :
    PE prog w h00 R A fm loc led (.Call (.Attribute o name apos) args [] pos) c := fun s D Q E k => by
  refine MethodCall_ (pl := pl) (ho s D _ _ fun v h1 t1 k1 r1 => ?_) he
  refine hm _ _ v pl _ _ (D.quiet k1).bs r1 ?_
  cases args with
  | nil => exact absurd rfl hne
  | cons e r =>
    refine callWith_K (K := K) X hk (ha pos _ (D.quiet k1) _ _ fun vs h2 t2 k2 r2 => ?_) (hs e r rfl) (hp e r rfl)
    have D2 := (D.quiet (tk := t1) k1).quiet (tk := t2) k2
    exact ⟨D2.K X, hc _ _ (v :: vs) _ _ D2.bs (.cons (r1.mono (hide_ext k2)) r2) fun y h3 t3 k3 r3 => k y h3 t3 (k1.trans (k2.trans k3)) r3⟩
theorem MethP.record (G : Top0 w.params h00) (ag : List (List Nat)) : MethP prog w h00 R A (.x (recHP w.params ag)) "applies_to" (.ref 66) := fun X s v pl Q E B rv k => by
  obtain ⟨⟨x, dx⟩, rfl, r⟩ := rv
  obtain ⟨o, h1, e1⟩ := r _ (List.mem_cons_self ..)
  obtain ⟨o', h2, l, n, rfl, h3⟩ := r _ (List.mem_cons_of_mem _ (List.mem_cons_self ..))
  cases e1
  have KX := (G.X.keeps B.base).keeps (hide_le (X := X))
  have hg : plainGet (KK w.params) 76 "applies_to" = true := by kernel_rfl
  have hf : isFn (KK w.params) (.ref 66) = true := by kernel_rfl
  refine method_fn (C := 76) KX (inst_at (hide_le _ _ h1) (hide_le _ _ h2)) (plainGet_of hg).1 (plainGet_of hg).2 (by kernel_rfl) (beq_iff_eq.mp hf) ?_ k
  show (lookIn "applies_to" (dictOf l n)).map _ = _
  rw [lookIn_dict, h3.no rfl]; rfl
/-- what is told of a graph's size -/
structure GOk (g : List Nd) (k : Nat) : Prop where
  nd : (names g).Nodup
  len : g.length ≤ k
  su : ∀ n ∈ g, n.su.length ≤ k
theorem GOk.node {g : List Nd} {k : Nat} {nm : List Nat} (h : GOk g k) : GOk (addNode g nm) (k + 1) := by
  refine ⟨addNode_nodup h.nd, Nat.le_trans (addNode_len g nm) (Nat.succ_le_succ h.len), fun n hn => ?_⟩
  unfold addNode at hn; split at hn
  · exact Nat.le_succ_of_le (h.su n hn)
  · rcases List.mem_append.mp hn with q | q
    · exact Nat.le_succ_of_le (h.su n q)
    · rw [List.mem_singleton.mp q]; exact Nat.zero_le _
theorem GOk.np {g : List Nd} {k : Nat} {nm : List Nat} {c : Int} (h : GOk g k) : GOk (chg nm (fun m => { m with np := m.np + c }) g) k := by
  refine ⟨by rw [chg_names (f := fun m => { m with np := m.np + c }) fun _ => rfl]; exact h.nd, by rw [chg_len]; exact h.len, fun n hn => ?_⟩
  obtain ⟨m, hm, rfl⟩ := List.mem_map.mp hn
  have := h.su m hm
  split <;> exact this
theorem GOk.link {g : List Nd} {k : Nat} {nm p : List Nat} (h : GOk g k) : GOk (link nm g p) (k + 2) := by
  have h1 := h.node (nm := p)
  refine ⟨by rw [link_names]; exact h1.nd, by unfold Mine.link; rw [chg_len]; exact Nat.le_succ_of_le h1.len, fun n hn => ?_⟩
  obtain ⟨m, hm, rfl⟩ := List.mem_map.mp hn
  have := h1.su m hm
  split
  · show (m.su ++ [nm]).length ≤ _
    rw [List.length_append, List.length_singleton]; omega
  · omega
theorem GOk.le {g : List Nd} {k m : Nat} (h : GOk g k) (hk : k ≤ m) : GOk g m := ⟨h.nd, Nat.le_trans h.len hk, fun n hn => Nat.le_trans (h.su n hn) hk⟩
theorem GOk.add {g : List Nd} {k : Nat} {nm : List Nat} {ps : List (List Nat)} (h : GOk g k) (hp : ps.length ≤ 1) : GOk (addG g nm ps) (k + 3) := by
  have h1 := h.node (nm := nm) |>.np (nm := nm) (c := ps.length)
  unfold addG
  match ps, hp with
  | [], _ => exact h1.le (by omega)
  | [p], _ => exact h1.link
/-- the graph that the law's own sorter holds -/
noncomputable def step2 (app : List Nat → Bool) (g : List Nd) (u : List Nat) : List Nd := if app u then g else addG g u []
noncomputable def step3 (app : List Nat → Bool) (g : List Nd) (u : List Nat) : List Nd := if app u then g else addG g (u.drop 1) [u.take 2]
noncomputable def graphOf (app : List Nat → Bool) : List Nd := words3.foldl (step3 app) (words2.foldl (step2 app) [])
theorem foldOk {st : List Nd → List Nat → List Nd} (h : ∀ g k u, GOk g k → GOk (st g u) (k + 3)) : ∀ (us : List (List Nat)) {g : List Nd} {k : Nat}, GOk g k → GOk (us.foldl st g) (k + 3 * us.length)
  | [], _, _, o => o
  | u :: us, g, k, o => by
    have := foldOk h us (h g k u o)
    exact this.le (by rw [List.length_cons]; omega)
theorem step2Ok (app : List Nat → Bool) (g : List Nd) (k : Nat) (u : List Nat) (h : GOk g k) : GOk (step2 app g u) (k + 3) := by
  unfold step2; split
  · exact h.le (Nat.le_add_right _ _)
  · exact h.add (by decide)
theorem step3Ok (app : List Nat → Bool) (g : List Nd) (k : Nat) (u : List Nat) (h : GOk g k) : GOk (step3 app g u) (k + 3) := by
  unfold step3; split
  · exact h.le (Nat.le_add_right _ _)
  · exact h.add (by simp)
noncomputable def nodeA (ad : Ad) (n : Nd) : Addr × AO := (ad.a n.nm, .slots 123 (ad.b n.nm) (slotsOf ad n))
noncomputable def nodeF (ad : Ad) (n : Nd) : Led := [(ad.l n.nm, .list (wordsAV n.su)), (ad.b n.nm, .dict [])]
/-- what stays, and what changes -/
noncomputable def frz (ad : Ad) (g : List Nd) : Led := (ad.N, .dict (n2iE ad g)) :: (ad.S, .inst 220 ad.D) :: g.flatMap (nodeF ad)
noncomputable def live (ad : Ad) (rdy : AV) (po nf : Int) (g : List Nd) : Led := (ad.D, .dict (sorE ad.N rdy po nf)) :: g.map (nodeA ad)
theorem flat_perm (ad : Ad) : ∀ g : List Nd, List.Perm (g.flatMap (nodeLed ad)) (g.flatMap (nodeF ad) ++ g.map (nodeA ad))
  | [] => .refl _
  | n :: g => by
    rw [List.flatMap_cons, List.flatMap_cons, List.map_cons]
    show List.Perm ((ad.l n.nm, _) :: nodeA ad n :: (ad.b n.nm, _) :: g.flatMap (nodeLed ad)) ((ad.l n.nm, _) :: (ad.b n.nm, _) :: (g.flatMap (nodeF ad) ++ nodeA ad n :: g.map (nodeA ad)))
    refine .cons _ ((List.Perm.swap ..).trans (.cons _ (((flat_perm ad g).cons _).trans List.perm_middle.symm)))
theorem bLed_perm (ad : Ad) (g : List Nd) : List.Perm (bLed ad g) (frz ad g ++ live ad (.d .none) 0 0 g) := by
  unfold bLed frz live
  refine .cons _ (.cons _ ?_)
  exact ((flat_perm ad g).cons _).trans List.perm_middle.symm
theorem live_sub (ad : Ad) (g : List Nd) : (live ad (.d .none) 0 0 g).Sublist (bLed ad g) := by
  unfold live bLed
  refine .cons _ (.cons _ (.cons_cons _ ?_))
  induction g with
  | nil => exact .slnil
  | cons n g ih =>
    rw [List.flatMap_cons, List.map_cons]
    exact .cons _ (.cons_cons _ (.cons _ ih))
end
end Mine
end
section
open PySem PySem.Spec PySem.Calls PyProof.Rows PySem.W PySem.SeqAt PySem.Builtin PySem.Builtin.Str
set_option maxRecDepth 100000
set_option linter.unusedVariables false
set_option autoImplicit false
namespace Mine
theorem cuts3 : ∀ u ∈ words3, strCut (S u) none (some 2) none = S (u.take 2) ∧ u.length = 3 := by decide +kernel
theorem q2 {u : List Nat} (h : u ∈ words2) : (u, u, [u]) ∈ queries := List.mem_append_left _ (List.mem_map_of_mem (f := fun w => (w, w, [w])) h)
theorem q3 {u : List Nat} (h : u ∈ words3) : (u ++ behind, u, [u, [97, 98, 98, 97]]) ∈ queries := List.mem_append_right _ (List.mem_map_of_mem (f := fun w => (w ++ behind, w, [w, [97, 98, 98, 97]])) h)
theorem take_snoc {α β : Type} (f : β → α → β) (b : β) {l : List α} {i : Nat} {a : α} (h : l[i]? = some a) : (l.take (i + 1)).foldl f b = f ((l.take i).foldl f b) a := by
  rw [List.take_add_one, h, List.foldl_append]; rfl
section
variable {prog : Program} {w : World} {h00 : Heap} {R : Shared} {A : Around} {fm : Fm} {loc : Loc} {led : Led}
theorem PE.cutTo {value e : Expr} {p q : Pos} {l : List Nat} {n : Int} {m : List Nat} (hv : PE prog w h00 R A fm loc led value (.d (.str (S l)))) (he : PE prog w h00 R A fm loc led e (.d (.int n))) (h : strCut (S l) none (some n) none = S m) (hz : m.length < 1000) :
    PE prog w h00 R A fm loc led (.Subscript value (.Slice none (some e) none p) q) (.d (.str (S m))) := by
  have := ItemP.strCut (prog := prog) (w := w) (A := A) (x := S l) (l := none) (u := some n) (st := none) (by decide) (by rw [h]; show m.toArray.size ≤ sizeLine; rw [List.size_toArray]; have := line_big; omega)
  rw [h] at this
  exact PE.item hv (PE.slice (l := none) (u := some e) (st := none) (a := none) (b := some n) (c := none) trivial he trivial) this
theorem St.seenAll {P : Params} {s : Shared} {L1 led' : Led} (D : St P h00 R fm loc led s) (sub : led'.Sublist led) (pm : List.Perm led (L1 ++ led')) : ∀ p ∈ L1, ∃ o, (vis fm led' s.heap).get? p.1 = some o ∧ OR P (vis fm led' s.heap) p.2 o := fun p hp => by
  have nd := (pm.map (·.1)).nodup_iff.mp D.ledNd
  rw [List.map_append] at nd
  refine D.seen sub (pm.mem_iff.mpr (List.mem_append_left _ hp)) fun h => ?_
  exact (List.nodup_append.mp nd).2.2 _ (List.mem_map_of_mem (f := (·.1)) hp) _ h rfl
set_option maxHeartbeats 2000000 in
theorem c_lsorter (G : Top0 w.params h00) (hA : Roomy 60 600 A) (ag : List (List Nat)) (hag : ∀ n ∈ ag, n = [42] ∨ ∃ w ∈ allWords, n = up w) {Φ : AV → Led → Prop}
    (k : ∀ ad, (ad.N == sysModules) = false → Φ (.x (ledHP w.params (.ref ad.S) (frz ad (graphOf fun u => ag.any (hit u))))) (live ad (.d .none) 0 0 (graphOf fun u => ag.any (hit u)))) :
    CallT prog w h00 R A fm loc [] (.ref 241) [.x (recHP w.params ag)] Φ := by
  refine CallT.defX (led2 := []) (led1 := []) (args' := [.x (recHP w.params ag)]) ["record"] G.X G.T (Nat.lt_trans hA.d (by decide)) rfl (by kernel_rfl) rfl rfl (Binds.plain fun vals hv => ?_) (by decide) rfl (by decide) (fun L hid => ?_)
  · match vals, hv with
    | [a], _ => rfl
  · have hA' : ∀ env, Roomy 61 603 (A.deeper env) := fun _ => hA.deeper
    have mS : ∀ (ad : Ad) g, (ad.S, AO.inst 220 ad.D) ∈ bLed ad g := fun ad g => by simp [bLed]
    have mD : ∀ (ad : Ad) g, (ad.D, AO.dict (sorE ad.N (.d .none) 0 0)) ∈ bLed ad g := fun ad g => by simp [bLed]
    refine TS.cons (TX.assign rfl (.inl rfl) (TE.callK0 G.X (by kernel_rfl) (PE.glob0 G rfl) (c_Sorter G (hA' _).le fun ad hs => ?_)))
    rw [List.nil_append]
    generalize happ : (fun u => ag.any (hit u)) = app at k ⊢
    have ha : ∀ u, ag.any (hit u) = app u := fun u => by rw [← happ]
    have g0 : GOk [] 0 := ⟨List.nodup_nil, Nat.le_refl _, fun n hn => nomatch hn⟩
    refine TS.cons (TX.for rfl (.inl rfl) (PE.displayD (ds := words2.map strD) (PEs.cons PE.cStr (PEs.cons PE.cStr (PEs.cons PE.cStr (PEs.cons PE.cStr PEs.nil)))) (by decide)) (IterP.words (hA' _).h)
      (fun i l d => (∃ ad, (ad.N == sysModules) = false ∧ d = bLed ad ((words2.take i).foldl (step2 app) []) ∧ l.lookup ("sorter" : Str) = some (.raw (.ref ad.S))) ∧ l.lookup ("record" : Str) = some (.x (recHP w.params ag))) ⟨⟨ad, hs, rfl, rfl⟩, rfl⟩ (fun hid i y l d hx iv => ?_) (fun l d iv => ?_))
    · obtain ⟨⟨ad, hs, rfl, h1⟩, h2⟩ := iv
      rw [List.getElem?_map] at hx
      obtain ⟨u, hu, rfl⟩ := Option.map_eq_some_iff.mp hx
      have hi : i < 4 := item_nat hu
      have hm := List.mem_of_getElem? hu
      rw [take_snoc _ _ hu]
      have ok := foldOk (step2Ok app) (words2.take i) g0
      have hle : (words2.take i).length ≤ 4 := by rw [List.length_take]; exact Nat.le_trans (Nat.min_le_left ..) (Nat.le_of_lt hi)
      replace ok := ok.le (show 0 + 3 * (words2.take i).length ≤ 12 by omega)
      generalize (words2.take i).foldl (step2 app) [] = g at ok ⊢
      refine TS.cons (TX.if (PT.not (PT.val (PE.methKP G.X (by kernel_rfl) (PE.name (by exact h2)) (MethP.record G ag) (PEs.cons (PE.name rfl) PEs.nil) (c_applies G (hA' _).le ag hag (q2 hm))))) (fun h => ?_) (fun h => ?_))
      · rw [ha u] at h
        refine TS.cons (TX.expr (TE.methK G.X (by kernel_rfl) (PE.name (by exact h1)) (MethX.inst G.X (mS ad g) (mD ad g) rfl (by kernel_rfl) (by kernel_rfl) (by kernel_rfl)) rfl (PEs.cons (PE.name rfl) PEs.nil) (c_add G (hA' _).le ad g u [] (by decide) ok.nd (by have := ok.len; omega) hs (fun n hn => by have := ok.su n hn; omega) fun ad' s' => ⟨rfl, TS.nil (TS.nil ⟨⟨ad', by rw [s'.2.2.1]; exact hs, ?_, by rw [s'.1]; exact h1⟩, h2⟩)⟩)))
        unfold step2
        rw [if_neg (by simpa using h)]
      · rw [ha u] at h
        refine TS.nil (TS.nil ⟨⟨ad, hs, ?_, h1⟩, h2⟩)
        unfold step2
        rw [if_pos (by simpa using h)]
    · obtain ⟨⟨ad, hs, rfl, h1⟩, h2⟩ := iv
      rw [List.length_map, List.take_length]
      have ok2 := foldOk (step2Ok app) words2 g0
      have fin : words3.foldl (step3 app) (words2.foldl (step2 app) []) = graphOf app := rfl
      generalize words2.foldl (step2 app) [] = gg at ok2 fin ⊢
      refine TS.cons (TX.for rfl (.inl rfl) (PE.displayD (ds := words3.map strD) (PEs.cons PE.cStr (PEs.cons PE.cStr (PEs.cons PE.cStr (PEs.cons PE.cStr (PEs.cons PE.cStr (PEs.cons PE.cStr (PEs.cons PE.cStr (PEs.cons PE.cStr PEs.nil)))))))) (by decide)) (IterP.words (hA' _).h)
        (fun i l d => (∃ ad, (ad.N == sysModules) = false ∧ d = bLed ad ((words3.take i).foldl (step3 app) gg) ∧ l.lookup ("sorter" : Str) = some (.raw (.ref ad.S))) ∧ l.lookup ("record" : Str) = some (.x (recHP w.params ag))) ⟨⟨ad, hs, rfl, h1⟩, h2⟩ (fun hid i y l d hx iv => ?_) (fun l d iv => ?_))
      · obtain ⟨⟨ad, hs, rfl, h1⟩, h2⟩ := iv
        rw [List.getElem?_map] at hx
        obtain ⟨u, hu, rfl⟩ := Option.map_eq_some_iff.mp hx
        have hi : i < 8 := item_nat hu
        have hm := List.mem_of_getElem? hu
        rw [take_snoc _ _ hu]
        have ok := foldOk (step3Ok app) (words3.take i) ok2
        have hle : (words3.take i).length ≤ 8 := by rw [List.length_take]; exact Nat.le_trans (Nat.min_le_left ..) (Nat.le_of_lt hi)
        replace ok := ok.le (show 0 + 3 * words2.length + 3 * (words3.take i).length ≤ 36 by have : words2.length = 4 := rfl; omega)
        generalize (words3.take i).foldl (step3 app) gg = g at ok ⊢
        obtain ⟨cut, len3⟩ := cuts3 u hm
        refine TS.cons (TX.if (PT.not (PT.val (PE.methKP G.X (by kernel_rfl) (PE.name (by exact h2)) (MethP.record G ag) (PEs.cons (PE.bin (PE.name rfl) PE.cStr (Op2.addL (a := u) (b := behind) (by rw [List.length_append, len3]; decide))) PEs.nil) (c_applies G (hA' _).le ag hag (q3 hm))))) (fun h => ?_) (fun h => ?_))
        · rw [ha u] at h
          refine TS.cons (TX.expr (TE.methK G.X (by kernel_rfl) (PE.name (by exact h1)) (MethX.inst G.X (mS ad g) (mD ad g) rfl (by kernel_rfl) (by kernel_rfl) (by kernel_rfl)) rfl (PEs.cons (PE.cutFrom (a := 1) (PE.name rfl) PE.cInt rfl (by omega) (by omega)) (PEs.cons (PE.cutTo (PE.name rfl) PE.cInt cut (by rw [List.length_take]; omega)) PEs.nil)) (c_add G (hA' _).le ad g (u.drop 1) [u.take 2] (Nat.le_refl 1) ok.nd (by have := ok.len; omega) hs (fun n hn => by have := ok.su n hn; omega) fun ad' s' => ⟨rfl, TS.nil (TS.nil ⟨⟨ad', by rw [s'.2.2.1]; exact hs, ?_, by rw [s'.1]; exact h1⟩, h2⟩)⟩)))
          unfold step3
          rw [if_neg (by simpa using h)]
        · rw [ha u] at h
          refine TS.nil (TS.nil ⟨⟨ad, hs, ?_, h1⟩, h2⟩)
          unfold step3
          rw [if_pos (by simpa using h)]
      · obtain ⟨⟨ad, hs, rfl, h1⟩, h2⟩ := iv
        rw [List.length_map, List.take_length, fin]
        refine TS.freeze (live ad (.d .none) 0 0 (graphOf app)) [("sorter", .x (ledHP w.params (.ref ad.S) (frz ad (graphOf app))))] (live_sub ad _) (fun s D y a' e => ?_) (TS.cons (TX.ret (TE.pe (PE.name rfl) ⟨_, k ad hs, .inl rfl⟩)))
        rw [List.lookup_cons] at e
        by_cases q : y = ("sorter" : Str)
        · subst q
          simp at e; subst e
          refine ⟨_, h1, fun v hv => ?_⟩
          cases hv
          exact ⟨rfl, D.seenAll (live_sub ad _) (bLed_perm ad _)⟩
        · rw [show (y == ("sorter" : Str)) = false by simpa using q] at e; cases e
end
end Mine
end
section
open PySem PySem.Spec PySem.Calls PyProof.Rows PySem.W PySem.SeqAt PySem.Builtin PySem.Builtin.Str
set_option maxRecDepth 100000
set_option linter.unusedVariables false
set_option autoImplicit false
namespace Mine
/-- the frames on the stack, as the state tells them -/
structure FrOk (A : Around) (fm : Fm) : Prop where
  ex : ∃ outer, A.frames = some (fm.env :: outer) ∧ ∀ env ∈ outer, env.scope.kind ≠ .module ∧ ∃ L, env.frame = some L ∧ L ∈ fm.outs
  own : fm.env.frame = some fm.env.locals
  kind : fm.env.scope.kind ≠ .module
theorem FrOk.deeper {A : Around} {fm : Fm} (h : FrOk A fm) {fd : FuncData} {L f : Addr} {hid : List Addr} (hk : fd.scope.kind ≠ .module) : FrOk (A.deeper (callEnvC fd L f)) (fmX fd L f hid (fm.env.locals :: fm.outs)) := by
  obtain ⟨⟨outer, h1, h2⟩, h3, h4⟩ := h
  refine ⟨⟨fm.env :: outer, Around.frames_deeper h1, fun env he => ?_⟩, rfl, hk⟩
  rcases List.mem_cons.mp he with rfl | he
  · exact ⟨h4, _, h3, List.mem_cons_self⟩
  · obtain ⟨k, L', e, m⟩ := h2 env he
    exact ⟨k, L', e, List.mem_cons_of_mem _ m⟩
theorem FrOk.hid {A : Around} {fm : Fm} (h : FrOk A fm) {hid : List Addr} : FrOk A { fm with hid := hid } := ⟨h.ex, h.own, h.kind⟩
section
variable {prog : Program} {w : World} {h00 : Heap} {R : Shared} {A : Around} {fm : Fm} {loc : Loc} {led : Led}
/-- frames may have got their slots: nothing else -/
theorem St.ready {P : Params} {s : Shared} (D : St P h00 R fm loc led s) {h' : Heap} {tk : Nat} (k : ∀ b o, s.heap.get? b = some o → b ≠ fm.env.locals → b ∉ fm.outs → h'.get? b = some o)
    (t : ∀ b o, s.heap.get? b = some o → b = fm.env.locals ∨ b ∈ fm.outs → ∃ sl, h'.get? b = some { o with slots := sl }) :
    St P h00 R fm loc led { s with heap := h', toks := tk } ∧ Step fm led led s { s with heap := h', toks := tk } := by
  have u : ∀ b o, s.heap.get? b = some o → ∃ sl, h'.get? b = some { o with slots := sl } := fun b o e => by
    by_cases q : b = fm.env.locals ∨ b ∈ fm.outs
    · exact t b o e q
    · exact ⟨o.slots, k b o e (fun z => q (.inl z)) fun z => q (.inr z)⟩
  have vv : Ext (vis fm led s.heap) (vis fm led h') := fun b o e => by
    have nb := hide_none e
    have nb' := nb
    rw [away_mem] at nb'
    simp only [not_or] at nb'
    exact hideAll_get _ (k b o (hide_le _ _ e) nb'.1 fun h => nb'.2.2.2 (D.fr b h).1) nb
  refine ⟨⟨D.base.trans vv, ?_, fun y av e l => ?_, fun p hp => ?_, D.nd, fun c hc => ?_, fun a ha => ?_, D.gens, D.drawn, D.os, D.dis, fun a ha => ?_⟩, ⟨fun b o e h1 _ _ h2 => k b o e h1 h2, fun a h => .inl h, D.off, fun a ha => ⟨(D.fr a ha).1, fun o e => t a o e (.inr ha)⟩⟩⟩
  · obtain ⟨m, ⟨o, es, ep, ho, r⟩, h2⟩ := D.ns
    obtain ⟨sl, hs⟩ := u _ o ho
    exact ⟨m, ⟨_, es, ep, hs, r⟩, fun y av e l => by obtain ⟨v, hv, hr⟩ := h2 y av e l; exact ⟨v, hv, hr.mono vv⟩⟩
  · obtain ⟨c, v, hc, ⟨o, ho, hd⟩, hr⟩ := D.cel y av e l
    obtain ⟨sl, hs⟩ := u _ o ho
    exact ⟨c, v, hc, ⟨_, hs, hd⟩, hr.mono vv⟩
  · obtain ⟨o, ho, hr⟩ := D.ld p hp
    have hm := List.mem_map_of_mem (f := (·.1)) hp
    exact ⟨o, k _ _ ho (D.off _ hm).1 (fun q => D.dis _ hm (D.fr _ q).1), hr.mono vv⟩
  · obtain ⟨v, o, h, hd⟩ := D.own c hc
    obtain ⟨sl, hs⟩ := u _ o h
    exact ⟨v, _, hs, hd⟩
  · obtain ⟨o, h⟩ := D.low a ha
    obtain ⟨sl, hs⟩ := u _ o h
    exact ⟨_, hs⟩
  · obtain ⟨h1, h2, h3, o, ho, hd⟩ := D.fr a ha
    obtain ⟨sl, hs⟩ := u _ o ho
    exact ⟨h1, h2, h3, _, hs, hd⟩
/-- the base that stays while an exception is noted -/
noncomputable abbrev baseOf (fm : Fm) (h : Heap) : Heap := hideAll h (fm.env.locals :: fm.outs)
theorem St.frames {P : Params} {s : Shared} (D : St P h00 R fm loc led s) (F : FrOk A fm) : ∃ outer, A.frames = some (fm.env :: outer) ∧ s.heap.FunFrames (baseOf fm s.heap) (fm.env :: outer) ∧ ∀ b ∈ (fm.env :: outer).filterMap (·.frame), b = fm.env.locals ∨ b ∈ fm.outs := by
  obtain ⟨⟨outer, h1, h2⟩, h3, h4⟩ := F
  refine ⟨outer, h1, ⟨h4, ?_, ?_⟩, fun b hb => ?_⟩
  · obtain ⟨m, ⟨o, es, ep, ho, hd, _⟩, _⟩ := D.ns
    exact ⟨_, o, h3, hideAll_none _ List.mem_cons_self, ho, fun vs q => by rw [hd] at q; cases q⟩
  · clear h1
    induction outer with
    | nil => trivial
    | cons env outer ih =>
      obtain ⟨k, L, e, m⟩ := h2 env List.mem_cons_self
      obtain ⟨_, _, _, o, ho, hd⟩ := D.fr L m
      exact ⟨k, ⟨L, o, e, hideAll_none _ (List.mem_cons_of_mem _ m), ho, hd⟩, ih fun env' he => h2 env' (List.mem_cons_of_mem _ he)⟩
  · obtain ⟨env, he, hf⟩ := List.mem_filterMap.mp hb
    rcases List.mem_cons.mp he with rfl | he
    · rw [h3] at hf; exact .inl (Option.some.inj hf).symm
    · obtain ⟨k, L, e, m⟩ := h2 env he
      rw [e] at hf; exact .inr (Option.some.inj hf ▸ m)
/-- a fresh exception, caught by the frame's own clause -/
theorem caughtX {s s1 : Shared} {X T : String} {e : Addr} {t : Expr} {b0 : Stmt} {suite : List Stmt} {hp : Pos} {rest : List ExceptHandler} {Q : Flow → Shared → Prop} {E : Value → Shared → Prop}
    (D : St w.params h00 R fm loc led s) (F : FrOk A fm) (he : ∃ oe vs, s1.heap.get? e = some oe ∧ oe.cls = .type X ∧ oe.data = .fields vs ∧ vs[1]? = some .none ∧ ∃ a0, vs[0]? = some a0) (ke : Ext s.heap s1.heap) (ne : s.heap.get? e = none)
    (hs1 : s1 = { s with heap := s1.heap, toks := s1.toks })
    (hexc : isSubtype (.type T) (.type "BaseException") = pure true) (hnt : isSubtype (.type ((Manifest.find? T).elim "type" fun x => x.metatype)) (.type "tuple") = pure false) (hsub : isSubtype (.type X) (.type T) = pure true)
    (ht : PE prog w h00 R (A.mark (some (.ref e))) fm loc led t (.raw (.type T)))
    (k : ∀ s', St w.params h00 R fm loc led s' → Step fm led led s s' → wpAny (model prog w) (A.mark (some (.ref e))) (execs (b0 :: suite) fm.env) Q (notedBy (model prog w) (A.mark (some (.ref e))) fm.env (cameBackBy (model prog w) A fm.env E)) s') :
    wpAny (model prog w) A (noteFrame (.ref e) fm.env) (fun _ s₂ => wpAny (model prog w) A (setFlight (.ref e) none) (fun _ s₃ => wpAny (model prog w) A (handleBy (.ref e) fm.env (.ExceptHandler (some t) none (b0 :: suite) hp :: rest)) Q E s₃) E s₂) E s1 := by
  obtain ⟨oe, vs, heg, hcls, hd, h1, a0, h0⟩ := he
  have Dq : St w.params h00 R fm loc led s1 := by rw [hs1]; exact D.quiet ke
  obtain ⟨outer, hfr, hFun, hin⟩ := Dq.frames (A := A) F
  have hin' : ∀ b, b = fm.env.locals ∨ b ∈ fm.outs → b ∈ fm.env.locals :: fm.outs := fun b h => List.mem_cons.mpr h
  -- the base: what stood before, without the frames
  have sb : (baseOf fm s.heap).StaysIn s1.heap := fun b o q => ke _ _ (of_hideAll _ q)
  have frN : ∀ b, b = fm.env.locals ∨ b ∈ fm.outs → (baseOf fm s.heap).get? b = none := fun b h => hideAll_none _ (hin' b h)
  have hFun0 : s1.heap.FunFrames (baseOf fm s.heap) (fm.env :: outer) := by
    have : ∀ l : List Env, s1.heap.FunFrames (baseOf fm s1.heap) l → s1.heap.FunFrames (baseOf fm s.heap) l := fun l => by
      induction l with
      | nil => intro h; exact h
      | cons env l ih =>
        rintro ⟨k1, ⟨L, o, e1, n1, g1, d1⟩, r⟩
        refine ⟨k1, ⟨L, o, e1, ?_, g1, d1⟩, ih r⟩
        cases q : (baseOf fm s.heap).get? L with
        | none => rfl
        | some o' =>
          have z := hideAll_get _ (ke _ _ (of_hideAll _ q)) (hide_none q)
          rw [n1] at z; cases z
    exact this _ hFun
  have hen : (baseOf fm s.heap).get? e = none := by
    cases q : (baseOf fm s.heap).get? e with
    | none => rfl
    | some o' => have := of_hideAll _ q; rw [ne] at this; cases this
  have hsz : 1 < vs.size := (Array.getElem?_eq_some_iff.mp h1).1
  have note : ∀ (Q' : Unit → Shared → Prop), (∀ h', Heap.NotedW (baseOf fm s.heap) (fm.env :: outer) e oe.cls a0 (rawInt fm.env.locals) s1.heap h' → Q' () { s1 with heap := h' }) → wpAny (model prog w) A (noteFrame (.ref e) fm.env) Q' E s1 := fun Q' hq => by
    unfold noteFrame
    simp only [F.own]
    refine wpAny_bind (wpAny_field heg hd h1 ?_)
    rw [if_neg (by decide)]
    exact wpAny_entryW hfr hFun0 F.own heg sb hen hd hsz h0 hq
  refine note _ fun h2 N2 => ?_
  obtain ⟨n1, n2, n3, n4⟩ := N2
  refine wpAny_setFlight_noneW n1 n2 n3 fun h3 m1 m2 m3 m4 => ?_
  have st3 : St w.params h00 R fm loc led { s1 with heap := h3 } ∧ Step fm led led s { s1 with heap := h3 } := by
    have z := D.ready (h' := h3) (tk := s1.toks) (fun b o e1 a1 a2 => m1 b o (hideAll_get _ e1 fun q => (List.mem_cons.mp q).elim a1 a2)) (fun b o e1 q => by
      have nf : ∀ vs, o.data ≠ .fields vs := by
        rcases q with rfl | q
        · obtain ⟨m, ⟨o', es, ep, ho, hd', _⟩, _⟩ := D.ns
          rw [e1] at ho; cases ho
          exact fun vs z => by rw [hd'] at z; cases z
        · obtain ⟨_, _, _, o', ho, hd'⟩ := D.fr b q
          rw [e1] at ho; cases ho
          exact hd'
      obtain ⟨sl, z1⟩ := n4 b o (ke _ _ e1) nf
      exact ⟨sl, m4 b _ z1 nf⟩)
    rw [hs1]; exact z
  obtain ⟨D3, S3⟩ := st3
  refine wpAny_handleBy_builtin (X := X) (T := T) (b := true) hexc hnt hsub (ht _ D3 _ _ fun c h4 t4 k4 r4 => ?_)
  cases r4
  have m3' := m3
  obtain ⟨oe3, vs3, T3, oT3, ts3, g1, ⟨g2, g2'⟩, g3, g4, g5, g6, g7, g8, g9⟩ := m3'
  refine ⟨rfl, ⟨oe3, k4 _ _ g1, g2.trans hcls⟩, ?_⟩
  rw [if_pos rfl]
  have D4 := D3.quiet (tk := t4) k4
  have S4 := S3.trans (Step.quiet (tk := t4) D3 k4)
  have b4 : (baseOf fm s.heap).StaysIn h4 := fun b o q => k4 _ _ (m1 b o q)
  have f4 : h4.FunFrames (baseOf fm s.heap) (fm.env :: outer) := m2.of_keeps fun b o ho _ => ⟨o, k4 _ _ ho, rfl⟩
  refine wpAny_setFlight_noneW (s := { s1 with heap := h4, toks := t4 }) b4 f4 ⟨oe3, vs3, T3, oT3, ts3, k4 _ _ g1, ⟨g2, g2'⟩, g3, g4, g5, g6, k4 _ _ g7, g8, g9⟩ fun h5 p1 p2 p3 p4 => ?_
  have st5 : St w.params h00 R fm loc led { s1 with heap := h5, toks := t4 } ∧ Step fm led led s { s1 with heap := h5, toks := t4 } := by
    have z := D.ready (h' := h5) (tk := t4) (fun b o e1 a1 a2 => p1 b o (hideAll_get _ e1 fun q => (List.mem_cons.mp q).elim a1 a2)) (fun b o e1 q => by
      have nf : ∀ vs, o.data ≠ .fields vs := by
        rcases q with rfl | q
        · obtain ⟨m, ⟨o', es, ep, ho, hd', _⟩, _⟩ := D.ns
          rw [e1] at ho; cases ho
          exact fun vs z => by rw [hd'] at z; cases z
        · obtain ⟨_, _, _, o', ho, hd'⟩ := D.fr b q
          rw [e1] at ho; cases ho
          exact hd'
      obtain ⟨sl, z1⟩ := n4 b o (ke _ _ e1) nf
      exact ⟨sl, p4 b _ (k4 _ _ (m4 b _ z1 nf)) nf⟩)
    rw [hs1]; exact z
  exact k _ st5.1 st5.2
end
section
variable {prog : Program} {w : World} {A : Around} {E : Value → Shared → Prop} {s : Shared} {env : Env}
theorem call_bndH {u : Addr} {T id : String} {self : Value} {rest : List Value} {B : Builtin} {Q : Value → Shared → Prop} (hT : T = "builtin_function_or_method" ∨ T = "method-wrapper") (ho : s.heap.get? u = some { cls := .type T, data := .fields #[.builtin id, self] })
    (hc : ∀ (A' : Around) (Q : Unit → Shared → Prop) (E : Value → Shared → Prop), Q () s → wpAny (model prog w) A' (checkBoundCall id ⟨self :: rest, []⟩) Q E s) (hq : (Code.builtin id ⟨self :: rest, []⟩).quiet = true) (entry : entryFor table id = some B)
    (h : ∀ A' : Around, A'.handled = A.handled → wpAny (model prog w) A' (B ⟨self :: rest, []⟩) (fun fin s' => ∃ r, fin = .done (.ret r) ∧ Q r s') E s) : wpAny (model prog w) A (call (.ref u) rest) Q E s := by
  refine wpAny_call (codeAny_of_tree ?_)
  show wpAny _ A.in1 (callAny (.ref u) ⟨rest, []⟩) _ _ s
  simp only [callAny]
  refine wpAny_bind (wpAny_load ho ?_)
  have e2 : (Value.type T == Value.type "method" || Value.type T == Value.type "builtin_function_or_method" || Value.type T == Value.type "method-wrapper") = true := by rcases hT with rfl | rfl <;> decide
  have e1 : (Value.type T != Value.type "method") = true := by rcases hT with rfl | rfl <;> decide
  simp only [e2, if_true]
  refine KFB.if_so e1 ?_
  refine wpAny_bind (hc _ _ _ ?_)
  refine wpAny_bind (wpAny_pure (wpAny_pure ⟨hq, codeAny_builtin entry (wpAny_mono (h _ rfl) (fun fin s' hr => ?_) fun _ _ e => e)⟩))
  obtain ⟨r, rfl, hr⟩ := hr
  exact hr
theorem check_bnext {a : Addr} {Q : Unit → Shared → Prop} (hq : Q () s) : wpAny (model prog w) A (checkBoundCall "list_iterator.__next__" ⟨[.ref a], []⟩) Q E s := by
  have e : checkBoundCall "list_iterator.__next__" ⟨[.ref a], []⟩ = pure () := by
    unfold checkBoundCall
    rw [sig_next]
    dsimp only
    rw [show builtinKind "list_iterator.__next__" = some .slot by decide +kernel]
    kernel_rfl
  rw [e]; exact wpAny_pure hq
end
section
variable {prog : Program} {w : World} {h00 : Heap} {R : Shared} {A : Around} {fm : Fm} {loc : Loc} {led : Led}
/-- try: x = f(); break  except StopIteration: .. , where f is bound to a list's iterator -/
theorem TX.tryNext {x : Str} {f t : Expr} {px cp p1 p2 hp pos : Pos} {b0 : Stmt} {suite : List Stmt} {q it l : Addr} {i : Nat} {xs : List AV} {Φ : AF → Loc → Led → Prop}
    (hk : fm.env.scope.kind = .function) (hx : Stores fm x) (hh : A.handled = none) (F : FrOk A fm)
    (hf : PE prog w h00 R A fm loc led f (.raw (.ref q))) (hq : (q, .bnext it) ∈ led) (hi : (it, .liter l i) ∈ led) (hl : Has w.params h00 R fm loc led l (.list xs))
    (hsome : ∀ a, xs[i]? = some a → Φ .brk ((x, a) :: loc) (upd led it (.liter l (i + 1))))
    (hnone : xs[i]? = none → ∀ e, PE prog w h00 R (A.mark (some (.ref e))) fm loc (upd led it .dead) t (.raw (.type "StopIteration")) ∧ TS prog w h00 R (A.mark (some (.ref e))) fm loc (upd led it .dead) (b0 :: suite) Φ)
    (hc : eval (.Call f [] [] cp) fm.env = (do callWith cp (← eval f fm.env) [] (backTo cp (starEach [] fm.env)) (backToKw cp (keywordEach [] fm.env))) := by rfl)
    (hs : swapsWith (.Call f [] [] cp) (some (.Name x px)) p1.line fm.env = pure false := by rfl) :
    TX prog w h00 R A fm loc led (.Try [.Assign [.Name x px] (.Call f [] [] cp) p1, .Break p2] [.ExceptHandler (some t) none (b0 :: suite) hp] [] [] pos) Φ := fun s D Q E k => by
  refine wpAny_Try_except (wpAny_execs_cons (wpAny_Assign_Name (Call_ (hf s D _ _ fun v h1 t1 k1 r1 => ?_) hc) hs))
  cases r1
  have D1 := D.quiet (tk := t1) k1
  obtain ⟨oq, hoq, rq⟩ := D1.ld _ hq
  obtain ⟨oi, hoi, ri⟩ := D1.ld _ hi
  obtain ⟨ol, hol, vs, n, rfl, rl⟩ := hl _ D1
  cases rq
  cases ri
  refine callWith_bnd (T := "method-wrapper") (vs := #[.builtin "list_iterator.__next__", .ref it]) (.inr rfl) rfl (PyProof.Rows.evalArgs_nil3 ?_)
  refine ⟨hoq, ?_⟩
  have ho2 := hoi
  have hl2 := hol
  rw [List.append_nil]
  refine call_bndH (B := Builtin.«list_iterator.__next__») (.inr rfl) hoq (fun A' Q' E' h => check_bnext h) (Code.quiet_builtin _ (by decide +kernel)) entry_listiter_next fun A' hA' => ?_
  show wpAny _ _ (field (.ref it) 0 >>= _) _ _ _
  refine wpAny_bind (wpAny_field ho2 rfl (x := .ref l) rfl ?_)
  show wpAny _ _ (if (Value.ref l == Value.none) = true then _ else _) _ _ _
  rw [if_neg (show ¬ ((Value.ref l == Value.none) = true) from Bool.false_ne_true)]
  show wpAny _ _ (field (.ref it) 1 >>= _) _ _ _
  refine wpAny_bind (wpAny_field ho2 rfl (x := .int i 0) rfl ?_)
  show wpAny _ _ (seqItems? (.ref l) >>= _) _ _ _
  refine wpAny_bind (wpAny_seqItems hl2 rfl ?_)
  cases hx' : xs[i]? with
  | some a =>
    obtain ⟨y, hy, ry⟩ := (rl.at i).1 a hx'
    simp only [Int.toNat_natCast, List.getElem?_toArray, hy]
    have hs' := Heap.SameBut.update h1 it (Obj.mapFields (·.setIfInBounds 1 (rawInt ((i : Int) + 1))))
    have hd' : (h1.update it (Obj.mapFields (·.setIfInBounds 1 (rawInt ((i : Int) + 1))))).get? it = some { cls := .type "list_iterator", data := .fields #[.ref l, .int ((i + 1 : Nat) : Int) 0] } := by
      rw [Heap.get?_update_self _ ho2 (by rfl)]
      simp [Obj.mapFields, rawInt]
    obtain ⟨D3, S3⟩ := D1.put (ao := .liter l (i + 1)) (tk := t1) (mem_addr hi) (fun b o hb e => (hs'.2 b hb).trans e) hd' rfl ⟨_, ho2, fun u => by simp⟩
    refine wpAny_bind (wpAny_setField ho2 rfl (by simp) (wpAny_pure ⟨y, rfl, ?_⟩))
    have ry3 : VR (vis fm (upd led it (.liter l (i + 1))) (h1.update it (Obj.mapFields (·.setIfInBounds 1 (rawInt ((i : Int) + 1)))))) a y := ry.mono S3.ext
    refine store_name D3 ry3 hk (hx.l _) fun s4 S4 _ D4 => ?_
    exact wpAny_execs_cons (wpAny_Break (k .brk s4 .brk _ _ ((D.step k1 S3).trans S4) D4 rfl (hsome a hx')))
  | none =>
    have hy : vs[i]? = none := by
      cases e : vs[i]? with
      | none => rfl
      | some v => obtain ⟨a, ha, _⟩ := (rl.at i).2 v e; rw [hx'] at ha; cases ha
    simp only [Int.toNat_natCast, List.getElem?_toArray, hy]
    have hs' := Heap.SameBut.update h1 it (Obj.mapFields (·.setIfInBounds 0 Value.none))
    have hd' : (h1.update it (Obj.mapFields (·.setIfInBounds 0 Value.none))).get? it = some { cls := .type "list_iterator", data := .fields #[.none, .int i 0] } := by
      rw [Heap.get?_update_self _ ho2 (by rfl)]
      simp [Obj.mapFields]
    obtain ⟨D3, S3⟩ := D1.put (ao := .dead) (tk := t1) (mem_addr hi) (fun b o hb e => (hs'.2 b hb).trans e) hd' ⟨rfl, fun u => by simp⟩ ⟨_, ho2, fun u => by simp⟩
    refine wpAny_bind (wpAny_rule (wpAny_bind (wpAny_setField ho2 rfl (by simp) ?_)))
    show wpAny _ _ (newExc (.type "StopIteration") [] >>= _) _ _ _
    refine wpAny_bind ?_
    simp only [newExc, newTuple]
    refine wpAny_bind (wpAny_newObj_type ?_ (by size_fits))
    refine wpAny_bind (m := firstArgMember _ _) (wpAny_of_eq (a := Value.none) (by first | rfl | (simp only [firstArgMember]; rfl)) ?_)
    refine wpAny_newObj_type ?_ (by size_fits)
    simp only [raiseNew]
    refine wpAny_bind (wpAny_handled ?_)
    rw [show A'.handled = none from hA'.trans hh]
    refine wpAny_bind (wpAny_pure (wpAny_throw ?_))
    have up : ∀ (h : Heap) o, Ext h (h.push o) := fun h o b ob e => Heap.get?_push_of_some _ e
    have gone : ∀ h : Heap, h.get? h.objs.size = none := fun h => by
      cases e : h.get? h.objs.size with
      | none => rfl
      | some o => exact absurd (Heap.lt_size e) (Nat.lt_irrefl _)
    obtain ⟨ht, hb⟩ := hnone hx' (Heap.objs ((h1.update it (Obj.mapFields (·.setIfInBounds 0 Value.none))).push { cls := .type "tuple", data := .seq #[] })).size
    refine caughtX D3 F ⟨_, _, Heap.get?_push_size _ rfl, rfl, rfl, rfl, _, rfl⟩ ((up _ _).trans (up _ _)) ?_ rfl (by rw [isSubtype_type]; kernel_rfl) (by kernel_rfl) (by rw [isSubtype_type]; kernel_rfl) ht fun s' D' S' => ?_
    · cases e : (h1.update it (Obj.mapFields (·.setIfInBounds 0 Value.none))).get? (Heap.objs ((h1.update it (Obj.mapFields (·.setIfInBounds 0 Value.none))).push { cls := .type "tuple", data := .seq #[] })).size with
      | none => rfl
      | some o => have z := up _ { cls := .type "tuple", data := .seq #[] } _ _ e; rw [gone] at z; cases z
    · exact hb s' D' _ _ fun fl s5 af l5 d5 S5 D5 r5 p5 => k fl s5 af l5 d5 (((D.step k1 S3).trans S').trans S5) D5 r5 p5
end
end Mine
end
section
open PySem PySem.Spec PySem.Calls PyProof.Rows PySem.W PySem.SeqAt PySem.Builtin PySem.Builtin.Str
set_option maxRecDepth 100000
set_option linter.unusedVariables false
set_option autoImplicit false
namespace Mine
section
variable {prog : Program} {w : World} {h00 : Heap} {R : Shared} {A : Around} {fm : Fm} {loc : Loc} {led : Led}
theorem TX.exprAny {pos : Pos} {e : Expr} {Φ : AF → Loc → Led → Prop}
    (h : TE prog w h00 R A fm loc led e fun _ l1 d1 => Φ .next l1 d1)
    (hi : interactive fm.env = false := by rfl) (hs : swapsWith e none pos.line fm.env = pure false := by rfl) : TX prog w h00 R A fm loc led (.Expr e pos) Φ := fun s D Q E q =>
  wpAny_Expr_any (h s D _ _ fun v s1 a l1 d1 x1 D1 r1 p => q _ s1 .next _ _ x1 D1 rfl p) hi hs
/-- entries that leave the ledger -/
theorem TS.drop {ss : List Stmt} {Φ : AF → Loc → Led → Prop} {led' : Led} (sub : led'.Sublist led) (t : TS prog w h00 R A fm loc led' ss Φ) : TS prog w h00 R A fm loc led ss Φ :=
  TS.freeze led' loc sub (fun s D y a' e => ⟨a', e, fun v r => r.mono (D.thaw sub).2⟩) t
/-- a method of a known object, with one argument that may change the ledger -/
theorem TE.methE {o e : Expr} {name : Str} {apos pos : Pos} {id : String} {u : Value} {first : List Value} {fav : List AV} {Φ : AV → Loc → Led → Prop} {pl : Sem Bool} (ho : PE prog w h00 R A fm loc led o (.raw u))
    (hm : MethX prog w h00 R A fm loc led u name (.builtin id) first) (hfirst : fav = first.map .raw) (ha : TE prog w h00 R A fm loc led e fun a l1 d1 => CallT prog w h00 R A fm l1 d1 (.builtin id) (fav ++ [a]) fun b d => Φ b l1 d)
    (hs : starEach [e] fm.env = (false, eval e fm.env) :: starEach [] fm.env := by rfl)
    (he : eval (.Call (.Attribute o name apos) [e] [] pos) fm.env = (do
      let ov ← eval o fm.env
      standAt apos.atName
      let (f, first) ← holding [ov] (getMethod ov name pl)
      callWith pos f first (backTo pos (starEach [e] fm.env)) []) := by rfl) :
    TE prog w h00 R A fm loc led (.Call (.Attribute o name apos) [e] [] pos) Φ := fun s D Q E k => by
  refine MethodCall_ (pl := pl) (ho s D _ _ fun v h1 t1 k1 r1 => ?_) he
  cases r1
  have D1 := D.quiet (tk := t1) k1
  refine hm _ D1 pl _ _ fun t1' => ?_
  have D1' : St w.params h00 R fm loc led { s with heap := h1, toks := t1' } := D.quiet k1
  refine callWith_method1 (args_cons (ha _ D1' _ _ fun a s2 av l2 d2 S2 D2 r2 c2 => args_nil ?_) hs) hs (by rfl)
  refine c2 s2 D2 _ ?_ _ _ fun v s3 bv d3 S3 D3 r3 p3 => k v s3 bv l2 d3 (D.step k1 (S2.trans S3)) D3 r3 p3
  subst hfirst
  clear hm he c2 ha
  induction first with
  | nil => exact .cons r2 .nil
  | cons a l ih => exact .cons rfl ih
/-- iter(x).__next__ -/
theorem TE.iterNext {func X : Expr} {cp pos : Pos} {l : Addr} {xs : List AV} {Φ : AV → Loc → Led → Prop} (hf : PE prog w h00 R A fm loc led func (.raw (.builtin "iter"))) (hX : PE prog w h00 R A fm loc led X (.raw (.ref l))) (hl : Has w.params h00 R fm loc led l (.list xs))
    (k : ∀ q it, Φ (.raw (.ref q)) loc ((q, .bnext it) :: (it, .liter l 0) :: led))
    (hs : starEach [X] fm.env = (false, eval X fm.env) :: starEach [] fm.env := by rfl) (hp : (backTo cp (starEach [] fm.env)).any (·.1) = false := by rfl)
    (hc : eval (.Call func [X] [] cp) fm.env = (do callWith cp (← eval func fm.env) [] (backTo cp (starEach [X] fm.env)) (backToKw cp (keywordEach [] fm.env))) := by rfl)
    (hb : eval (.Attribute (.Call func [X] [] cp) "__next__" pos) fm.env = (do
      let o ← eval (.Call func [X] [] cp) fm.env
      standAt pos.atName
      let r ← holding [o] (getAttr o "__next__" true)
      letTemporaryGo (.Call func [X] [] cp) o r
      Pure.pure r) := by rfl) :
    TE prog w h00 R A fm loc led (.Attribute (.Call func [X] [] cp) "__next__" pos) Φ := fun s D Q E q => by
  refine Attribute_any_ (Call_ (hf s D _ _ fun f h1 t1 k1 r1 => ?_) hc) hb
  cases r1
  have D1 := D.quiet (tk := t1) k1
  refine PyProof.Rows.callWith_builtin1 (PEs.cons hX PEs.nil hs cp _ D1 _ _ fun vs h2 t2 k2 r2 => ?_) hs hp
  have D2 := D1.quiet (tk := t2) k2
  cases r2 with
  | cons r rs =>
    cases rs
    cases r
    obtain ⟨ol, hol, ws, n, rfl, rl⟩ := hl _ D2
    refine call_function_entry (by decide +kernel) (by decide +kernel) kdk_entry_iter (kdk_args_iter _) ?_
    unfold Builtin.«iter»
    refine wpAny_bind (m := someArgs "iter" 1 2 _) (wpAny_of_eq (a := [Value.ref l]) (by first | rfl | kernel_rfl!) ?_)
    show wpAny _ _ (pyIter (.ref l) >>= _) _ _ _
    refine wpAny_bind (wpAny_pyIter_list (items := ws.toArray) ⟨_, hol, rfl, n, rfl⟩ ?_)
    refine wpAny_pure ⟨_, rfl, ?_⟩
    have up : ∀ (h : Heap) o, Ext h (h.push o) := fun h o b ob e => Heap.get?_push_of_some _ e
    have gone : ∀ h : Heap, h.get? h.objs.size = none := fun h => by
      cases e : h.get? h.objs.size with
      | none => rfl
      | some o => exact absurd (Heap.lt_size e) (Nat.lt_irrefl _)
    obtain ⟨D3, S3⟩ := D2.add (ao := .liter l 0) (tk := t2) (gone _) (up _ _) (Heap.get?_push_size _ (o := { cls := .type "list_iterator", data := .fields #[.ref l, .int 0 0] }) rfl) rfl
    refine next_getAttr (Heap.get?_push_size _ rfl) fun t' => ?_
    obtain ⟨D4, S4⟩ := D3.add (ao := .bnext h2.objs.size) (tk := t') (gone _) (up _ _) (Heap.get?_push_size _ (o := { cls := .type "method-wrapper", data := .fields #[.builtin "list_iterator.__next__", .ref h2.objs.size] }) rfl) rfl
    exact q _ _ (.raw (.ref _)) _ _ (D.step (k1.trans k2) (S3.trans S4)) D4 rfl (k _ _)
/-- the length of a list of the ledger -/
theorem PE.lenLed {func e : Expr} {pos : Pos} {a : Addr} {xs : List AV} (hf : PE prog w h00 R A fm loc led func (.raw (.builtin "len"))) (he : PE prog w h00 R A fm loc led e (.raw (.ref a))) (hm : Has w.params h00 R fm loc led a (.list xs)) (hz : xs.length < 1000)
    (hs : starEach [e] fm.env = (false, eval e fm.env) :: starEach [] fm.env := by rfl) (hp : (backTo pos (starEach [] fm.env)).any (·.1) = false := by rfl)
    (hc : eval (.Call func [e] [] pos) fm.env = (do callWith pos (← eval func fm.env) [] (backTo pos (starEach [e] fm.env)) (backToKw pos (keywordEach [] fm.env))) := by rfl) :
    PE prog w h00 R A fm loc led (.Call func [e] [] pos) (.d (.int xs.length)) := fun s D Q E q => by
  refine Call_ (hf s D _ _ fun f h1 t1 k1 r1 => ?_) hc
  cases r1
  have D1 := D.quiet (tk := t1) k1
  refine PyProof.Rows.callWith_builtin1 (PEs.cons he PEs.nil hs pos _ D1 _ _ fun vs h2 t2 k2 r2 => ?_) hs hp
  have D2 := D1.quiet (tk := t2) k2
  cases r2 with
  | cons r rs =>
    cases rs
    cases r
    obtain ⟨ol, hol, ws, n, rfl, rl⟩ := hm _ D2
    have hlen : ws.length = xs.length := rl.len
    refine call_len_list (items := ws.toArray) ⟨_, hol, rfl, n, rfl⟩ (by rw [List.size_toArray, hlen]; omega) ?_
    rw [List.size_toArray, hlen]
    exact q _ h2 _ (k1.trans k2) vr_int
/-- a slice of a list of the ledger -/
theorem PE.cutLed {v : Expr} {l u st : Option Expr} {p pos : Pos} {a : Addr} {xs : List AV} {i j c : Option Int} (hv : PE prog w h00 R A fm loc led v (.raw (.ref a))) (hl : PPart prog w h00 R A fm loc led l i) (hu : PPart prog w h00 R A fm loc led u j) (hs : PPart prog w h00 R A fm loc led st c) (h0 : c ≠ some 0)
    (hm : (a, .list xs) ∈ led) (hz : xs.length ≤ sizeLine)
    (hsl : ∀ u' v', subscripted (.Slice l u st p) false u' v' = operate [u', v'] (getItem u' v') ∨ subscripted (.Slice l u st p) false u' v' = operate [v', u'] (getItem u' v') := by first | exact fun _ _ => .inl rfl | exact fun _ _ => .inr rfl) :
    PE prog w h00 R A fm loc led (.Subscript v (.Slice l u st p) pos) (.lst (Mine.pick xs i j c)) := fun s D Q E q => by
  refine Subscript_ (hv s D _ _ fun y h1 t1 k1 r1 => PE.slice (pos := p) hl hu hs _ (D.quiet k1) _ _ fun z h2 t2 k2 r2 => ?_)
  cases r1
  have D2 := (D.quiet (tk := t1) k1).quiet (tk := t2) k2
  obtain ⟨vs, n, ho, r⟩ := D2.list hm
  obtain ⟨sl, x1, x2, x3, rfl, hsl', rfl, rfl, rfl⟩ := r2
  have hl' : h2.IsList a vs.toArray := ⟨_, ho, rfl, n, rfl⟩
  have hlen : vs.length = xs.length := r.len
  refine sub_tail (T := "list") hl'.typeIs F.slot_list_getitem.lookup ?_ (hsl _ _)
  refine wpAny_getItem_list_slice (hsz := by rw [List.size_toArray, hlen]; exact hz) hl' ⟨_, hide_le _ _ hsl'.choose_spec.1, hsl'.choose_spec.2⟩ (isPart_of x1) (isPart_of x2) (isPart_of x3) h0 ?_
  have up : ∀ o, Ext h2 (h2.push o) := fun o b ob e => Heap.get?_push_of_some _ e
  have e2 : slicePick vs.toArray (x1.map (·.1)) (x2.map (·.1)) (x3.map (·.1)) = (Mine.pick vs (x1.map (·.1)) (x2.map (·.1)) (x3.map (·.1))).toArray := by
    unfold slicePick Mine.pick
    rw [List.size_toArray]
    simp
  rw [e2]
  refine q _ _ _ (k1.trans (k2.trans (up _))) ⟨h2.objs.size, _, _, rfl, hideAll_get _ (Heap.get?_push_size _ rfl) fun h => absurd (D2.lo _ h) (Nat.lt_irrefl _), ?_⟩
  unfold Mine.pick
  rw [hlen]
  exact (r.mono (hide_ext (up _))).pick _
end
theorem pick_drop {α : Type} (ds : List α) (n : Nat) (hn : n ≤ ds.length) : Mine.pick ds (some (n : Int)) none none = ds.drop n := by
  have e : sliceBounds (some (n : Int)) none none ds.length = ((n : Int), ((ds.length : Nat) : Int), 1) := by
    simp only [sliceBounds, Option.getD_none, show (1 : Int) > 0 by decide, if_true, if_neg (show ¬ ((n : Int) < 0) by omega)]
    congr 1
    omega
  unfold Mine.pick
  rw [e]
  simp only [sliceRange_one]
  have := StrLaws.picks ds (ds.length - n) n (by omega)
  rw [show ((ds.drop n).take (ds.length - n)) = ds.drop n by rw [List.take_of_length_le (by rw [List.length_drop]; exact Nat.le_refl _)]] at this
  rw [← this]
end Mine
end
section
open PySem PySem.Spec PySem.Calls PyProof.Rows PySem.W PySem.SeqAt PySem.Builtin PySem.Builtin.Str
set_option maxRecDepth 100000
set_option linter.unusedVariables false
set_option autoImplicit false
namespace Mine
/-- those behind a node -/
noncomputable def sucs (g : List Nd) (nm : List Nat) : Option (List (List Nat)) := (g.find? fun n => decide (n.nm = nm)).map (·.su)
noncomputable abbrev Stk := List (List Nat × Nat)
/-- the next one to look at: the outer option says that nothing odd was met -/
noncomputable def climb (g : List Nd) : Stk → Option (Option (List Nat × Stk))
  | [] => some none
  | (nm, i) :: rest => match sucs g nm with
    | none => none
    | some su => match su[i]? with
      | some x => some (some (x, (nm, i + 1) :: rest))
      | none => if nm ∈ rest.map (·.1) then none else climb g rest
inductive Turn where
  | odd
  | found (r : List (List Nat))
  | stop (seen : List (List Nat))
  | go (x : List Nat) (stk : Stk) (seen : List (List Nat))
noncomputable def after (g : List Nd) (seen : List (List Nat)) (stk : Stk) : Turn := match climb g stk with
  | none => .odd
  | some none => .stop seen
  | some (some (x, stk')) => .go x stk' seen
noncomputable def bottom (stk : Stk) : List (List Nat) := (stk.map (·.1)).reverse
noncomputable def turn (g : List Nd) (node : List Nat) (stk : Stk) (seen : List (List Nat)) : Turn :=
  if 50 < seen.length ∨ 50 < stk.length ∨ ¬ (bottom stk).Nodup then .odd
  else if node ∈ seen then
    if node ∈ bottom stk then .found ((bottom stk).drop ((bottom stk).idxOf node) ++ [node]) else after g seen stk
  else if node ∈ names g ∧ node ∉ bottom stk then after g (seen ++ [node]) ((node, 0) :: stk) else .odd
/-- how a search from one node ends -/
noncomputable def search (g : List Nd) : Nat → List Nat → Stk → List (List Nat) → Option (List (List Nat) ⊕ List (List Nat))
  | 0, _, _, _ => none
  | n + 1, node, stk, seen => match turn g node stk seen with
    | .odd => none
    | .found r => some (.inl r)
    | .stop seen => some (.inr seen)
    | .go x stk seen => search g n x stk seen
noncomputable def cycFrom (g : List Nd) : List (List Nat) → List (List Nat) → Option (Option (List (List Nat)))
  | [], _ => some none
  | n :: ns, seen => if 50 < seen.length then none else if n ∈ seen then cycFrom g ns seen else match search g 64 n [] seen with
    | none => none
    | some (.inl r) => some (some r)
    | some (.inr seen) => cycFrom g ns seen
noncomputable def cyc (g : List Nd) : Option (Option (List (List Nat))) := cycFrom g (names g) []
theorem sucs_some {g : List Nd} {nm : List Nat} {su : List (List Nat)} (h : sucs g nm = some su) : ∃ n ∈ g, n.nm = nm ∧ n.su = su := by
  unfold sucs at h
  obtain ⟨n, hn, rfl⟩ := Option.map_eq_some_iff.mp h
  exact ⟨n, List.mem_of_find?_eq_some hn, by simpa using List.find?_some hn, rfl⟩
/-- the index of each node on the stack -/
noncomputable def n2sE (b : List (List Nat)) : List (Str × AV) := b.zipIdx.map fun p => (S p.1, .d (.int (p.2 : Nat)))
theorem zipIdx_fst {α : Type} (l : List α) (k : Nat) : (l.zipIdx k).map (·.1) = l := by
  induction l generalizing k with
  | nil => rfl
  | cons a l ih => rw [List.zipIdx_cons, List.map_cons, ih]
theorem n2sE_names {b : List (List Nat)} : (n2sE b).map (·.1) = b.map S := by
  unfold n2sE
  rw [List.map_map]
  have : b.map S = (b.zipIdx.map (·.1)).map S := by rw [zipIdx_fst]
  rw [this, List.map_map]; rfl
theorem nodup_S {l : List (List Nat)} (h : l.Nodup) : (l.map S).Nodup := by
  unfold List.Nodup at h ⊢
  rw [List.pairwise_map]
  exact h.imp fun {a b} q z => q (S_eq.mp z)
theorem mem_S {l : List (List Nat)} {a : List Nat} : S a ∈ l.map S ↔ a ∈ l := by
  constructor
  · intro h; obtain ⟨b, hb, e⟩ := List.mem_map.mp h; exact S_eq.mp e ▸ hb
  · exact fun h => List.mem_map_of_mem h
theorem n2sE_snoc {b : List (List Nat)} {nm : List Nat} (h : nm ∉ b) : putE (S nm) (.d (.int (b.length : Nat))) (n2sE b) = n2sE (b ++ [nm]) := by
  rw [putE_app (by rw [n2sE_names]; exact fun z => h (mem_S.mp z))]
  unfold n2sE
  rw [List.zipIdx_append, List.map_append]
  simp
theorem n2sE_del {b : List (List Nat)} {nm : List Nat} (h : nm ∉ b) : delE (S nm) (n2sE (b ++ [nm])) = n2sE b := by
  unfold delE n2sE
  rw [List.zipIdx_append, List.map_append, List.filter_append]
  have h1 : (b.zipIdx.map fun p => (S p.1, AV.d (.int (p.2 : Nat)))).filter (fun p => decide (p.1 ≠ S nm)) = b.zipIdx.map fun p => (S p.1, AV.d (.int (p.2 : Nat))) := by
    rw [List.filter_eq_self]
    intro p hp
    obtain ⟨q, hq, rfl⟩ := List.mem_map.mp hp
    have : q.1 ∈ b := by have := List.mem_map_of_mem (f := (·.1)) hq; rwa [zipIdx_fst] at this
    simp only [ne_eq, decide_not, Bool.not_eq_true', decide_eq_false_iff_not]
    exact fun z => h (S_eq.mp z ▸ this)
  rw [h1]; simp
theorem n2sE_look {nm : List Nat} {b : List (List Nat)} (k : Nat) : (b.zipIdx k |>.map fun p => (S p.1, AV.d (.int (p.2 : Nat)))).lookup (S nm) = if nm ∈ b then some (.d (.int ((b.idxOf nm + k : Nat)))) else none := by
  induction b generalizing k with
  | nil => rfl
  | cons a b ih =>
    rw [List.zipIdx_cons, List.map_cons, List.lookup_cons]
    by_cases q : nm = a
    · subst q; simp
    · rw [show (S nm == S a) = false by simpa using q]
      show List.lookup (S nm) (List.map _ (b.zipIdx (k + 1))) = _
      rw [ih (k + 1)]
      have : nm ∈ a :: b ↔ nm ∈ b := by simp [q]
      by_cases z : nm ∈ b
      · rw [if_pos z, if_pos (this.mpr z), List.idxOf_cons, show (a == nm) = false by simpa using fun e => q e.symm]
        simp; omega
      · rw [if_neg z, if_neg fun h => z (this.mp h)]
/-- a stacked node, with where its iterator lies -/
structure Fr where
  nm : List Nat
  i : Nat
  q : Addr
  it : Addr
noncomputable def mir (fs : List Fr) : Stk := fs.map fun f => (f.nm, f.i)
noncomputable def frLed (ad : Ad) (fs : List Fr) : Led := fs.flatMap fun f => [(f.q, .bnext f.it), (f.it, .liter (ad.l f.nm) f.i)]
structure Cn where
  a1 : Addr
  a2 : Addr
  a3 : Addr
  a4 : Addr
noncomputable def cnLed (c : Cn) (b : List (List Nat)) (qs : List Addr) (seen : List (List Nat)) (n2s : List (Str × AV)) : Led := [(c.a4, .dict n2s), (c.a3, .sset (seen.map S)), (c.a2, .list (qs.map fun q => .raw (.ref q))), (c.a1, .list (wordsAV b))]
noncomputable def fcLed (ad : Ad) (c : Cn) (fs : List Fr) (seen : List (List Nat)) (tl : Led) : Led := frLed ad fs ++ (cnLed c (bottom (mir fs)) (fs.map (·.q)).reverse seen (n2sE (bottom (mir fs))) ++ tl)
theorem mir_names (fs : List Fr) : (mir fs).map (·.1) = fs.map (·.nm) := by unfold mir; rw [List.map_map]; rfl
theorem bottom_cons (f : Fr) (fs : List Fr) : bottom (mir (f :: fs)) = bottom (mir fs) ++ [f.nm] := by unfold bottom; rw [mir_names, mir_names, List.map_cons, List.reverse_cons]
end Mine
end
section
open PySem PySem.Spec PySem.Calls PyProof.Rows PySem.W PySem.SeqAt PySem.Builtin PySem.Builtin.Str
set_option maxRecDepth 100000
set_option linter.unusedVariables false
set_option autoImplicit false
namespace Mine
noncomputable def NdC (X : Led) (c : Cn) (tl : Led) : Prop := (X.map (·.1) ++ (c.a4 :: c.a3 :: c.a2 :: c.a1 :: tl.map (·.1))).Nodup
theorem ndC_of {X : Led} {c : Cn} {tl : Led} {b : List (List Nat)} {qs : List Addr} {seen : List (List Nat)} {n2s : List (Str × AV)} (h : ((X ++ (cnLed c b qs seen n2s ++ tl)).map (·.1)).Nodup) : NdC X c tl := by
  unfold NdC; simpa [cnLed] using h
theorem cn_upd1 {X : Led} {c : Cn} {tl : Led} {b b' : List (List Nat)} {qs : List Addr} {seen : List (List Nat)} {n2s : List (Str × AV)} (h : NdC X c tl) : upd (X ++ (cnLed c b qs seen n2s ++ tl)) c.a1 (.list (wordsAV b')) = X ++ (cnLed c b' qs seen n2s ++ tl) := by
  have e : ∀ b, X ++ (cnLed c b qs seen n2s ++ tl) = (X ++ [(c.a4, .dict n2s), (c.a3, .sset (seen.map S)), (c.a2, .list (qs.map fun q => .raw (.ref q)))]) ++ (c.a1, .list (wordsAV b)) :: tl := fun b => by simp [cnLed]
  rw [e, e, upd_mid (by unfold NdC at h; simpa using h)]
theorem cn_upd2 {X : Led} {c : Cn} {tl : Led} {b : List (List Nat)} {qs qs' : List Addr} {seen : List (List Nat)} {n2s : List (Str × AV)} (h : NdC X c tl) : upd (X ++ (cnLed c b qs seen n2s ++ tl)) c.a2 (.list (qs'.map fun q => .raw (.ref q))) = X ++ (cnLed c b qs' seen n2s ++ tl) := by
  have e : ∀ qs, X ++ (cnLed c b qs seen n2s ++ tl) = (X ++ [(c.a4, .dict n2s), (c.a3, .sset (seen.map S))]) ++ (c.a2, .list (qs.map fun q => .raw (.ref q))) :: (c.a1, .list (wordsAV b)) :: tl := fun b => by simp [cnLed]
  rw [e, e, upd_mid (by unfold NdC at h; simpa using h)]
theorem cn_upd3 {X : Led} {c : Cn} {tl : Led} {b : List (List Nat)} {qs : List Addr} {seen seen' : List (List Nat)} {n2s : List (Str × AV)} (h : NdC X c tl) : upd (X ++ (cnLed c b qs seen n2s ++ tl)) c.a3 (.sset (seen'.map S)) = X ++ (cnLed c b qs seen' n2s ++ tl) := by
  have e : ∀ seen, X ++ (cnLed c b qs seen n2s ++ tl) = (X ++ [(c.a4, .dict n2s)]) ++ (c.a3, .sset (seen.map S)) :: (c.a2, .list (qs.map fun q => .raw (.ref q))) :: (c.a1, .list (wordsAV b)) :: tl := fun b => by simp [cnLed]
  rw [e, e, upd_mid (by unfold NdC at h; simpa using h)]
theorem cn_upd4 {X : Led} {c : Cn} {tl : Led} {b : List (List Nat)} {qs : List Addr} {seen : List (List Nat)} {n2s n2s' : List (Str × AV)} (h : NdC X c tl) : upd (X ++ (cnLed c b qs seen n2s ++ tl)) c.a4 (.dict n2s') = X ++ (cnLed c b qs seen n2s' ++ tl) := by
  have e : ∀ n2s, X ++ (cnLed c b qs seen n2s ++ tl) = X ++ (c.a4, .dict n2s) :: (c.a3, .sset (seen.map S)) :: (c.a2, .list (qs.map fun q => .raw (.ref q))) :: (c.a1, .list (wordsAV b)) :: tl := fun b => by simp [cnLed]
  rw [e, e, upd_mid (by unfold NdC at h; simpa using h)]
theorem cn_mem {X : Led} {c : Cn} {tl : Led} {b : List (List Nat)} {qs : List Addr} {seen : List (List Nat)} {n2s : List (Str × AV)} :
    (c.a1, AO.list (wordsAV b)) ∈ X ++ (cnLed c b qs seen n2s ++ tl) ∧ (c.a2, AO.list (qs.map fun q => .raw (.ref q))) ∈ X ++ (cnLed c b qs seen n2s ++ tl) ∧ (c.a3, AO.sset (seen.map S)) ∈ X ++ (cnLed c b qs seen n2s ++ tl) ∧ (c.a4, AO.dict n2s) ∈ X ++ (cnLed c b qs seen n2s ++ tl) :=
  ⟨List.mem_append_right _ (List.mem_append_left _ (by simp [cnLed])), List.mem_append_right _ (List.mem_append_left _ (by simp [cnLed])), List.mem_append_right _ (List.mem_append_left _ (by simp [cnLed])), List.mem_append_right _ (List.mem_append_left _ (by simp [cnLed]))⟩
theorem tl_mem {X : Led} {c : Cn} {tl : Led} {b : List (List Nat)} {qs : List Addr} {seen : List (List Nat)} {n2s : List (Str × AV)} {p : Addr × AO} (h : p ∈ tl) : p ∈ X ++ (cnLed c b qs seen n2s ++ tl) := List.mem_append_right _ (List.mem_append_right _ h)
/-- what the frame's names are told to be -/
noncomputable def Hold (l : Loc) (xs : List (Str × AV)) : Prop := ∀ p ∈ xs, l.lookup p.1 = some p.2
theorem Hold.get {l : Loc} {xs : List (Str × AV)} {x : Str} {a : AV} (h : Hold l xs) (m : (x, a) ∈ xs) : l.lookup x = some a := h _ m
theorem Hold.over {l : Loc} {xs : List (Str × AV)} {x : Str} {a : AV} (h : Hold l xs) (n : x ∉ xs.map (·.1)) : Hold ((x, a) :: l) xs := fun p hp => by
  rw [List.lookup_cons]
  have : p.1 ≠ x := fun q => n (q ▸ List.mem_map_of_mem (f := (·.1)) hp)
  rw [show (p.1 == x) = false by simpa using this]
  exact h p hp
noncomputable def fcLoc (P : Params) (ad : Ad) (g : List Nd) (c : Cn) : List (Str × AV) := [("self", .x (ledHP P (.ref ad.S) (frz ad g))), ("n2i", .x (ledHP P (.ref ad.N) [(ad.N, .dict (n2iE ad g))])), ("stack", .raw (.ref c.a1)), ("itstack", .raw (.ref c.a2)), ("seen", .raw (.ref c.a3)), ("node2stacki", .raw (.ref c.a4))]
theorem cut_words {b : List (List Nat)} {n : Nat} (h : n ≤ b.length) : Mine.pick (wordsAV b) (some (n : Int)) none none = ((b.drop n).map strD).map AV.d := by
  rw [pick_drop _ _ (by unfold wordsAV; rw [List.length_map]; exact h)]
  unfold wordsAV
  rw [List.map_drop, List.map_drop, List.map_map]; rfl
theorem words_snoc (b : List (List Nat)) (x : List Nat) : wordsAV b ++ [.d (strD x)] = wordsAV (b ++ [x]) := by unfold wordsAV; rw [List.map_append]; rfl
theorem words_len (b : List (List Nat)) : (wordsAV b).length = b.length := List.length_map _
theorem fr_upd {ad : Ad} {f : Fr} {rest : List Fr} {Y : Led} {j : Nat} (h : ((frLed ad (f :: rest) ++ Y).map (·.1)).Nodup) : upd (frLed ad (f :: rest) ++ Y) f.it (.liter (ad.l f.nm) j) = frLed ad ({ f with i := j } :: rest) ++ Y := by
  have e : ∀ j, frLed ad ({ f with i := j } :: rest) ++ Y = [(f.q, .bnext f.it)] ++ (f.it, .liter (ad.l f.nm) j) :: (frLed ad rest ++ Y) := fun j => by simp [frLed]
  have e' : frLed ad (f :: rest) ++ Y = [(f.q, .bnext f.it)] ++ (f.it, .liter (ad.l f.nm) f.i) :: (frLed ad rest ++ Y) := by simp [frLed]
  rw [e'] at h
  rw [e', e, upd_mid h]
theorem fr_dead {ad : Ad} {f : Fr} {rest : List Fr} {Y : Led} (h : ((frLed ad (f :: rest) ++ Y).map (·.1)).Nodup) : upd (frLed ad (f :: rest) ++ Y) f.it .dead = ((f.q, .bnext f.it) :: (f.it, .dead) :: frLed ad rest) ++ Y := by
  have e' : frLed ad (f :: rest) ++ Y = [(f.q, .bnext f.it)] ++ (f.it, .liter (ad.l f.nm) f.i) :: (frLed ad rest ++ Y) := by simp [frLed]
  rw [e'] at h
  rw [e', upd_mid h]
  simp
section
variable {prog : Program} {w : World} {h00 : Heap} {R : Shared} {A : Around} {fm : Fm} {loc : Loc} {led : Led} {ad : Ad} {g : List Nd} {c : Cn} {rdy : AV} {po nf : Int}
theorem frz_node {n : Nd} (hn : n ∈ g) : (ad.l n.nm, AO.list (wordsAV n.su)) ∈ frz ad g ∧ (ad.b n.nm, AO.dict []) ∈ frz ad g := by
  have h : ∀ p ∈ nodeF ad n, p ∈ frz ad g := fun p hp => List.mem_cons_of_mem _ (List.mem_cons_of_mem _ (List.mem_flatMap.mpr ⟨n, hn, hp⟩))
  exact ⟨h _ (by simp [nodeF]), h _ (by simp [nodeF])⟩
theorem live_node {n : Nd} (hn : n ∈ g) : (ad.a n.nm, AO.slots 123 (ad.b n.nm) (slotsOf ad n)) ∈ live ad rdy po nf g := List.mem_cons_of_mem _ (List.mem_map_of_mem (f := nodeA ad) hn)
theorem TX.mono {st : Stmt} {Φ Ψ : AF → Loc → Led → Prop} (h : TX prog w h00 R A fm loc led st Φ) (k : ∀ af l d, Φ af l d → Ψ af l d) : TX prog w h00 R A fm loc led st Ψ := fun s D Q E q =>
  h s D Q E fun fl s' af l d x D' r p => q fl s' af l d x D' r (k _ _ _ p)
/-- a return that lets entries go -/
theorem TX.retDrop {pos : Pos} {e : Expr} {Φ : AF → Loc → Led → Prop} (h : TE prog w h00 R A fm loc led e fun a l1 d1 => ∃ d2, d2.Sublist d1 ∧ Φ (.ret a) l1 d2) : TX prog w h00 R A fm loc led (.Return (some e) pos) Φ := fun s D Q E q =>
  wpAny_Return_some (h s D _ _ fun v s1 a l1 d1 x1 D1 r1 p => by
    obtain ⟨d2, sub, p⟩ := p
    obtain ⟨D2, vv⟩ := D1.thaw sub
    have ms : ∀ a ∈ d2.map (·.1), a ∈ d1.map (·.1) := fun a h => (sub.map _).subset h
    exact q _ s1 (.ret a) _ _ ⟨x1.keep, fun a h => x1.new a (ms a h), fun a h => x1.off a (ms a h), x1.turn⟩ D2 ⟨v, rfl, r1.mono vv⟩ p)
theorem node_fresh {P : Params} : ("node" : Str) ∉ (fcLoc P ad g c).map (·.1) := by
  show ("node" : Str) ∉ (["self", "n2i", "stack", "itstack", "seen", "node2stacki"] : List Str)
  decide
theorem Hold.cons {l : Loc} {xs : List (Str × AV)} {x : Str} {a : AV} (h : Hold l xs) (n : x ∉ xs.map (·.1)) : Hold ((x, a) :: l) ((x, a) :: xs) := fun p hp => by
  rcases List.mem_cons.mp hp with rfl | hp
  · rw [List.lookup_cons]; simp
  · exact h.over n p hp
theorem Hold.tail {l : Loc} {xs : List (Str × AV)} {p : Str × AV} (h : Hold l (p :: xs)) : Hold l xs := fun q hq => h q (List.mem_cons_of_mem _ hq)
end
end Mine
end
section
open PySem PySem.Spec PySem.Calls PyProof.Rows PySem.W PySem.SeqAt PySem.Builtin PySem.Builtin.Str
set_option maxRecDepth 100000
set_option linter.unusedVariables false
set_option autoImplicit false
namespace Mine
noncomputable def ringAV : Option (List (List Nat)) → AV
  | none => .d .none
  | some r => .d (strsD r)
section
variable {prog : Program} {w : World} {h00 : Heap} {R : Shared} {A : Around} {fm : Fm} {loc : Loc} {led : Led} {ad : Ad} {g : List Nd} {c : Cn} {rdy : AV} {po nf : Int}
set_option maxHeartbeats 4000000 in
theorem c_find (G : Top0 w.params h00) (hA : Roomy 40 400 A) (HF : FrOk A fm) (hs : (ad.N == sysModules) = false) (hg : (names g).Nodup) {res : Option (List (List Nat))} (hres : cyc g = some res) {led2 : Led} {Φ : AV → Led → Prop}
    (k : Φ (ringAV res) (led2 ++ live ad rdy po nf g)) :
    CallT prog w h00 R A fm loc (led2 ++ live ad rdy po nf g) (.ref 210) [.x (ledHP w.params (.ref ad.S) (frz ad g))] Φ := by
  refine CallT.defX (led1 := live ad rdy po nf g) (args' := [.x (ledHP w.params (.ref ad.S) (frz ad g))]) ["self"] G.X G.T (Nat.lt_trans hA.d (by decide)) rfl (by kernel_rfl) rfl rfl (Binds.plain fun vals hv => ?_) (by decide) rfl (by decide) (fun L hid => ?_)
  · match vals, hv with
    | [a], _ => rfl
  · have hA' : ∀ env, Roomy 41 403 (A.deeper env) := fun _ => hA.deeper
    generalize hfd : fmX _ L 210 hid (fm.env.locals :: fm.outs) = fm1
    subst hfd
    have nd := n2iE_nodup (ad := ad) hg
    have mS : (ad.S, AO.inst 220 ad.D) ∈ frz ad g := by simp [frz]
    have mN : (ad.N, AO.dict (n2iE ad g)) ∈ frz ad g := by simp [frz]
    have mD : (ad.D, AO.dict (sorE ad.N rdy po nf)) ∈ live ad rdy po nf g := by simp [live]
    refine TS.cons (TX.assign rfl (.inl rfl) (TE.pe (PE.tell (y := "self") (L' := [(ad.N, .dict (n2iE ad g))]) (PE.attrG (PE.ledName (PE.name rfl)) (getS G (Has.ofLoc (y := "self") rfl mS) (Has.ofLed mD) rfl Handed.ref)) rfl (fun p hp => by rw [List.mem_singleton.mp hp]; exact mN)) ?_))
    refine TS.cons (TX.assign rfl (.inl rfl) (TE.display (as := []) PEs.nil (by decide) fun a1 n1 => ?_))
    refine TS.cons (TX.assign rfl (.inl rfl) (TE.display (as := []) PEs.nil (by decide) fun a2 n2 => ?_))
    refine TS.cons (TX.assign rfl (.inl rfl) (TE.set0 (PE.built0 G (by kernel_rfl) (by kernel_rfl) (by decide)) fun a3 n3 => ?_))
    refine TS.cons (TX.assign rfl (.inl rfl) (TE.dict0 G fun a4 n4 sys4 => ?_))
    refine TS.cons (TX.for rfl (.inl rfl) (PE.name rfl) (IterP.dictKeys (hA' _).h (List.mem_singleton.mpr rfl) nd hs)
      (fun i l d => ∃ seen, d = fcLed ad ⟨a1, a2, a3, a4⟩ [] seen (live ad rdy po nf g) ∧ cycFrom g ((names g).drop i) seen = some res ∧ Hold l (fcLoc w.params ad g ⟨a1, a2, a3, a4⟩)) ⟨[], rfl, hres, ?_⟩ (fun hid i y l d hx iv => ?_) (fun l d iv => ?_))
    · intro p hp
      simp only [fcLoc, List.mem_cons, List.not_mem_nil, or_false] at hp
      rcases hp with rfl | rfl | rfl | rfl | rfl | rfl <;> rfl
    · obtain ⟨seen, rfl, hc, hl⟩ := iv
      rw [List.getElem?_map] at hx
      obtain ⟨p, hp, rfl⟩ := Option.map_eq_some_iff.mp hx
      unfold n2iE at hp
      rw [List.getElem?_map] at hp
      obtain ⟨n, hn, rfl⟩ := Option.map_eq_some_iff.mp hp
      have hnm : (names g)[i]? = some n.nm := by unfold names; rw [List.getElem?_map, hn]; rfl
      have hi := item_nat hnm
      rw [List.drop_eq_getElem_cons hi, show (names g)[i] = n.nm from (List.getElem?_eq_some_iff.mp hnm).2] at hc
      unfold cycFrom at hc
      have hz : ¬ 50 < seen.length := fun h => by rw [if_pos h] at hc; cases hc
      rw [if_neg hz] at hc
      obtain ⟨m1, m2, m3, m4⟩ := cn_mem (X := []) (c := ⟨a1, a2, a3, a4⟩) (tl := live ad rdy po nf g) (b := []) (qs := []) (seen := seen) (n2s := [])
      refine TS.cons (TX.if (b := decide (n.nm ∈ seen)) (PT.to (PT.inSet (k := S n.nm) (PE.name rfl) (PE.name (by exact (hl.get (x := "seen") (by simp [fcLoc])))) m3 (by rw [List.length_map]; omega)) (by rw [decide_eq_decide]; exact mem_S)) (fun h => ?_) (fun h => ?_))
      · have h := of_decide_eq_true h
        rw [if_pos h] at hc
        exact TS.cons (TX.cont ⟨seen, rfl, hc, hl.over node_fresh⟩)
      · have h := of_decide_eq_false h
        rw [if_neg h] at hc
        cases hsr : search g 64 n.nm [] seen with
        | none => rw [hsr] at hc; cases hc
        | some r0 =>
        rw [hsr] at hc
        refine TS.nil (TS.cons (TX.while (fun m l d => ∃ node fs seen, search g m node (mir fs) seen = some r0 ∧ d = fcLed ad ⟨a1, a2, a3, a4⟩ fs seen (live ad rdy po nf g) ∧ Hold l (("node", .d (strD node)) :: fcLoc w.params ad g ⟨a1, a2, a3, a4⟩)) 64 ⟨n.nm, [], seen, hsr, rfl, hl.cons node_fresh⟩ (fun m l d iv => ⟨true, PT.cTrue, fun _ => ?_, noTF⟩)))
        clear hsr m1 m2 m3 m4 hl h hz hn hnm hi
        obtain ⟨node, fs, seen1, hsr, rfl, hl⟩ := iv
        cases m with
        | zero => cases hsr
        | succ m =>
        unfold search turn at hsr
        by_cases q0 : 50 < seen1.length ∨ 50 < (mir fs).length ∨ ¬ (bottom (mir fs)).Nodup
        · rw [if_pos q0] at hsr; cases hsr
        rw [if_neg q0] at hsr
        simp only [not_or, Nat.not_lt, Classical.not_not] at q0
        obtain ⟨z1, z2, z3⟩ := q0
        have z2' : fs.length ≤ 50 := by simpa [mir] using z2
        have z4 : (bottom (mir fs)).length ≤ 50 := by simpa [bottom, mir] using z2
        have hl' := hl.tail
        have n2nd : ((n2sE (bottom (mir fs))).map (·.1)).Nodup := by rw [n2sE_names]; exact nodup_S z3
        obtain ⟨m1, m2, m3, m4⟩ := cn_mem (X := frLed ad fs) (c := ⟨a1, a2, a3, a4⟩) (tl := live ad rdy po nf g) (b := bottom (mir fs)) (qs := (fs.map (·.q)).reverse) (seen := seen1) (n2s := n2sE (bottom (mir fs)))
        refine TS.cons (TX.mono (Φ := fun af l d => (∃ fs2 seen2, af = .next ∧ d = fcLed ad ⟨a1, a2, a3, a4⟩ fs2 seen2 (live ad rdy po nf g) ∧ Hold l (fcLoc w.params ad g ⟨a1, a2, a3, a4⟩) ∧ (bottom (mir fs2)).Nodup ∧ fs2.length ≤ 51 ∧
          (match after g seen2 (mir fs2) with | .odd => none | .found r => some (.inl r) | .stop seen => some (.inr seen) | .go x stk seen => search g m x stk seen) = some r0) ∨ (∃ r, af = .ret (ringAV (some r)) ∧ r0 = .inl r ∧ d = live ad rdy po nf g)) ?_ ?_)
        · refine TX.if (b := decide (node ∈ seen1)) (PT.to (PT.inSet (k := S node) (PE.name (by exact hl.get (x := "node") (by simp))) (PE.name (by exact (hl'.get (x := "seen") (by simp [fcLoc])))) m3 (by rw [List.length_map]; omega)) (by rw [decide_eq_decide]; exact mem_S)) (fun h => ?_) (fun h => ?_)
          · have h := of_decide_eq_true h
            rw [if_pos h] at hsr
            refine TS.cons (TX.if (b := decide (node ∈ bottom (mir fs))) (PT.to (PT.inDict (k := S node) (PE.name (by exact hl.get (x := "node") (by simp))) (PE.name (by exact (hl'.get (x := "node2stacki") (by simp [fcLoc])))) (Has.ofLed m4) n2nd sys4) (by rw [n2sE, n2sE_look 0]; split <;> simp [*])) (fun h2 => ?_) (fun h2 => ?_))
            · have h2 := of_decide_eq_true h2
              rw [if_pos h2] at hsr
              have e0 := Option.some.inj hsr
              have hix : (bottom (mir fs)).idxOf node ≤ (bottom (mir fs)).length := List.idxOf_le_length
              refine TS.cons (TX.retDrop (TE.pe (PE.mono (b := ringAV (some ((bottom (mir fs)).drop ((bottom (mir fs)).idxOf node) ++ [node]))) (PE.bin (PE.mono (b := .d (.list (((bottom (mir fs)).drop ((bottom (mir fs)).idxOf node)).map strD))) (PE.cutLed (i := some ((bottom (mir fs)).idxOf node : Nat)) (j := none) (c := none) (PE.name (by exact (hl'.get (x := "stack") (by simp [fcLoc])))) (PE.itemDict (k := S node) (PE.name (by exact (hl'.get (x := "node2stacki") (by simp [fcLoc])))) (PE.name (by exact hl.get (x := "node") (by simp))) (Has.ofLed m4) n2nd (by rw [n2sE, n2sE_look 0, if_pos h2]; rfl)) trivial trivial nofun m1 (by rw [words_len]; have := line_big; omega)) (fun B v r => d_of_lst (by rw [cut_words hix] at r; exact r)))
                (PE.displayD (ds := [strD node]) (PEs.cons (PE.name (by exact hl.get (x := "node") (by simp))) PEs.nil) (show 1 ≤ sizeLine by decide)) (Op2.addLists (by rw [List.length_map, List.length_drop]; have := line_big; simp; omega))) (fun B v r => d_of_lst (by rw [List.map_append] at r ⊢; simpa using r))) ⟨live ad rdy po nf g, ?_, .inr ⟨_, rfl, e0.symm, rfl⟩⟩))
              exact (List.sublist_append_right _ _).trans (List.sublist_append_right _ _)
            · have h2 := of_decide_eq_false h2
              rw [if_neg h2] at hsr
              exact TS.nil (TS.nil (.inl ⟨fs, seen1, rfl, rfl, hl', z3, by omega, hsr⟩))
          · have h := of_decide_eq_false h
            rw [if_neg h] at hsr
            by_cases q1 : node ∈ names g ∧ node ∉ bottom (mir fs)
            · rw [if_pos q1] at hsr
              obtain ⟨n2, hn2, rfl⟩ := name_mem q1.1
              obtain ⟨fl, fb⟩ := frz_node (ad := ad) hn2
              have hstack : l.lookup ("stack" : Str) = some (.raw (.ref a1)) := hl'.get (by simp [fcLoc])
              have hnode : l.lookup ("node" : Str) = some (.d (strD n2.nm)) := hl.get (by simp)
              have hn2i : l.lookup ("n2i" : Str) = some (.x (ledHP w.params (.ref ad.N) [(ad.N, .dict (n2iE ad g))])) := hl'.get (by simp [fcLoc])
              have hself : l.lookup ("self" : Str) = some (.x (ledHP w.params (.ref ad.S) (frz ad g))) := hl'.get (by simp [fcLoc])
              have hloo : (n2iE ad g).lookup (S n2.nm) = some (.raw (.ref (ad.a n2.nm))) := by rw [n2iE_look, if_pos q1.1]
              refine TS.cons (TX.nodup fun ndq => TX.expr (TE.methB (PE.name (by exact (hl'.get (x := "seen") (by simp [fcLoc])))) (MethX.set m3 (by rw [List.length_map]; omega)) rfl (PEs.cons (PE.name (by exact hl.get (x := "node") (by simp))) PEs.nil) (CallT.setAdd (k := S n2.nm) m3 (by rw [List.length_map]; omega) ⟨rfl, ?_⟩)))
              have hN := ndC_of ndq
              rw [show seen1.map S ++ [S n2.nm] = (seen1 ++ [n2.nm]).map S by rw [List.map_append]; rfl]
              unfold fcLed
              rw [cn_upd3 (c := ⟨a1, a2, a3, a4⟩) hN]
              obtain ⟨m1, m2, m3, m4⟩ := cn_mem (X := frLed ad fs) (c := ⟨a1, a2, a3, a4⟩) (tl := live ad rdy po nf g) (b := bottom (mir fs)) (qs := (fs.map (·.q)).reverse) (seen := seen1 ++ [n2.nm]) (n2s := n2sE (bottom (mir fs)))
              refine TS.cons (TX.expr (TE.methE (PE.name (by exact (hl'.get (x := "itstack") (by simp [fcLoc])))) (MethX.list m2 F.slot_list_append F.type_list_append) rfl (TE.iterNext (PE.built0 G (by kernel_rfl) (by kernel_rfl) (by decide)) (PE.attrG (PE.itemDict (k := S n2.nm) (PE.ledName (PE.name (by exact hn2i))) (PE.name (by exact hl.get (x := "node") (by simp))) (Has.ofLoc hself mN) nd hloo) (getSu G (Has.ofLed (tl_mem (live_node hn2))) (Has.ofLoc hself fb) rfl Handed.ref)) (Has.ofLoc hself fl) fun q it => CallT.nodup fun nd2 => CallT.append (List.mem_cons_of_mem _ (List.mem_cons_of_mem _ m2)) ?_ ⟨rfl, ?_⟩)))
              · rw [List.length_map, List.length_reverse, List.length_map]; have := line_big; omega
              have hN2 : NdC (frLed ad (⟨n2.nm, 0, q, it⟩ :: fs)) ⟨a1, a2, a3, a4⟩ (live ad rdy po nf g) := ndC_of (X := frLed ad (⟨n2.nm, 0, q, it⟩ :: fs)) nd2
              rw [show (((fs.map (·.q)).reverse.map fun q => AV.raw (.ref q)) ++ [AV.raw (.ref q)]) = (((⟨n2.nm, 0, q, it⟩ : Fr) :: fs).map (·.q)).reverse.map (fun q => AV.raw (.ref q)) by simp]
              rw [show upd ((q, AO.bnext it) :: (it, AO.liter (ad.l n2.nm) 0) :: (frLed ad fs ++ (cnLed ⟨a1, a2, a3, a4⟩ (bottom (mir fs)) (fs.map (·.q)).reverse (seen1 ++ [n2.nm]) (n2sE (bottom (mir fs))) ++ live ad rdy po nf g))) a2 (.list ((((⟨n2.nm, 0, q, it⟩ : Fr) :: fs).map (·.q)).reverse.map fun q => AV.raw (.ref q)))
                = frLed ad (⟨n2.nm, 0, q, it⟩ :: fs) ++ (cnLed ⟨a1, a2, a3, a4⟩ (bottom (mir fs)) (((⟨n2.nm, 0, q, it⟩ : Fr) :: fs).map (·.q)).reverse (seen1 ++ [n2.nm]) (n2sE (bottom (mir fs))) ++ live ad rdy po nf g) from cn_upd2 (X := frLed ad (⟨n2.nm, 0, q, it⟩ :: fs)) (c := ⟨a1, a2, a3, a4⟩) hN2]
              obtain ⟨m1, m2, m3, m4⟩ := cn_mem (X := frLed ad (⟨n2.nm, 0, q, it⟩ :: fs)) (c := ⟨a1, a2, a3, a4⟩) (tl := live ad rdy po nf g) (b := bottom (mir fs)) (qs := (((⟨n2.nm, 0, q, it⟩ : Fr) :: fs).map (·.q)).reverse) (seen := seen1 ++ [n2.nm]) (n2s := n2sE (bottom (mir fs)))
              have hlen : (n2sE (bottom (mir fs))).length ≤ 1000 := by unfold n2sE; rw [List.length_map, List.length_zipIdx]; omega
              refine TS.cons (TX.setItem (k := S n2.nm) (TE.pe (PE.lenLed (PE.built0 G (by kernel_rfl) (by kernel_rfl) (by decide)) (PE.name (by exact (hl'.get (x := "stack") (by simp [fcLoc])))) (Has.ofLed m1) (by rw [words_len]; omega)) ⟨PE.name (by exact (hl'.get (x := "node2stacki") (by simp [fcLoc]))), PE.name (by exact hl.get (x := "node") (by simp)), _, m4, n2nd, hlen, ?_⟩))
              rw [words_len, n2sE_snoc q1.2, cn_upd4 (c := ⟨a1, a2, a3, a4⟩) hN2]
              obtain ⟨m1, m2, m3, m4⟩ := cn_mem (X := frLed ad (⟨n2.nm, 0, q, it⟩ :: fs)) (c := ⟨a1, a2, a3, a4⟩) (tl := live ad rdy po nf g) (b := bottom (mir fs)) (qs := (((⟨n2.nm, 0, q, it⟩ : Fr) :: fs).map (·.q)).reverse) (seen := seen1 ++ [n2.nm]) (n2s := n2sE (bottom (mir fs) ++ [n2.nm]))
              refine TS.cons (TX.expr (TE.methB (PE.name (by exact hstack)) (MethX.list m1 F.slot_list_append F.type_list_append) rfl (PEs.cons (PE.name (by exact hnode)) PEs.nil) (CallT.append m1 (by rw [words_len]; have := line_big; omega) ⟨rfl, TS.nil (.inl ⟨⟨n2.nm, 0, q, it⟩ :: fs, seen1 ++ [n2.nm], rfl, ?_, hl', ?_, by simp; omega, hsr⟩)⟩)))
              · rw [words_snoc, cn_upd1 (c := ⟨a1, a2, a3, a4⟩) hN2, bottom_cons]
              · rw [bottom_cons]
                exact List.nodup_append.mpr ⟨z3, by simp, fun a ha b hb e => q1.2 (by simp at hb; rw [← hb, ← e]; exact ha)⟩
            · rw [if_neg q1] at hsr; cases hsr
        · rintro af l2 d2 (⟨fs2, seen2, rfl, rfl, hl2, y1, y2, y3⟩ | ⟨r, rfl, rfl, rfl⟩)
          · refine TS.cons (TX.while (fun kk l d => ∃ fs3, kk = fs3.length ∧ d = fcLed ad ⟨a1, a2, a3, a4⟩ fs3 seen2 (live ad rdy po nf g) ∧ Hold l (fcLoc w.params ad g ⟨a1, a2, a3, a4⟩) ∧ (bottom (mir fs3)).Nodup ∧ fs3.length ≤ 51 ∧ after g seen2 (mir fs3) = after g seen2 (mir fs2)) fs2.length ⟨fs2, rfl, rfl, hl2, y1, y2, rfl⟩ (fun kk l d iv => ?_))
            obtain ⟨fs3, rfl, rfl, hl3, x1, x2, x3⟩ := iv
            rw [← x3] at y3
            have hstack : l.lookup ("stack" : Str) = some (.raw (.ref a1)) := hl3.get (by simp [fcLoc])
            have hitst : l.lookup ("itstack" : Str) = some (.raw (.ref a2)) := hl3.get (by simp [fcLoc])
            have hn2s : l.lookup ("node2stacki" : Str) = some (.raw (.ref a4)) := hl3.get (by simp [fcLoc])
            have hself : l.lookup ("self" : Str) = some (.x (ledHP w.params (.ref ad.S) (frz ad g))) := hl3.get (by simp [fcLoc])
            obtain ⟨m1, m2, m3, m4⟩ := cn_mem (X := frLed ad fs3) (c := ⟨a1, a2, a3, a4⟩) (tl := live ad rdy po nf g) (b := bottom (mir fs3)) (qs := (fs3.map (·.q)).reverse) (seen := seen2) (n2s := n2sE (bottom (mir fs3)))
            have bl : (bottom (mir fs3)).length = fs3.length := by simp [bottom, mir]
            refine ⟨_, PT.list (PE.name (by exact hstack)) m1 (by rw [words_len]; have := line_big; omega), fun hb => ?_, fun hb => ?_⟩
            · cases fs3 with
              | nil => simp [bottom, mir, wordsAV] at hb
              | cons f rest =>
              unfold after at y3
              rw [show mir (f :: rest) = (f.nm, f.i) :: mir rest from rfl] at y3
              unfold climb at y3
              cases hsu : sucs g f.nm with
              | none => rw [hsu] at y3; cases y3
              | some su =>
              rw [hsu] at y3
              dsimp only at y3
              obtain ⟨n2, hn2, e1, rfl⟩ := sucs_some hsu
              obtain ⟨fl, fb⟩ := frz_node (ad := ad) hn2
              rw [e1] at fl
              have rl : rest.length ≤ 50 := by simpa using x2
              refine TS.cons (TX.nodup fun ndq => TX.tryNext (i := f.i) (xs := wordsAV n2.su) rfl (.inl rfl) (hA' _).h (HF.deeper (hid := hid) (by decide)).hid (PE.itemLed (j := rest.length) (PE.name (by exact hitst)) (PE.neg PE.cInt) m2 (.inl ⟨by decide, by simp; omega, by simp; omega⟩) (by simp) (by simp; omega)) (List.mem_cons_self ..) (List.mem_cons_of_mem _ (List.mem_cons_self ..)) (Has.ofLoc hself fl) (fun a ha => ?_) (fun hx e => ⟨PE.built0 G (by kernel_rfl) (by kernel_rfl) (by decide), ?_⟩))
              · unfold wordsAV at ha
                rw [List.getElem?_map] at ha
                obtain ⟨x, hx, rfl⟩ := Option.map_eq_some_iff.mp ha
                rw [hx] at y3
                refine TS.nil ⟨m, Nat.lt_succ_self _, x, { f with i := f.i + 1 } :: rest, seen2, y3, ?_, hl3.cons node_fresh⟩
                exact fr_upd ndq
              · have hx' : n2.su[f.i]? = none := by
                  unfold wordsAV at hx
                  rw [List.getElem?_map] at hx
                  simpa using hx
                rw [hx'] at y3
                dsimp only at y3
                by_cases qq : f.nm ∈ (mir rest).map (·.1)
                · rw [if_pos qq] at y3; cases y3
                rw [if_neg qq] at y3
                have hN : NdC ((f.q, .bnext f.it) :: (f.it, .dead) :: frLed ad rest) ⟨a1, a2, a3, a4⟩ (live ad rdy po nf g) := ndC_of (X := frLed ad (f :: rest)) ndq
                have qq' : f.nm ∉ bottom (mir rest) := by unfold bottom; rw [List.mem_reverse]; exact qq
                have bl' : (bottom (mir rest)).length = rest.length := by simp [bottom, mir]
                have x1' : (bottom (mir rest)).Nodup := by rw [bottom_cons] at x1; exact (List.nodup_append.mp x1).1
                unfold fcLed
                rw [fr_dead ndq]
                obtain ⟨m1, m2, m3, m4⟩ := cn_mem (X := (f.q, AO.bnext f.it) :: (f.it, .dead) :: frLed ad rest) (c := ⟨a1, a2, a3, a4⟩) (tl := live ad rdy po nf g) (b := bottom (mir (f :: rest))) (qs := ((f :: rest).map (·.q)).reverse) (seen := seen2) (n2s := n2sE (bottom (mir (f :: rest))))
                have m1' := m1
                rw [show wordsAV (bottom (mir (f :: rest))) = wordsAV (bottom (mir rest)) ++ [.d (strD f.nm)] by rw [bottom_cons, words_snoc]] at m1'
                refine TS.cons (TX.delItem (a := a4) (PE.name (by exact hn2s)) (TE.methB0 (PE.name (by exact hstack)) (MethX.list m1 F.slot_list_pop F.type_list_pop) rfl (CallT.pop m1' (by rw [words_len]; have := line_big; omega) ?_)))
                rw [cn_upd1 (c := ⟨a1, a2, a3, a4⟩) hN]
                obtain ⟨m1, m2, m3, m4⟩ := cn_mem (X := (f.q, AO.bnext f.it) :: (f.it, .dead) :: frLed ad rest) (c := ⟨a1, a2, a3, a4⟩) (tl := live ad rdy po nf g) (b := bottom (mir rest)) (qs := ((f :: rest).map (·.q)).reverse) (seen := seen2) (n2s := n2sE (bottom (mir (f :: rest))))
                refine ⟨S f.nm, n2sE (bottom (mir (f :: rest))), rfl, m4, by rw [n2sE_names]; exact nodup_S x1, by unfold n2sE; rw [List.length_map, List.length_zipIdx, bl]; simp; omega, by rw [n2sE_names, bottom_cons]; exact mem_S.mpr (by simp), ?_⟩
                rw [bottom_cons, n2sE_del qq', cn_upd4 (c := ⟨a1, a2, a3, a4⟩) hN]
                obtain ⟨m1, m2, m3, m4⟩ := cn_mem (X := (f.q, AO.bnext f.it) :: (f.it, .dead) :: frLed ad rest) (c := ⟨a1, a2, a3, a4⟩) (tl := live ad rdy po nf g) (b := bottom (mir rest)) (qs := ((f :: rest).map (·.q)).reverse) (seen := seen2) (n2s := n2sE (bottom (mir rest)))
                have m2' := m2
                rw [show ((f :: rest).map (·.q)).reverse.map (fun q => AV.raw (.ref q)) = (rest.map (·.q)).reverse.map (fun q => AV.raw (.ref q)) ++ [.raw (.ref f.q)] by simp] at m2'
                refine TS.cons (TX.exprAny (TE.methB0 (PE.name (by exact hitst)) (MethX.list m2 F.slot_list_pop F.type_list_pop) rfl (CallT.pop m2' (by simp; have := line_big; omega) ?_)))
                rw [cn_upd2 (c := ⟨a1, a2, a3, a4⟩) hN]
                refine TS.drop (led' := fcLed ad ⟨a1, a2, a3, a4⟩ rest seen2 (live ad rdy po nf g)) ?_ (TS.nil (TS.nil ⟨rest.length, Nat.lt_succ_self _, rest, rfl, rfl, hl3, x1', by omega, ?_⟩))
                · exact .cons _ (.cons _ (List.Sublist.refl _))
                · rw [← x3]
                  unfold after
                  rw [show climb g (mir (f :: rest)) = climb g (mir rest) from ?_]
                  rw [show mir (f :: rest) = (f.nm, f.i) :: mir rest from rfl]
                  conv => lhs; unfold climb
                  rw [hsu]; dsimp only; rw [hx']; dsimp only; rw [if_neg qq]
            · cases fs3 with
              | cons f rest => simp [bottom, mir, wordsAV] at hb
              | nil =>
              refine TS.cons (TX.brk ?_)
              have e0 := Option.some.inj y3
              subst e0
              exact TS.nil ⟨seen2, rfl, hc, hl3⟩
          · cases hc
            exact ⟨_, k, .inl rfl⟩
    · obtain ⟨seen, rfl, hc, hl⟩ := iv
      rw [List.length_map, show (n2iE ad g).length = (names g).length by simp [n2iE, names], List.drop_length] at hc
      cases hc
      refine TS.drop (led' := live ad rdy po nf g) ?_ (TS.cons (TX.ret (TE.pe PE.cNone ⟨_, k, .inl rfl⟩)))
      exact List.sublist_append_right _ _
end
end Mine
end
section
open PySem PySem.Spec PySem.Calls PyProof.Rows PySem.W PySem.SeqAt PySem.Builtin PySem.Builtin.Str
set_option maxRecDepth 100000
set_option linter.unusedVariables false
set_option autoImplicit false
namespace Mine
section
variable {prog : Program} {w : World} {h00 : Heap} {R : Shared} {A : Around} {fm : Fm} {loc : Loc} {led : Led}
/-- the caller's state, when a callee has done what it does -/
theorem St.back {P : Params} {s s3 : Shared} {led1 led2 led' : Led} (D : St P h00 R fm loc (led2 ++ led1) s)
    (kk : ∀ b o, s.heap.get? b = some o → b ∉ led1.map (·.1) → b ≠ fm.env.locals → b ∉ fm.outs → s3.heap.get? b = some o)
    (kt : ∀ b o, s.heap.get? b = some o → b = fm.env.locals ∨ b ∈ fm.outs → ∃ sl, s3.heap.get? b = some { o with slots := sl })
    (newl : ∀ a ∈ led'.map (·.1), a ∈ led1.map (·.1) ∨ s.heap.get? a = none) (ndl : (led'.map (·.1)).Nodup)
    (ld' : ∀ p ∈ led', ∃ o, s3.heap.get? p.1 = some o ∧ OR P (vis fm (led2 ++ led') s3.heap) p.2 o) (hg : s3.gens = R.gens) (hd : s3.drawn = R.drawn) (ho : s3.os = R.os) :
    St P h00 R fm loc (led2 ++ led') s3 ∧ Step fm (led2 ++ led1) (led2 ++ led') s s3 := by
  have ndm : (led2.map (·.1) ++ led1.map (·.1)).Nodup := by have := (List.nodup_append.mp (List.nodup_cons.mp D.nd).2).2.1; rwa [List.map_append] at this
  have th : ∀ a ∈ away fm (led2 ++ led1), ∃ o, s.heap.get? a = some o := D.bs.there
  have nof : ∀ {a : Addr} {P : Prop}, s.heap.get? a = none → (∃ o, s.heap.get? a = some o) → P := fun {a P} e ⟨o, h⟩ => by rw [e] at h; cases h
  have m2 : ∀ a ∈ led2.map (·.1), a ∈ (led2 ++ led1).map (·.1) := fun a h => by rw [List.map_append]; exact List.mem_append_left _ h
  have m1 : ∀ a ∈ led1.map (·.1), a ∈ (led2 ++ led1).map (·.1) := fun a h => by rw [List.map_append]; exact List.mem_append_right _ h
  have n21 : ∀ a ∈ led2.map (·.1), a ∉ led1.map (·.1) := fun a h h' => (List.nodup_append.mp ndm).2.2 a h a h' rfl
  have a1 : ∀ a ∈ led1.map (·.1), a ≠ fm.env.locals ∧ a ∉ fm.own := fun a h => D.off a (m1 a h)
  have nd2 : ∀ a ∈ led2.map (·.1), a ∉ led'.map (·.1) := fun a h h' => by
    rcases newl a h' with q | q
    · exact n21 a h q
    · exact nof q (th a (away_mem.mpr (.inr (.inr (.inl (m2 a h))))))
  have offn : ∀ a ∈ led'.map (·.1), a ≠ fm.env.locals ∧ a ∉ fm.own := fun a ha => by
    rcases newl a ha with q | q
    · exact a1 a q
    · exact ⟨fun h => nof q (th a (away_mem.mpr (.inl h))), fun h => nof q (th a (away_mem.mpr (.inr (.inl h))))⟩
  have ky : ∀ b o, s.heap.get? b = some o → b ∉ led1.map (·.1) → ∃ sl, s3.heap.get? b = some { o with slots := sl } := fun b o e h => by
    by_cases q : b = fm.env.locals ∨ b ∈ fm.outs
    · exact kt b o e q
    · exact ⟨o.slots, kk b o e h (fun z => q (.inl z)) fun z => q (.inr z)⟩
  have S : Step fm (led2 ++ led1) (led2 ++ led') s s3 := by
    refine ⟨fun b o e h1 _ h h2 => kk b o e (fun h' => h (m1 b h')) h1 h2, fun a ha => ?_, fun a ha => ?_, fun a ha => ⟨(D.fr a ha).1, fun o e => kt a o e (.inr ha)⟩⟩
    · rw [List.map_append] at ha
      rcases List.mem_append.mp ha with h | h
      · exact .inl (m2 a h)
      · rcases newl a h with q | q
        · exact .inl (m1 a q)
        · exact .inr q
    · rw [List.map_append] at ha
      rcases List.mem_append.mp ha with h | h
      · exact D.off a (m2 a h)
      · exact offn a h
  have vv := S.ext
  refine ⟨⟨D.base.trans vv, ?_, fun y av e l => ?_, fun p hp => ?_, ?_, fun c hc => ?_, fun a ha => ?_, hg, hd, ho, fun a ha h => ?_, fun a ha => ?_⟩, S⟩
  · obtain ⟨m, ⟨o, es, ep, ho, r⟩, h2⟩ := D.ns
    obtain ⟨sl, hs⟩ := kt _ o ho (.inl rfl)
    exact ⟨m, ⟨_, es, ep, hs, r⟩, fun y av e l => by obtain ⟨v, hv, hr⟩ := h2 y av e l; exact ⟨v, hv, hr.mono vv⟩⟩
  · obtain ⟨c, v, hc, ⟨o, ho, hd⟩, hr⟩ := D.cel y av e l
    have nl : c ∉ led1.map (·.1) := fun h => by
      obtain ⟨p, hp, rfl⟩ := List.mem_map.mp h
      obtain ⟨o', ho', hr'⟩ := D.ld p (List.mem_append_right _ hp)
      rw [ho] at ho'; cases ho'
      exact OR.nocell hr' _ hd
    obtain ⟨sl, hs⟩ := ky c o ho nl
    exact ⟨c, v, hc, ⟨_, hs, hd⟩, hr.mono vv⟩
  · rcases List.mem_append.mp hp with hp | hp
    · obtain ⟨o, ho, hr⟩ := D.ld p (List.mem_append_left _ hp)
      exact ⟨o, kk _ _ ho (n21 _ (List.mem_map_of_mem hp)) (D.off _ (m2 _ (List.mem_map_of_mem hp))).1 (fun q => D.dis _ (m2 _ (List.mem_map_of_mem hp)) (D.fr _ q).1), hr.mono vv⟩
    · exact ld' p hp
  · have z := List.nodup_cons.mp D.nd
    have y := List.nodup_append.mp z.2
    refine List.nodup_cons.mpr ⟨fun h => ?_, List.nodup_append.mpr ⟨y.1, ?_, fun a ha b hb e => ?_⟩⟩
    · rcases List.mem_append.mp h with h | h
      · exact z.1 (List.mem_append_left _ h)
      · rw [List.map_append] at h
        rcases List.mem_append.mp h with h | h
        · exact (D.off _ (m2 _ h)).1 rfl
        · exact (offn _ h).1 rfl
    · rw [List.map_append]
      exact List.nodup_append.mpr ⟨(List.nodup_append.mp ndm).1, ndl, fun a ha b hb e => nd2 a ha (e ▸ hb)⟩
    · rw [List.map_append] at hb
      rcases List.mem_append.mp hb with h | h
      · exact (D.off _ (m2 _ h)).2 (e ▸ ha)
      · exact (offn _ h).2 (e ▸ ha)
  · obtain ⟨v, o, h, hd⟩ := D.own c hc
    obtain ⟨sl, hs⟩ := ky c o h fun q => (a1 _ q).2 hc
    exact ⟨v, _, hs, hd⟩
  · obtain ⟨o, h⟩ := D.low a ha
    obtain ⟨sl, hs⟩ := ky a o h fun q => D.dis a (m1 a q) ha
    exact ⟨_, hs⟩
  · rw [List.map_append] at ha
    rcases List.mem_append.mp ha with q | q
    · exact D.dis a (m2 a q) h
    · rcases newl a q with z | z
      · exact D.dis a (m1 a z) h
      · exact nof z (D.low a h)
  · obtain ⟨h1, h2, h3, o, ho, hd⟩ := D.fr a ha
    obtain ⟨sl, hs⟩ := kt a o ho (.inr ha)
    exact ⟨h1, h2, h3, _, hs, hd⟩
variable (prog w h00 R A fm loc led) in
/-- statements that end by raising the text's own exception C -/
noncomputable def TR (C : Addr) (ss : List Stmt) (Φ : Led → Prop) : Prop := ∀ s, St w.params h00 R fm loc led s → ∀ (Q : Flow → Shared → Prop) (E : Value → Shared → Prop),
  (∀ s2 loc' d h' e vs, Step fm led d s s2 → St w.params h00 R fm loc' d s2 → Φ d → Heap.MadeExcOf s2.heap h' e (.ref C) vs → E (.ref e) { s2 with heap := h' }) → wpAny (model prog w) A (execs ss fm.env) Q E s
theorem TR.cons {C : Addr} {st : Stmt} {ss : List Stmt} {Φ : Led → Prop} (h : TX prog w h00 R A fm loc led st fun af l1 d1 => af = .next ∧ TR prog w h00 R A fm l1 d1 C ss Φ) : TR prog w h00 R A fm loc led C (st :: ss) Φ := fun s D Q E k =>
  wpAny_execs_cons (h s D _ _ fun fl s1 af l1 d1 x D1 r p => by
    obtain ⟨rfl, p⟩ := p
    cases r
    exact p s1 D1 _ _ fun s2 l2 d h' e vs S2 D2 hΦ hx => k s2 l2 d h' e vs (x.trans S2) D2 hΦ hx)
theorem TR.nodup {C : Addr} {ss : List Stmt} {Φ : Led → Prop} (h : (led.map (·.1)).Nodup → TR prog w h00 R A fm loc led C ss Φ) : TR prog w h00 R A fm loc led C ss Φ := fun s D Q E q => h D.ledNd s D Q E q
theorem TR.if {C : Addr} {test : Expr} {body orelse ss : List Stmt} {pos : Pos} {Φ : Led → Prop} (ht : PT prog w h00 R A fm loc led test true) (h : TR prog w h00 R A fm loc led C body Φ) : TR prog w h00 R A fm loc led C (.If test body orelse pos :: ss) Φ := fun s D Q E k =>
  wpAny_execs_cons (wpAny_If (ht s D _ _ fun h1 t1 k1 => h _ (D.quiet (tk := t1) k1) _ _ fun s2 l2 d h' e vs S2 D2 hΦ hx => k s2 l2 d h' e vs (D.step k1 S2) D2 hΦ hx))
theorem TR.raise {C : Addr} {x : Str} {np cpos pos : Pos} {e0 : Expr} {rest : List Expr} {ss : List Stmt} {as : List AV} {B newId initId : String} {bm : List Value} {Φ : Led → Prop} (G : Top0 w.params h00) (ex : nsIn (KK w.params) mainGlobals x = some (some (.ref C))) (q : excIn (KK w.params) C bm newId = true) (FB : ExcBaseFacts B newId initId bm) (hh : A.handled = none)
    (ha : PEs prog w h00 R A fm loc led (e0 :: rest) as) (hz : as.length ≤ sizeLine) (fin : Φ led)
    (hn : PE prog w h00 R A fm loc led (.Name x np) (.raw (.ref C)))
    (he : starEach (e0 :: rest) fm.env = (false, eval e0 fm.env) :: starEach rest fm.env := by rfl)
    (hplain : (backTo cpos (starEach rest fm.env)).any (·.1) = false := by rfl) :
    TR prog w h00 R A fm loc led C (.Raise (some (.Call (.Name x np) (e0 :: rest) [] cpos)) none pos :: ss) Φ := fun s D Q E k => by
  obtain ⟨X, p, loose, mg, mb, T⟩ := G
  obtain ⟨tl, N, nm, q', bs, hdct, sn, sub, ab, col, dd, k0, k1', k2', k3', k5, mN, hC, hN, hni, TL⟩ := (own_of_in X T ex q).obj
  refine wpAny_execs_cons (wpAny_Raise_call_subT (C := C) (nm := nm) (q := q') (N := N) (bs := bs) (bm := tl) (hdct := hdct) (sn := sn) (sub := sub) (ab := ab) (col := col) (dd := dd) (k0 := k0) (k1 := k1') (k2 := k2') (k3 := k3') (k5 := k5)
    FB (mN := mN) (TL.hasType FB.hasBase) hh (by rw [he]; show (false || (backTo cpos (starEach rest fm.env)).any (·.1)) = false; rw [hplain]; rfl) hni (hn s D _ _ fun f h1 t1 k1 r1 => ?_))
  cases r1
  refine ⟨rfl, ?_⟩
  have D1 := D.quiet (tk := t1) k1
  have key : wpAny (model prog w) A (spliced (backTo cpos (starEach (e0 :: rest) fm.env))) (fun vs s₂ => vs.length ≤ sizeLine ∧ s₂.heap.get? C = some (excClassObj nm q' C N bs tl hdct sn sub ab col dd k0 k1' k2' k3' k5 newId) ∧ s₂.heap.Ns N mN ∧ OwnTail s₂.heap bm tl ∧
      ∀ h' e, Heap.MadeExcOf s₂.heap h' e (.ref C) vs → E (.ref e) { s₂ with heap := h' }) E { s with heap := h1, toks := t1 } := by
    refine ha cpos _ D1 _ _ fun vs h2 t2 k2 r2 => ?_
    have D2 := D1.quiet (tk := t2) k2
    have up : Ext h00 h2 := D2.base.trans hide_le
    exact ⟨by rw [r2.len]; exact hz, up _ _ hC, hN.keeps up, TL.keeps up, fun h' e hx => k _ _ _ h' e vs (D.step k1 (Step.quiet D1 k2)) D2 fin hx⟩
  rw [he] at key ⊢
  exact evalArgs_plain (wpAny_mono key (fun vs s₂ h₂ => ⟨rfl, h₂⟩) fun _ _ y => y)
end
end Mine
end
section
open PySem PySem.Spec PySem.Calls PyProof.Rows PySem.W PySem.SeqAt PySem.Builtin PySem.Builtin.Str
set_option maxRecDepth 100000
set_option linter.unusedVariables false
set_option autoImplicit false
namespace Mine
section
variable {prog : Program} {w : World} {h00 : Heap} {R : Shared} {A : Around} {fm : Fm} {loc : Loc} {led : Led}
set_option maxHeartbeats 1000000 in
/-- try: o.m()  except C: .. , where m raises C -/
theorem TX.tryCall {f C : Addr} {fd : FuncData} {oc : Value} {od : Option Addr} {osl : Array (Option Value)} {body : List Stmt} {nms : List Str} {args' : List AV} {led1 led2 : Led} {Φ : AF → Loc → Led → Prop} {Ψ : Led → Prop}
    {o : Expr} {name x : Str} {apos cp ep np hp pos : Pos} {b0 : Stmt} {suite : List Stmt} {u : Value} {Lf : Led} {pl : Sem Bool} {B newId initId : String} {bm : List Value}
    (G : Top0 w.params h00) (hroom : A.depth < recursionLimit) (hh : A.handled = none) (HF : FrOk A fm)
    (ho : (KK w.params).lookup f = some ⟨oc, od, .func fd, osl⟩) (hcd : codeIn (KK w.params) fd.code fd.qualname = true) (hbody : fd.body = .stmts body) (hclo : fd.closure = [])
    (hbind : Binds prog w (KK w.params) fd [.x (ledHP w.params u Lf)] args' nms) (hnd : nms.Nodup)
    (hkind : (nms.all fun x => fd.scope.names.lookup x == some .local || fd.scope.names.lookup x == some .cell) = true)
    (hown : ((cellsFrom 0 fd.scope.names []).map (·.1)).Nodup)
    (hkf : keepIn (KK w.params) (.ref f) = true)
    (hO : PE prog w h00 R A fm loc (led2 ++ led1) o (.x (ledHP w.params u Lf))) (hm : MethX prog w h00 R A fm loc (led2 ++ led1) u name (.ref f) [u])
    (hb : ∀ L hid, TR prog w h00 R (A.deeper (callEnvC fd L f)) (fmX fd L f hid (fm.env.locals :: fm.outs)) (nms.zip args') led1 C body Ψ)
    (ex : nsIn (KK w.params) mainGlobals x = some (some (.ref C))) (q : excIn (KK w.params) C bm newId = true) (FB : ExcBaseFacts B newId initId bm)
    (hn : ∀ d e, PE prog w h00 R (A.mark (some (.ref e))) fm loc (led2 ++ d) (.Name x np) (.raw (.ref C)))
    (hs : ∀ d, Ψ d → ∀ e, TS prog w h00 R (A.mark (some (.ref e))) fm loc (led2 ++ d) (b0 :: suite) Φ)
    (he : eval (.Call (.Attribute o name apos) [] [] cp) fm.env = (do
      let ov ← eval o fm.env
      standAt apos.atName
      let (f, first) ← holding [ov] (getMethod ov name pl)
      callWith cp f first (backTo cp (starEach [] fm.env)) []) := by rfl)
    (hi : interactive fm.env = false := by rfl) (hsw : swapsWith (.Call (.Attribute o name apos) [] [] cp) none ep.line fm.env = pure false := by rfl)
    (hco : fd.scope.isCoroutine = false := by rfl) (hgen : fd.scope.isGenerator = false := by rfl) (hk : fd.scope.kind = .function := by rfl) :
    TX prog w h00 R A fm loc (led2 ++ led1) (.Try [.Expr (.Call (.Attribute o name apos) [] [] cp) ep] [.ExceptHandler (some (.Name x np)) none (b0 :: suite) hp] [] [] pos) Φ := fun s D Q E k => by
  obtain ⟨X, p, loose, mg, mb, T⟩ := G
  refine wpAny_Try_except (wpAny_execs_cons (wpAny_Expr_any (MethodCall_ (pl := pl) (hO s D _ _ fun v h1 t1 k1 r1 => ?_) he) hi hsw))
  obtain ⟨rfl, rL⟩ := r1
  refine hm _ (D.quiet k1) pl _ _ fun t1' => ?_
  have D1 : St w.params h00 R fm loc (led2 ++ led1) { s with heap := h1, toks := t1' } := D.quiet k1
  refine callWith_K0 (K := KK w.params) (first := [v]) (D1.K X) hkf ?_
  have rv : VRs (vis fm (led2 ++ led1) h1) [.x (ledHP w.params v Lf)] ([v] ++ []) := .cons ⟨rfl, rL⟩ .nil
  -- the call's own setting
  have hX : ∀ b, b ∈ led1.map (·.1) ++ (fm.env.locals :: (fm.own ++ (led2.map (·.1) ++ fm.hid))) ↔ b ∈ away fm (led2 ++ led1) := fun b => by
    rw [away_mem, List.map_append]; simp only [List.mem_append, List.mem_cons]; constructor
    · rintro (q | q | q | q | q)
      · exact .inr (.inr (.inl (.inr q)))
      · exact .inl q
      · exact .inr (.inl q)
      · exact .inr (.inr (.inl (.inl q)))
      · exact .inr (.inr (.inr q))
    · rintro (q | q | (q | q) | q)
      · exact .inr (.inl q)
      · exact .inr (.inr (.inl q))
      · exact .inr (.inr (.inr (.inl q)))
      · exact .inl q
      · exact .inr (.inr (.inr (.inr q)))
  have vX : Ext (vis fm (led2 ++ led1) h1) (hideAll h1 (led1.map (·.1) ++ (fm.env.locals :: (fm.own ++ (led2.map (·.1) ++ fm.hid))))) := fun b o e => hideAll_get _ (hide_le _ _ e) fun h => hide_none e ((hX b).mp h)
  have vX' : Ext (vis fm (led2 ++ led1) h1) (hideAll h1 (fm.env.locals :: (fm.own ++ (led2.map (·.1) ++ fm.hid)))) := fun b o e => hideAll_get _ (hide_le _ _ e) fun h => hide_none e ((hX b).mp (List.mem_append_right _ h))
  have ndm : (led2.map (·.1) ++ led1.map (·.1)).Nodup := by have := (List.nodup_append.mp (List.nodup_cons.mp D1.nd).2).2.1; rwa [List.map_append] at this
  have Bb : Bs h00 R (fm.env.locals :: (fm.own ++ (led2.map (·.1) ++ fm.hid))) { s with heap := h1, toks := t1' } := ⟨D1.base.trans vX', fun x hx => D1.bs.there x ((hX x).mp (List.mem_append_right _ hx)), D1.gens, D1.drawn, D1.os⟩
  have a1 : ∀ a ∈ led1.map (·.1), a ≠ fm.env.locals ∧ a ∉ fm.own := fun a h => D1.off a (by rw [List.map_append]; exact List.mem_append_right _ h)
  have nsd : ∃ o, h1.get? fm.env.locals = some o ∧ ∀ vs, o.data ≠ .fields vs := by
    obtain ⟨m, ⟨o, es, ep, ho, hd, _⟩, _⟩ := D1.ns
    exact ⟨o, ho, fun vs q => by rw [hd] at q; cases q⟩
  have hOuts : ∀ a ∈ fm.env.locals :: fm.outs, a ∈ fm.env.locals :: (fm.own ++ (led2.map (·.1) ++ fm.hid)) ∧ ∃ o, h1.get? a = some o ∧ ∀ vs, o.data ≠ .fields vs := fun a ha => by
    rcases List.mem_cons.mp ha with rfl | ha
    · exact ⟨List.mem_cons_self, nsd⟩
    · obtain ⟨h1, _, _, h4⟩ := D1.fr a ha
      exact ⟨List.mem_cons_of_mem _ (List.mem_append_right _ (List.mem_append_right _ h1)), h4⟩
  refine wpAny_call (enter_defX (R := R) X T ho hcd hroom hbody hclo hbind hnd (kind_of hkind) (own_of hown) Bb led1 (fun a ha h => ?_) (fun p hp => ?_) (List.nodup_append.mp ndm).2.1 (rv.mono vX) (D1.base.trans vX) hOuts (fun L s1 Dp kp nL nO => ?_) hco hgen hk)
  · rcases List.mem_cons.mp h with q | q
    · exact (a1 a ha).1 q
    · rcases List.mem_append.mp q with q | q
      · exact (a1 a ha).2 q
      · rcases List.mem_append.mp q with q | q
        · exact (List.nodup_append.mp ndm).2.2 a q a ha rfl
        · exact D1.dis a (by rw [List.map_append]; exact List.mem_append_right _ ha) q
  · obtain ⟨o, h, r⟩ := D1.ld p (List.mem_append_right _ hp)
    exact ⟨o, h, r.mono vX⟩
  -- the body raises
  refine hb _ _ s1 Dp _ _ fun s2 l2 d h' e vs Sx D2 hΨ hx => ?_
  have HFp : FrOk (A.deeper (callEnvC fd L f)) (fmX fd L f (fm.env.locals :: (fm.own ++ (led2.map (·.1) ++ fm.hid))) (fm.env.locals :: fm.outs)) := HF.deeper (by rw [hk]; decide)
  obtain ⟨outer, hfr, hFun, hin⟩ := D2.frames HFp
  obtain ⟨outerC, hfrC, hall⟩ := HF.ex
  have eo : outer = fm.env :: outerC := by
    have := hfr.symm.trans (Around.frames_deeper (env := callEnvC fd L f) hfrC)
    exact (List.cons.inj (Option.some.inj this)).2
  subst eo
  have hkb : (baseOf (fmX fd L f (fm.env.locals :: (fm.own ++ (led2.map (·.1) ++ fm.hid))) (fm.env.locals :: fm.outs)) s2.heap).StaysIn s2.heap := fun b o e => of_hideAll _ e
  refine wpAny_leaves_madeW hfr rfl hkb hFun hx (fun h3 t fl3 tup3 tn3 up3 => ?_)
  show wpAny (model prog w) A (noteFrame (.ref e) fm.env) _ E _
  refine wpAny_looks_onW hfrC HF.own fl3 fun h4 held4 up4 => ?_
  refine wpAny_landsW held4 fun h5 fl5 up5 => ?_
  have ups : s2.heap.UpToSlots h5 := (Heap.UpToSlots.of_keeps hx.keeps).trans (up3.trans (up4.trans up5))
  -- the caller's state at any heap that comes of it
  have caller : ∀ (hz : Heap) (tk : Nat), (baseOf (fmX fd L f (fm.env.locals :: (fm.own ++ (led2.map (·.1) ++ fm.hid))) (fm.env.locals :: fm.outs)) s2.heap).StaysIn hz → s2.heap.UpToSlots hz →
      St w.params h00 R fm loc (led2 ++ d) { s2 with heap := hz, toks := tk } ∧ Step fm (led2 ++ led1) (led2 ++ d) { s with heap := h1, toks := t1' } { s2 with heap := hz, toks := tk } := fun hz tk sb us => by
    have inB : ∀ b o, s2.heap.get? b = some o → b ≠ L → b ∉ fm.env.locals :: fm.outs → hz.get? b = some o := fun b o e1 n1 n2 => sb b o (hideAll_get _ e1 fun h => by
      rcases List.mem_cons.mp h with z | z
      · exact n1 z
      · exact n2 z)
    have toS2 : ∀ b o, h1.get? b = some o → b ∉ led1.map (·.1) → b ∉ fm.env.locals :: fm.outs → s2.heap.get? b = some o := fun b o e1 n1 n2 =>
      Sx.keep b o (kp b o e1) (fun q => by rw [show b = L from q, nL] at e1; cases e1) (fun q => by rw [nO b q] at e1; cases e1) n1 n2
    have nLb : ∀ b o, h1.get? b = some o → b ≠ L := fun b o e1 q => by rw [q, nL] at e1; cases e1
    have nf : ∀ b o, h1.get? b = some o → b = fm.env.locals ∨ b ∈ fm.outs → ∀ vs, o.data ≠ .fields vs := fun b o e1 q => by
      obtain ⟨_, o', e', hd'⟩ := hOuts b (List.mem_cons.mpr q)
      rw [e1] at e'; cases e'; exact hd'
    refine D1.back (fun b o e1 n1 n2 n3 => ?_) (fun b o e1 q => ?_) (fun a ha => ?_) D2.ledNd (fun p hp => ?_) D2.gens D2.drawn D2.os
    · have n4 : b ∉ fm.env.locals :: fm.outs := fun h => (List.mem_cons.mp h).elim n2 n3
      exact inB b o (toS2 b o e1 n1 n4) (nLb b o e1) n4
    · obtain ⟨sl, z1⟩ := (Sx.turn b (List.mem_cons.mpr q)).2 o (kp b o e1)
      obtain ⟨sl', z2⟩ := us b _ z1 (nf b o e1 q)
      exact ⟨sl', z2⟩
    · rcases Sx.new a ha with z | z
      · exact .inl z
      · refine .inr ?_
        cases e1 : h1.get? a with
        | none => rfl
        | some o => have := kp a o e1; rw [z] at this; cases this
    · obtain ⟨o, e1, r⟩ := D2.ld p hp
      have hmp := List.mem_map_of_mem (f := (·.1)) hp
      have n1 := (D2.off _ hmp).1
      have n2 : p.1 ∉ fm.env.locals :: fm.outs := fun h => D2.dis _ hmp (D2.fr _ h).1
      refine ⟨o, inB _ _ e1 n1 n2, r.mono fun b ob eb => ?_⟩
      have nb := hide_none eb
      rw [away_mem] at nb
      simp only [not_or] at nb
      refine hideAll_get _ (inB b ob (hide_le _ _ eb) nb.1 fun h => nb.2.2.2 (D2.fr b h).1) fun hm => ?_
      rcases away_mem.mp hm with z | z | z | z
      · exact nb.2.2.2 (z ▸ List.mem_cons_self)
      · exact nb.2.2.2 (List.mem_cons_of_mem _ (List.mem_append_left _ z))
      · rw [List.map_append] at z
        rcases List.mem_append.mp z with z | z
        · exact nb.2.2.2 (List.mem_cons_of_mem _ (List.mem_append_right _ (List.mem_append_left _ z)))
        · exact nb.2.2.1 z
      · exact nb.2.2.2 (List.mem_cons_of_mem _ (List.mem_append_right _ (List.mem_append_right _ z)))
  obtain ⟨D5, S5⟩ := caller h5 s2.toks fl5.1 ups
  refine wpAny_handleBy_cons (codeAny_handlers_test (hn d e _ D5 _ _ fun c h6 t6 k6 r6 => ?_)) (by intro z; cases z)
  cases r6
  have D6 := D5.quiet (tk := t6) k6
  obtain ⟨tl, N, nm, q', bs, hdct, sn, sub, ab, col, dd, k0, k1', k2', k3', k5, mN, hC, hN, hni, TL⟩ := (own_of_in X T ex q).obj
  have hC6 := (D6.base.trans hide_le) _ _ hC
  have fl6 : Heap.FlyingW (baseOf (fmX fd L f (fm.env.locals :: (fm.own ++ (led2.map (·.1) ++ fm.hid))) (fm.env.locals :: fm.outs)) s2.heap) (fm.env :: outerC) e (.ref C) (.ref t) h6 := by
    obtain ⟨f1, f2, f3, oe, vs', T', oT, ts, g1, g2, g3, g4, g5, g6, g7, g8, g9⟩ := fl5
    exact ⟨fun b o z => k6 _ _ (f1 b o z), f2, f3.of_keeps fun b o z _ => ⟨o, k6 _ _ z, rfl⟩, oe, vs', T', oT, ts, k6 _ _ g1, g2, g3, g4, g5, g6, k6 _ _ g7, g8, g9⟩
  obtain ⟨ob, hob, hobc⟩ := fl6.there
  refine wpAny_excMatches_sub_self hC6 hob hobc (TL.hasType FB.hasBase) (codeAny_handlers_suite ?_)
  refine lands_againW fl6 fun h7 fl7 up7 => ?_
  obtain ⟨D7, S7⟩ := caller h7 t6 fl7.1 ((ups.trans (Heap.UpToSlots.of_keeps k6)).trans up7)
  exact hs d hΨ e _ D7 _ _ fun fl s8 af l8 d8 S8 D8 r8 p8 => k fl s8 af l8 d8 ((D.step k1 S7).trans S8) D8 r8 p8
end
end Mine
end
section
open PySem PySem.Spec PySem.Calls PyProof.Rows PySem.W PySem.SeqAt PySem.Builtin PySem.Builtin.Str
set_option maxRecDepth 100000
set_option linter.unusedVariables false
set_option autoImplicit false
namespace Mine
theorem words_any {B B' : Heap} : ∀ {l : List (List Nat)} {vs : List Value} {as : List Addr}, ReadsAll B vs (l.map strD) as → VRs B' (wordsAV l) vs
  | [], _, _, .nil => .nil
  | x :: l, _, _, .cons r rs => by
    cases r with
    | str y t => exact .cons vr_str (words_any rs)
section
variable {prog : Program} {w : World} {h00 : Heap} {R : Shared} {A : Around} {fm : Fm} {loc : Loc} {led : Led}
theorem St.addR {P : Params} {s : Shared} {a : Addr} {ao : AO} {h' : Heap} {tk : Nat} {o' : Obj} (D : St P h00 R fm loc led s) (na : s.heap.get? a = none) (k : Ext s.heap h') (g : h'.get? a = some o') (r : ∀ B, OR P B ao o') :
    St P h00 R fm loc ((a, ao) :: led) { s with heap := h', toks := tk } ∧ Step fm led ((a, ao) :: led) s { s with heap := h', toks := tk } := D.add na k g (r _)
/-- a comprehension of words, whose list will change -/
theorem TE.compN {elt iter : Expr} {x : Str} {px : Pos} {ifs : List Expr} {scope : Scope} {pos : Pos} {cl : List (Str × Addr)} {av : AV} {α : Type} {xs : List α} {g : α → AV} {Φ : AV → Loc → Led → Prop} (F : α → List (List Nat)) (cap : Loc)
    (he : PE prog w h00 R A fm loc led iter av)
    (hi : IterP prog w h00 R A av (xs.map g)) (hlen : (xs.flatMap F).length ≤ sizeLine)
    (turn : ∀ C hid, ∀ a ∈ xs, ∃ b, PIfs prog w A h00 R (compFm fm scope cl C hid) ((x, g a) :: cap) led ifs b ∧ (b = false → F a = []) ∧ (b = true → ∃ y, F a = [y] ∧ PE prog w h00 R A (compFm fm scope cl C hid) ((x, g a) :: cap) led elt (.d (strD y))))
    (hcap : Caps fm loc scope cl cap) (k : ∀ a, Φ (.raw (.ref a)) loc ((a, .list (wordsAV (xs.flatMap F))) :: led))
    (hclos : closureFor scope fm.env = pure cl := by rfl)
    (hx : (∀ C hid, Stores (compFm fm scope cl C hid) x) ∨ (scope.names.lookup x = some .cell ∧ ((cellsFrom 0 scope.names []).map (·.1)).Nodup) := by first | exact .inl fun _ _ => .inl rfl | exact .inr ⟨rfl, by decide⟩) 
    (hxc : cap.lookup x = none := by rfl) (hkind : scope.kind = .function := by rfl) (hnames : ∀ y ∈ scope.names, y.2 = .local → scope.names.lookup y.1 = some .local := by decide)
    (hs : ∀ x, foldedSetIterable iter fm.env x = pure x := by intro _; rfl) :
    TE prog w h00 R A fm loc led (.ListComp elt [⟨.Name x px, iter, ifs, 0⟩] scope pos) Φ := fun s D Q E q => by
  rw [eval_ListComp]
  refine wpAny_comprehension_free (use := none) rfl hs hclos hkind hnames (he s D _ _ fun v h1 t1 k1 r1 => ?_)
  refine comp_core (F := fun a => (F a).map strD) (emit := fun env => emitOne elt env) (cap := cap) (fun _ => LoopRule.one) hkind hx hi (by rw [show (xs.flatMap fun a => (F a).map strD) = (xs.flatMap F).map strD from flat_map F strD xs, List.length_map]; exact hlen) hxc hcap (fun C hid a ha => by
    obtain ⟨b, h1, h2, h3⟩ := turn C hid a ha
    exact ⟨b, h1, fun z => by rw [h2 z]; rfl, fun z => by obtain ⟨y, e, h⟩ := h3 z; rw [e]; exact .one h⟩) (D.quiet (tk := t1) k1) r1 fun C Dd h' tk B vs n as kk nC nD hne hn e r hB hout => ?_
  rw [show (xs.flatMap fun a => (F a).map strD) = (xs.flatMap F).map strD from flat_map F strD xs] at r
  obtain ⟨m, hm⟩ := hn
  refine ⟨m, hm, fun h'' hs'' => ?_⟩
  have kC : ∀ b o, b ≠ C → h'.get? b = some o → h''.get? b = some o := fun b o hb e => (hs''.2 b hb).trans e
  have k'' : Ext h1 h'' := fun b o e => kC b o (fun q => by rw [q] at e; rw [show ({ s with heap := h1, toks := t1 } : Shared).heap.get? C = h1.get? C from rfl] at nC; rw [nC] at e; cases e) (kk b o e)
  have D1 := D.quiet (tk := t1) k1
  obtain ⟨D2, S2⟩ := D1.addR (ao := .list (wordsAV (xs.flatMap F))) (tk := tk) nD k'' (kC Dd _ hne.symm e) (fun B' => ⟨vs, n, rfl, words_any r⟩)
  exact q _ _ (.raw (.ref Dd)) _ _ (D.step k1 S2) D2 rfl (k Dd)
/-- a method of the text's own, of a told object, called -/
theorem TE.methKL {K : Frag} {o : Expr} {name : Str} {apos pos : Pos} {f u : Value} {L : Led} {Φ : AV → Loc → Led → Prop} {pl : Sem Bool} (X : K.In h00) (hk : keepIn K f = true) (ho : PE prog w h00 R A fm loc led o (.x (ledHP w.params u L)))
    (hm : MethX prog w h00 R A fm loc led u name f [u]) (hc : CallT prog w h00 R A fm loc led f [.x (ledHP w.params u L)] fun a d => Φ a loc d)
    (he : eval (.Call (.Attribute o name apos) [] [] pos) fm.env = (do
      let ov ← eval o fm.env
      standAt apos.atName
      let (f, first) ← holding [ov] (getMethod ov name pl)
      callWith pos f first (backTo pos (starEach [] fm.env)) []) := by rfl) :
    TE prog w h00 R A fm loc led (.Call (.Attribute o name apos) [] [] pos) Φ := fun s D Q E k => by
  refine MethodCall_ (pl := pl) (ho s D _ _ fun v h1 t1 k1 r1 => ?_) he
  obtain ⟨rfl, rL⟩ := r1
  refine hm _ (D.quiet k1) pl _ _ fun t1' => ?_
  have D1 : St w.params h00 R fm loc led { s with heap := h1, toks := t1' } := D.quiet k1
  refine callWith_K0 (K := K) (first := [v]) (D1.K X) hk ?_
  exact hc _ D1 _ (.cons ⟨rfl, rL⟩ .nil) _ _ fun v s' av d x D3 r3 p => k v s' av loc d (D.step k1 x) D3 r3 p
theorem PE.joined {e : Expr} {pos : Pos} {a : AV} (h : PE prog w h00 R A fm loc led e a) : PE prog w h00 R A fm loc led (.JoinedStr [e] pos) a := fun s D Q E k => wpAny_JoinedStr_one (h s D Q E k)
theorem PT.none {e : Expr} (h : PE prog w h00 R A fm loc led e (.d .none)) (he : ∀ whole, isTrue e fm.env whole = (do let v ← whole; standAt e.pos; holding [v] (truthy v)) := by intro _; rfl) : PT prog w h00 R A fm loc led e false := fun s D Q E k =>
  wpAny_isTrue_value (h s D _ _ fun v h1 t1 k1 r1 => by
    obtain ⟨as, r1⟩ := r1
    cases r1
    exact truthy_none (k h1 t1 k1)) (he _)
theorem PT.told {e : Expr} {ds : List PyData} (h : PE prog w h00 R A fm loc led e (.d (.list ds))) (hz : ds.length ≤ 1000) (he : ∀ whole, isTrue e fm.env whole = (do let v ← whole; standAt e.pos; holding [v] (truthy v)) := by intro _; rfl) : PT prog w h00 R A fm loc led e (!ds.isEmpty) := fun s D Q E k =>
  wpAny_isTrue_value (h s D _ _ fun v h1 t1 k1 r1 => by
    obtain ⟨a, o, vs, n, rfl, e1, hc, hd, rr⟩ := lst_of_d r1
    have hlen : vs.length = ds.length := by rw [rr.len]; simp
    refine wpAny_truthy_list (items := vs.toArray) ⟨_, hide_le _ _ e1, hc, n, hd⟩ ?_ ?_
    · rw [List.size_toArray, hlen]; omega
    · have : vs.toArray.isEmpty = ds.isEmpty := by cases ds <;> cases vs <;> simp_all
      rw [this]
      exact k h1 _ k1) (he _)
/-- try: .. , where nothing is raised -/
theorem TX.tryNo {body : List Stmt} {h0 : ExceptHandler} {hs : List ExceptHandler} {pos : Pos} {Φ : AF → Loc → Led → Prop} (h : TS prog w h00 R A fm loc led body Φ) : TX prog w h00 R A fm loc led (.Try body (h0 :: hs) [] [] pos) Φ := fun s D Q E k =>
  wpAny_Try_except (h s D _ _ fun fl s1 af l1 d1 x D1 r p => by
    have z := k fl s1 af l1 d1 x D1 r p
    cases fl <;> first | exact wpAny_execs_nil z | exact z)
end
end Mine
end
section
open PySem PySem.Spec PySem.Calls PyProof.Rows PySem.W PySem.SeqAt PySem.Builtin PySem.Builtin.Str
set_option maxRecDepth 100000
set_option linter.unusedVariables false
set_option autoImplicit false
namespace Mine
noncomputable def readyOf (g : List Nd) : List (List Nat) := g.flatMap fun n => if n.np = 0 then [n.nm] else []
noncomputable def live1 (ad : Ad) (r : Addr) (rdy : List (List Nat)) (po nf : Int) (g : List Nd) : Led := (r, .list (wordsAV rdy)) :: live ad (.raw (.ref r)) po nf g
noncomputable def infoAV (P : Params) (ad : Ad) (n : Nd) : AV := .x (ledHP P (.ref (ad.a n.nm)) [(ad.b n.nm, .dict [])])
noncomputable def n2iR (P : Params) (ad : Ad) (g : List Nd) : List (Str × AV) := g.map fun n => (S n.nm, infoAV P ad n)
theorem n2iR_names {P : Params} {ad : Ad} {g : List Nd} : (n2iR P ad g).map (·.1) = (n2iE ad g).map (·.1) := by unfold n2iR n2iE; rw [List.map_map, List.map_map]; rfl
theorem entsR {P : Params} {B : Heap} {ad : Ad} : ∀ {g : List Nd} {l : List DictEntry}, EntsAre P B (n2iE ad g) l → (∀ n ∈ g, ∃ o, B.get? (ad.b n.nm) = some o ∧ OR P B (.dict []) o) → EntsAre P B (n2iR P ad g) l
  | [], _, h, _ => by
    unfold n2iE at h; unfold n2iR
    cases h; exact .nil
  | n :: g, _, h, k => by
    unfold n2iE at h
    rw [List.map_cons] at h
    cases h with
    | cons r rs =>
      cases r
      exact .cons ⟨rfl, fun p hp => by rw [List.mem_singleton.mp hp]; exact k n List.mem_cons_self⟩ (entsR (g := g) rs fun m hm => k m (List.mem_cons_of_mem _ hm))
theorem readyOf_len (g : List Nd) : (readyOf g).length ≤ g.length := by
  unfold readyOf
  induction g with
  | nil => exact Nat.le_refl _
  | cons n g ih =>
    rw [List.flatMap_cons, List.length_append, List.length_cons]
    have : (if n.np = 0 then [n.nm] else []).length ≤ 1 := by split <;> simp
    omega
section
variable {prog : Program} {w : World} {h00 : Heap} {R : Shared} {A : Around} {fm : Fm} {loc : Loc} {led : Led} {ad : Ad} {g : List Nd} {rdy : AV} {po nf : Int}
theorem PE.tellR {e : Expr} {y : Str} (h : PE prog w h00 R A fm loc led e (.raw (.ref ad.N))) (hl : loc.lookup y = some (.x (ledHP w.params (.ref ad.S) (frz ad g)))) : PE prog w h00 R A fm loc led e (.x (ledHP w.params (.ref ad.N) [(ad.N, .dict (n2iR w.params ad g))])) := fun s D Q E q =>
  h s D Q E fun v h' tk k r => by
    cases r
    obtain ⟨v0, r0⟩ := (D.quiet (tk := tk) k).told hl
    refine q _ h' tk k ⟨rfl, fun p hp => ?_⟩
    rw [List.mem_singleton.mp hp]
    obtain ⟨o, ho, l, n, rfl, E⟩ := r0.2 (ad.N, .dict (n2iE ad g)) (by simp [frz])
    exact ⟨_, ho, l, n, rfl, entsR E fun m hm => r0.2 (ad.b m.nm, .dict []) (frz_node hm).2⟩
theorem iter_infos (hh : A.handled = none) (hg : (names g).Nodup) : IterP prog w h00 R A (.x (valsHP w.params ad.N (n2iR w.params ad g))) (g.map (infoAV w.params ad)) := by
  have := IterP.vals (prog := prog) (w := w) (h00 := h00) (R := R) (a := ad.N) (es := n2iR w.params ad g) hh (by rw [n2iR_names]; exact n2iE_nodup hg)
  rwa [show (n2iR w.params ad g).map (·.2) = g.map (infoAV w.params ad) by unfold n2iR; rw [List.map_map]; rfl] at this
theorem live1_upd {r : Addr} {l : List (List Nat)} {rdy rdy' : AV} {po nf po' nf' : Int} {es : List (Str × AV)} (nd : (((r, AO.list (wordsAV l)) :: live ad rdy po nf g).map (·.1)).Nodup) (he : es = sorE ad.N rdy' po' nf') : upd ((r, AO.list (wordsAV l)) :: live ad rdy po nf g) ad.D (.dict es) = (r, AO.list (wordsAV l)) :: live ad rdy' po' nf' g := by
  subst he
  unfold live at nd ⊢
  exact upd_mid (pre := [(r, AO.list (wordsAV l))]) nd
set_option maxHeartbeats 2000000 in
theorem c_prepare (G : Top0 w.params h00) (hA : Roomy 39 390 A) (HF : FrOk A fm) (hs : (ad.N == sysModules) = false) (hg : (names g).Nodup) (hz : g.length ≤ 1000) (hres : cyc g = some none) {led2 : Led} {Φ : AV → Led → Prop}
    (k : ∀ r, Φ (.d .none) (led2 ++ live1 ad r (readyOf g) 0 0 g)) :
    CallT prog w h00 R A fm loc (led2 ++ live ad (.d .none) 0 0 g) (.ref 175) [.x (ledHP w.params (.ref ad.S) (frz ad g))] Φ := by
  refine CallT.defX (led1 := live ad (.d .none) 0 0 g) (args' := [.x (ledHP w.params (.ref ad.S) (frz ad g))]) ["self"] G.X G.T (Nat.lt_trans hA.d (by decide)) rfl (by kernel_rfl) rfl rfl (Binds.plain fun vals hv => ?_) (by decide) rfl (by decide) (fun L hid => ?_)
  · match vals, hv with
    | [a], _ => rfl
  · have hA' : ∀ env, Roomy 40 393 (A.deeper env) := fun _ => hA.deeper
    have mS : (ad.S, AO.inst 220 ad.D) ∈ frz ad g := by simp [frz]
    have mD : (ad.D, AO.dict (sorE ad.N (.d .none) 0 0)) ∈ live ad (.d .none) 0 0 g := by simp [live]
    have hlen : ((g.flatMap fun n => if n.np = 0 then [n.nm] else []).length) ≤ sizeLine := Nat.le_trans (readyOf_len g) (Nat.le_trans hz line_big)
    refine TS.cons (TX.if (b := false) (PT.to (PT.cmp (PE.attrG (PE.ledName (PE.name rfl)) (getS G (Has.ofLoc (y := "self") rfl mS) (Has.ofLed mD) rfl Handed.none)) PE.cNone (Op2.isNotNone none_none)) rfl) noFT fun _ => TS.nil ?_)
    refine TS.cons (TX.nodup fun nd => TX.setBy (TE.compN (xs := g) (g := infoAV w.params ad) (fun n => if n.np = 0 then [n.nm] else []) [] (PE.meth0 (id := "dict.values") (PE.tellR (g := g) (y := "self") (PE.attrG (PE.ledName (PE.name rfl)) (getS G (Has.ofLoc (y := "self") rfl mS) (Has.ofLed mD) rfl Handed.ref)) rfl) (MethP.ledDict (List.mem_singleton.mpr rfl) PySem.F.slot_dict_values PySem.F.type_dict_values) (CallP.values (List.mem_singleton.mpr rfl) (by rw [n2iR_names]; exact n2iE_nodup hg) hs)) ?_ hlen (fun C hid n hn => ⟨decide (n.np = 0), PIfs.one ?_, fun h => if_neg (of_decide_eq_false h), fun h => ⟨n.nm, if_pos (of_decide_eq_true h), ?_⟩⟩) Caps.nil fun r => ⟨ad.S, _, PE.ledName (PE.name rfl), setS G (Has.ofLoc (y := "self") rfl mS) (List.mem_cons_of_mem _ mD) (show 4 < 900 by decide), TS.nodup fun nd' => ?_⟩))
    · exact iter_infos (hA' _).h hg
    · exact PT.to (PT.cmp (PE.attrG (PE.ledName (PE.name rfl)) (getNp G (Has.ofLed (live_node hn)) (Has.ofLoc (y := "i") rfl (List.mem_singleton.mpr rfl)) rfl Handed.int)) PE.cInt (Op2.eq (shaped_int _) (shaped_int _) (Nat.lt_trans (Nat.add_lt_add_right (hA' _).u 64) (by decide)))) (by rw [eqv_int]; rfl)
    · exact PE.attrG (PE.ledName (PE.name rfl)) (getNode G (Has.ofLed (live_node hn)) (Has.ofLoc (y := "i") rfl (List.mem_singleton.mpr rfl)) rfl Handed.str)
    rw [upd_addrs] at nd'
    rw [live1_upd (es := putE "_ready_nodes" (.raw (.ref r)) (sorE ad.N (.d .none) 0 0)) (rdy' := .raw (.ref r)) (po' := 0) (nf' := 0) nd' rfl]
    have mD1 : (ad.D, AO.dict (sorE ad.N (.raw (.ref r)) 0 0)) ∈ (r, AO.list (wordsAV (readyOf g))) :: live ad (.raw (.ref r)) 0 0 g := by simp [live]
    refine TS.cons (TX.assign rfl (.inl rfl) (TE.methKL G.X (by kernel_rfl) (PE.name rfl) (MethX.instH G.X (Has.ofLoc (y := "self") rfl mS) (Has.ofLed mD1) rfl (by kernel_rfl) (by kernel_rfl) (by kernel_rfl)) (c_find (led2 := [(r, AO.list (wordsAV (readyOf g)))]) G (hA' _).le (HF.deeper (by decide)) hs hg hres ?_)))
    refine TS.cons (TX.if (PT.none (PE.name rfl)) noFT fun _ => TS.nil (TS.nil ⟨.d .none, k r, .inr ⟨rfl, rfl⟩⟩))
end
end Mine
end
section
open PySem PySem.Spec PySem.Calls PyProof.Rows PySem.W PySem.SeqAt PySem.Builtin PySem.Builtin.Str
set_option maxRecDepth 100000
set_option linter.unusedVariables false
set_option autoImplicit false
namespace Mine
section
variable {prog : Program} {w : World} {h00 : Heap} {R : Shared} {A : Around} {fm : Fm} {loc : Loc} {led : Led} {ad : Ad} {g : List Nd} {rdy : AV} {po nf : Int}
set_option maxHeartbeats 4000000 in
theorem c_refused (G : Top0 w.params h00) (hA : Roomy 30 300 A) (HF : FrOk A fm) (hs : (ad.N == sysModules) = false) (hg : (names g).Nodup) (hz : g.length ≤ 1000) {res : Option (List (List Nat))} (hres : cyc g = some res) (hring : ∀ r, res = some r → r ≠ [] ∧ r.length ≤ 1000) {led2 : Led} {Φ : AV → Led → Prop}
    (k : ∀ r, Φ (.d (.bool res.isSome)) (led2 ++ live1 ad r (readyOf g) 0 0 g)) :
    CallT prog w h00 R A fm loc (led2 ++ live ad (.d .none) 0 0 g) (.ref 248) [.x (ledHP w.params (.ref ad.S) (frz ad g))] Φ := by
  refine CallT.defX (led1 := live ad (.d .none) 0 0 g) (args' := [.x (ledHP w.params (.ref ad.S) (frz ad g))]) ["sorter"] G.X G.T (Nat.lt_trans hA.d (by decide)) rfl (by kernel_rfl) rfl rfl (Binds.plain fun vals hv => ?_) (by decide) rfl (by decide) (fun L hid => ?_)
  · match vals, hv with
    | [a], _ => rfl
  · have hA' : ∀ env, Roomy 31 303 (A.deeper env) := fun _ => hA.deeper
    have mS : (ad.S, AO.inst 220 ad.D) ∈ frz ad g := by simp [frz]
    have mN : (ad.N, AO.dict (n2iE ad g)) ∈ frz ad g := by simp [frz]
    have mD : (ad.D, AO.dict (sorE ad.N (.d .none) 0 0)) ∈ live ad (.d .none) 0 0 g := by simp [live]
    cases res with
    | none =>
      refine TS.cons (TX.tryNo (TS.cons (TX.expr (TE.methKL G.X (by kernel_rfl) (PE.name rfl) (MethX.instH G.X (Has.ofLoc (y := "sorter") rfl mS) (Has.ofLed mD) rfl (by kernel_rfl) (by kernel_rfl) (by kernel_rfl)) (c_prepare (led2 := []) G (hA' _).le (HF.deeper (by decide)) hs hg hz hres fun r => ⟨rfl, TS.nil ?_⟩)))))
      exact TS.cons (TX.ret (TE.pe PE.cBool ⟨_, k r, .inl rfl⟩))
    | some ring =>
      obtain ⟨hne, hrl⟩ := hring ring rfl
      refine TS.cons (TX.tryCall (led2 := []) (led1 := live ad (.d .none) 0 0 g) (f := 175) (C := 138) (args' := [.x (ledHP w.params (.ref ad.S) (frz ad g))]) (nms := ["self"]) (Ψ := fun d => ∃ r, d = live1 ad r (readyOf g) 0 0 g) G (Nat.lt_trans (hA' _).d (by decide)) (hA' _).h (HF.deeper (by decide)) rfl (by kernel_rfl) rfl rfl (Binds.plain fun vals hv => ?_) (by decide) rfl (by decide) (by kernel_rfl) (PE.name rfl)
        (MethX.instH G.X (Has.ofLoc (y := "sorter") rfl mS) (Has.ofLed mD) rfl (by kernel_rfl) (by kernel_rfl) (by kernel_rfl)) (fun L2 hid2 => ?_) (by kernel_rfl) (by kernel_rfl) PySem.F.excBase_ValueError (fun d e => PE.glob0 G (by kernel_rfl)) (fun d hd e => ?_))
      · match vals, hv with
        | [a], _ => rfl
      · have hA2 : ∀ env env', Roomy 32 306 ((A.deeper env).deeper env') := fun _ _ => (hA' _).deeper
        have hlen : ((g.flatMap fun n => if n.np = 0 then [n.nm] else []).length) ≤ sizeLine := Nat.le_trans (readyOf_len g) (Nat.le_trans hz line_big)
        refine TR.cons (TX.if (b := false) (PT.to (PT.cmp (PE.attrG (PE.ledName (PE.name rfl)) (getS G (Has.ofLoc (y := "self") rfl mS) (Has.ofLed mD) rfl Handed.none)) PE.cNone (Op2.isNotNone none_none)) rfl) noFT fun _ => TS.nil ⟨rfl, ?_⟩)
        refine TR.cons (TX.nodup fun nd => TX.setBy (TE.compN (xs := g) (g := infoAV w.params ad) (fun n => if n.np = 0 then [n.nm] else []) [] (PE.meth0 (id := "dict.values") (PE.tellR (g := g) (y := "self") (PE.attrG (PE.ledName (PE.name rfl)) (getS G (Has.ofLoc (y := "self") rfl mS) (Has.ofLed mD) rfl Handed.ref)) rfl) (MethP.ledDict (List.mem_singleton.mpr rfl) PySem.F.slot_dict_values PySem.F.type_dict_values) (CallP.values (List.mem_singleton.mpr rfl) (by rw [n2iR_names]; exact n2iE_nodup hg) hs)) ?_ hlen (fun C hid n hn => ⟨decide (n.np = 0), PIfs.one ?_, fun h => if_neg (of_decide_eq_false h), fun h => ⟨n.nm, if_pos (of_decide_eq_true h), ?_⟩⟩) Caps.nil fun r => ⟨ad.S, _, PE.ledName (PE.name rfl), setS G (Has.ofLoc (y := "self") rfl mS) (List.mem_cons_of_mem _ mD) (show 4 < 900 by decide), rfl, ?_⟩))
        · exact iter_infos (hA2 _ _).h hg
        · exact PT.to (PT.cmp (PE.attrG (PE.ledName (PE.name rfl)) (getNp G (Has.ofLed (live_node hn)) (Has.ofLoc (y := "i") rfl (List.mem_singleton.mpr rfl)) rfl Handed.int)) PE.cInt (Op2.eq (shaped_int _) (shaped_int _) (Nat.lt_trans (Nat.add_lt_add_right (hA2 _ _).u 64) (by decide)))) (by rw [eqv_int]; rfl)
        · exact PE.attrG (PE.ledName (PE.name rfl)) (getNode G (Has.ofLed (live_node hn)) (Has.ofLoc (y := "i") rfl (List.mem_singleton.mpr rfl)) rfl Handed.str)
        refine TR.nodup fun nd' => ?_
        rw [upd_addrs] at nd'
        rw [live1_upd (es := putE "_ready_nodes" (.raw (.ref r)) (sorE ad.N (.d .none) 0 0)) (rdy' := .raw (.ref r)) (po' := 0) (nf' := 0) nd' rfl]
        have mD1 : (ad.D, AO.dict (sorE ad.N (.raw (.ref r)) 0 0)) ∈ (r, AO.list (wordsAV (readyOf g))) :: live ad (.raw (.ref r)) 0 0 g := by simp [live]
        refine TR.cons (TX.assign rfl (.inl rfl) (TE.methKL G.X (by kernel_rfl) (PE.name rfl) (MethX.instH G.X (Has.ofLoc (y := "self") rfl mS) (Has.ofLed mD1) rfl (by kernel_rfl) (by kernel_rfl) (by kernel_rfl)) (c_find (led2 := [(r, AO.list (wordsAV (readyOf g)))]) G (hA2 _ _).le ((HF.deeper (by decide)).deeper (by decide)) hs hg hres ⟨rfl, ?_⟩)))
        refine TR.if (PT.to (PT.told (ds := ring.map strD) (PE.name rfl) (by rw [List.length_map]; exact hrl)) (by cases ring with | nil => exact absurd rfl hne | cons a l => rfl)) ?_
        exact TR.raise G (by kernel_rfl) (by kernel_rfl) PySem.F.excBase_ValueError (hA2 _ _).h (PEs.cons (PE.joined PE.cStr) (PEs.cons (PE.name rfl) PEs.nil)) (show 2 ≤ sizeLine by decide) ⟨r, rfl⟩ (PE.glob0 G (by kernel_rfl))
      · obtain ⟨r, rfl⟩ := hd
        exact TS.cons (TX.ret (TE.pe PE.cBool ⟨_, k r, .inl rfl⟩))
end
end Mine
end
section
open PySem PySem.Spec PySem.Calls PyProof.Rows PySem.W PySem.SeqAt PySem.Builtin PySem.Builtin.Str
set_option maxRecDepth 100000
set_option linter.unusedVariables false
set_option autoImplicit false
namespace Mine
theorem meets_bool_new_list (l : Addr) (items : Array Value) (hz : (items.size : Int) < 2 ^ 63) :
    Meets (Builtin.«bool.__new__» ⟨[.type "bool", .ref l], []⟩) (fun _ R s => s.heap.IsList l items ∧ R (.ok (.ret (.bool (!items.isEmpty)))) { s with toks := s.toks + 1 + 1 }) :=
  Meets.of_wp fun prog w A R s hs => by
    obtain ⟨hp, g, d, tk, os⟩ := s
    obtain ⟨hl, hs⟩ := hs
    have f1 := F.conv_sub_bool
    have tl : ∀ {A : Around} {E : Value → Shared → Prop} {Q : Bool → Shared → Prop} (h : Q (!items.isEmpty) ⟨hp, g, d, tk + 1 + 1, os⟩), wpAny (model prog w) A (truthy (.ref l)) Q E ⟨hp, g, d, tk, os⟩ := fun h => wpAny_truthy_list hl hz h
    repeat (any_goals (first | assumption | with_reducible apply tl | wp_step))
    all_goals first | exact hs | exact ⟨_, rfl, hs⟩ | skip
section
variable {prog : Program} {w : World} {h00 : Heap} {R : Shared} {A : Around} {fm : Fm} {loc : Loc} {led : Led}
/-- one value or the other -/
theorem PE.orB {e1 e2 : Expr} {pos : Pos} {a b : Bool} (h1 : PE prog w h00 R A fm loc led e1 (.d (.bool a))) (h2 : PE prog w h00 R A fm loc led e2 (.d (.bool b))) : PE prog w h00 R A fm loc led (.BoolOp .Or [e1, e2] pos) (.d (.bool (a || b))) := fun s D Q E k =>
  BoolOp_or (h1 s D _ _ fun v h1' t1 k1 r1 => by
    obtain ⟨as, r1⟩ := r1
    cases r1
    refine wpAny_truthy_bool ?_
    cases a with
    | true => exact k _ h1' _ k1 vr_bool
    | false => exact BoolOp_one (h2 _ (D.quiet k1) _ _ fun v h2' t2 k2 r2 => k v h2' t2 (k1.trans k2) r2))
/-- both -/
theorem PE.andB {e1 e2 : Expr} {rest : List Expr} {pos : Pos} {a b : Bool} (h1 : PE prog w h00 R A fm loc led e1 (.d (.bool a))) (h2 : a = true → PE prog w h00 R A fm loc led (.BoolOp .And (e2 :: rest) pos) (.d (.bool b))) : PE prog w h00 R A fm loc led (.BoolOp .And (e1 :: e2 :: rest) pos) (.d (.bool (a && b))) := fun s D Q E k =>
  BoolOp_and (h1 s D _ _ fun v h1' t1 k1 r1 => by
    obtain ⟨as, r1⟩ := r1
    cases r1
    refine wpAny_truthy_bool ?_
    cases a with
    | false => exact k _ h1' _ k1 vr_bool
    | true => exact h2 rfl _ (D.quiet k1) _ _ fun v h2' t2 k2 r2 => k v h2' t2 (k1.trans k2) r2)
theorem PE.and1 {e : Expr} {pos : Pos} {a : AV} (h : PE prog w h00 R A fm loc led e a) : PE prog w h00 R A fm loc led (.BoolOp .And [e] pos) a := fun s D Q E k => BoolOp_one (h s D Q E k)
/-- bool(x), of a list of the ledger -/
theorem PE.boolLed {func e : Expr} {pos : Pos} {a : Addr} {xs : List AV} (hf : PE prog w h00 R A fm loc led func (.raw (.type "bool"))) (he : PE prog w h00 R A fm loc led e (.raw (.ref a))) (hm : Has w.params h00 R fm loc led a (.list xs)) (hz : xs.length < 1000)
    (hs : starEach [e] fm.env = (false, eval e fm.env) :: starEach [] fm.env := by rfl) (hp : (backTo pos (starEach [] fm.env)).any (·.1) = false := by rfl)
    (hc : eval (.Call func [e] [] pos) fm.env = (do callWith pos (← eval func fm.env) [] (backTo pos (starEach [e] fm.env)) (backToKw pos (keywordEach [] fm.env))) := by rfl) :
    PE prog w h00 R A fm loc led (.Call func [e] [] pos) (.d (.bool (!xs.isEmpty))) := fun s D Q E q => by
  refine Call_ (hf s D _ _ fun f h1 t1 k1 r1 => ?_) hc
  cases r1
  have D1 := D.quiet (tk := t1) k1
  refine PyProof.Rows.callWith_type1 (PEs.cons he PEs.nil hs pos _ D1 _ _ fun vs h2 t2 k2 r2 => ?_) hs hp
  have D2 := D1.quiet (tk := t2) k2
  cases r2 with
  | cons r rs =>
    cases rs
    cases r
    obtain ⟨ol, hol, ws, n, rfl, rl⟩ := hm _ D2
    have hlen : ws.length = xs.length := rl.len
    refine call_bool_1 (meets_bool_new_list a ws.toArray (by rw [List.size_toArray, hlen]; omega)) ⟨⟨_, hol, rfl, n, rfl⟩, rfl, ?_⟩
    have : ws.toArray.isEmpty = xs.isEmpty := by cases xs <;> cases ws <;> simp_all
    rw [this]
    exact q _ h2 _ (k1.trans k2) vr_bool
/-- tuple(x), of a list of the ledger -/
theorem PE.tupleLed {func e : Expr} {pos : Pos} {a : Addr} {xs : List AV} (hf : PE prog w h00 R A fm loc led func (.raw (.type "tuple"))) (he : PE prog w h00 R A fm loc led e (.raw (.ref a))) (hm : Has w.params h00 R fm loc led a (.list xs)) (hz : xs.length < 1000)
    (hs : starEach [e] fm.env = (false, eval e fm.env) :: starEach [] fm.env := by rfl) (hp : (backTo pos (starEach [] fm.env)).any (·.1) = false := by rfl)
    (hc : eval (.Call func [e] [] pos) fm.env = (do callWith pos (← eval func fm.env) [] (backTo pos (starEach [e] fm.env)) (backToKw pos (keywordEach [] fm.env))) := by rfl) :
    PE prog w h00 R A fm loc led (.Call func [e] [] pos) (.tup xs) := fun s D Q E q => by
  refine Call_ (hf s D _ _ fun f h1 t1 k1 r1 => ?_) hc
  cases r1
  have D1 := D.quiet (tk := t1) k1
  refine PyProof.Rows.callWith_type1 (PEs.cons he PEs.nil hs pos _ D1 _ _ fun vs h2 t2 k2 r2 => ?_) hs hp
  have D2 := D1.quiet (tk := t2) k2
  cases r2 with
  | cons r rs =>
    cases rs
    cases r
    obtain ⟨ol, hol, ws, n, rfl, rl⟩ := hm _ D2
    have hlen : ws.length = xs.length := rl.len
    refine call_tuple_list (items := ws.toArray) ⟨_, hol, rfl, n, rfl⟩ (fun h3 k3 => ?_) (by rw [List.size_toArray, hlen]; have := line_big; omega)
    have up : ∀ o, Ext h3 (h3.push o) := fun o b ob e => Heap.get?_push_of_some _ e
    have kk : Ext h2 (h3.push { cls := .type "tuple", data := .seq ws.toArray }) := fun b o e => up _ b o (k3 b o e)
    refine q _ _ t2 (k1.trans (k2.trans kk)) ⟨h3.objs.size, ws, 0, rfl, hideAll_get _ (Heap.get?_push_size _ rfl) fun h => ?_, rl.mono (hide_ext kk)⟩
    have l1 := D2.lo _ h
    obtain ⟨o9, ho9⟩ := D2.bs.there _ h
    exact absurd (Heap.lt_size (k3 _ _ ho9)) (Nat.lt_irrefl _)
theorem vrs_of_strs {B : Heap} {l : List (List Nat)} {vs : List Value} : StrsAre vs (l.map S) → VRs B (wordsAV l) vs := by
  induction l generalizing vs with
  | nil => intro h; cases h; exact .nil
  | cons a l ih =>
    intro h
    cases h with
    | cons y t h => exact .cons ⟨_, .str _ _⟩ (ih h)
theorem sorted_tup {s : Shared} {a : Addr} {n : Nat} {vs : List Value} {ss : List Str} {Q : Value → Shared → Prop} {E : Value → Shared → Prop} (ho : s.heap.get? a = some { cls := .type "tuple", data := .seq vs.toArray n }) (hS : StrsAre vs ss) (h64 : vs.length < 64)
    (h : ∀ (h' : Heap) (b : Addr) (e : Nat) (out : List Value) (ss' : List Str), (∀ c o, s.heap.get? c = some o → h'.get? c = some o) → (∀ c o, s.heap.get? c = some o → c ≠ b) → h'.get? b = some (seqObj "list" out.toArray e) → StrsAre out ss' → ss'.Perm ss → sortedS ss' = true → Q (.ref b) { s with heap := h' }) :
    wpAny (model prog w) A (call (.builtin "sorted") [.ref a]) Q E s := by
  refine Calls.call_function_entry kind_sorted plain_sorted entry_sorted (args_sorted1 _) ?_
  unfold Builtin.«sorted»
  refine wpAny_bind (m := checkCount "sorted" 1 1 _) (wpAny_pure ?_)
  refine wpAny_bind (wpAny_collect_seq a (.inr rfl) ho rfl rfl (fun h1 k1 => ?_) (by rw [List.size_toArray]; have := line_big; omega))
  refine wpAny_bind (wpAny_newList ?_)
  have hoL : (h1.push (seqObj "list" vs.toArray 0)).get? h1.objs.size = some (seqObj "list" vs.toArray 0) := Heap.get?_push_size _ rfl
  have up : ∀ o, Ext h1 (h1.push o) := fun o b ob e => Heap.get?_push_of_some _ e
  refine wpAny_bind (wpAny_holding (wpAny_call_entry slot_list_sort ⟨_, hoL, rfl⟩ entry_list_sort (list_sort_treeK strKind_oneLt hoL hS.keysOf (fun v₁ v₂ rest e => keyKind_strs (by rw [← e]; exact hS)) h64 fun st' a1 a2 => ⟨_, rfl, ?_⟩) (args_list_sort _)))
  refine wpAny_pure ⟨_, rfl, ?_⟩
  obtain ⟨ss', b1, b2, b3⟩ := sorted_out_str hS a1 a2
  obtain ⟨e, he⟩ := sortedHeap_at (out := (arrOf st').map (·.2)) hoL
  exact h _ _ e ((arrOf st').map (·.2)).toList ss' (fun c o ho' => (sortedHeap_old (Nat.ne_of_lt (Heap.lt_size (k1 c o ho'))) (by rw [size_push']; exact Nat.lt_succ_of_lt (Heap.lt_size (k1 c o ho')))).trans (up _ _ _ (k1 c o ho'))) (fun c o ho' => Nat.ne_of_lt (Heap.lt_size (k1 c o ho'))) (by rw [Array.toArray_toList]; exact he) b1 b2 b3
/-- sorted(e), of told words -/
theorem CallP.sorted {l l' : List (List Nat)} (h64 : l.length < 64) (hu : ∀ ss' : List Str, ss'.Perm (l.map S) → sortedS ss' = true → ss' = l'.map S) : CallP prog w h00 R A (.builtin "sorted") [.tup (wordsAV l)] (.d (strsD l')) := fun X s vals Q E B rv k => by
  cases rv with
  | cons r rs =>
    cases rs
    obtain ⟨a, vs, m, rfl, e, r⟩ := r
    have hlen : vs.length = l.length := by rw [r.len]; simp [wordsAV]
    refine sorted_tup (hide_le _ _ e) (strsAre_of (by unfold wordsAV at r; rw [List.map_map]; exact r)) (by omega) fun h' b ep out ss' k1 hb hg h1 h2 h3 => ?_
    rw [hu ss' h2 h3] at h1
    refine k _ h' _ k1 (d_of_lst ⟨b, out, ep, rfl, hideAll_get _ hg fun hh => ?_, ?_⟩)
    · obtain ⟨o9, ho9⟩ := B.there _ hh
      exact hb _ _ ho9 rfl
    · have := vrs_of_strs (B := hideAll h' X) h1
      unfold wordsAV at this
      rw [List.map_map]; exact this
/-- a told tuple, spread out -/
theorem star_tup {X : List Addr} {s : Shared} {v : Value} {as : List AV} {Q : List Value → Shared → Prop} {E : Value → Shared → Prop} (r : VR (hideAll s.heap X) (.tup as) v) (hz : as.length ≤ sizeLine) (h : ∀ h' vs, Ext s.heap h' → VRs (hideAll s.heap X) as vs → Q vs { s with heap := h' }) : StarOf (model prog w) A E v Q s := by
  obtain ⟨a, vs, n, rfl, e, rr⟩ := r
  have D := hide_le (X := X) _ _ e
  have hlen : vs.length = as.length := rr.len
  have z : wpAny (model prog w) A (collect (.ref a)) Q E s := wpAny_collect_seq a (.inr rfl) D rfl rfl (fun h' k => by simpa using h h' vs k rr) (by rw [List.size_toArray, hlen]; exact hz)
  unfold StarOf notIterableAtAll
  exact wpAny_bind (wpAny_specialOf (T := "tuple") ⟨_, D, rfl⟩ PySem.F.slot_tuple_iter.lookup (wpAny_pure ⟨rfl, z⟩))
/-- as CallT, of the code itself -/
noncomputable def CodeT (prog : Program) (w : World) (h00 : Heap) (R : Shared) (A : Around) (fm : Fm) (loc : Loc) (led : Led) (f : Value) (args : List AV) (Φ : AV → Led → Prop) : Prop := ∀ s, St w.params h00 R fm loc led s → ∀ (vals : List Value), VRs (vis fm led s.heap) args vals → ∀ (Q : Value → Shared → Prop) (E : Value → Shared → Prop),
  (∀ v s' av led', Step fm led led' s s' → St w.params h00 R fm loc led' s' → VR (vis fm led' s'.heap) av v → Φ av led' → Q v s') → codeAny (model prog w) A (.call f ⟨vals, []⟩) (fun r s' => match r with | .ok (.ret v) => Q v s' | .ok _ => False | .error e => E e s') s
theorem CodeT.to {f : Value} {args : List AV} {Φ : AV → Led → Prop} (h : CodeT prog w h00 R A fm loc led f args Φ) : CallT prog w h00 R A fm loc led f args Φ := fun s D vals rv Q E k => wpAny_call (h s D vals rv Q E k)
theorem CodeT.defX {K : Frag} {fd : FuncData} {args args' : List AV} {f : Addr} {oc : Value} {od : Option Addr} {osl : Array (Option Value)} {body : List Stmt} (names : List Str) {led1 led2 : Led} {Φ : AV → Led → Prop}
    (X : K.In h00) (T : ∃ p loose mg mb, TopRead p loose mg mb h00) (hroom : A.depth < recursionLimit)
    (ho : K.lookup f = some ⟨oc, od, .func fd, osl⟩) (hcd : codeIn K fd.code fd.qualname = true) (hbody : fd.body = .stmts body) (hclo : fd.closure = [])
    (hbind : Binds prog w K fd args args' names) (hnd : names.Nodup)
    (hkind : (names.all fun x => fd.scope.names.lookup x == some .local || fd.scope.names.lookup x == some .cell) = true)
    (hown : ((cellsFrom 0 fd.scope.names []).map (·.1)).Nodup)
    (go : ∀ L hid, TS prog w h00 R (A.deeper (callEnvC fd L f)) (fmX fd L f hid (fm.env.locals :: fm.outs)) (names.zip args') led1 body fun af _ d => ∃ c, Φ c (led2 ++ d) ∧ (af = .ret c ∨ (af = .next ∧ c = .d .none)))
    (hco : fd.scope.isCoroutine = false := by rfl) (hgen : fd.scope.isGenerator = false := by rfl) (hk : fd.scope.kind = .function := by rfl) : CodeT prog w h00 R A fm loc (led2 ++ led1) (.ref f) args Φ := by
  obtain ⟨p, loose, mg, mb, T⟩ := T
  exact fun s D vals rv Q E k => St.of_defX X T ho hcd hroom hbody hclo hbind hnd (kind_of hkind) (own_of hown) go D rv (fun v s' av led' a b c d => k v s' av led' a b c d) hco hgen hk
/-- a bound method of a known object, made -/
theorem bound_get {K : Frag} {x dx C f : Addr} {es : List (Str × AV)} {name : Str} {s : Shared} {Q : Value → Shared → Prop} {E : Value → Shared → Prop} {expr : Bool} (X : K.In h00) (hx : Has w.params h00 R fm loc led x (.inst C dx)) (hd : Has w.params h00 R fm loc led dx (.dict es)) (hn : es.lookup name = none) (hg : plainGet K C name = true) (hh : hasDictIn K C = true) (ha : findIn K (.ref C) name = some (some (.ref f))) (hf : isFn K (.ref f) = true)
    (hgf : specialIn K (.ref f) "__get__" = some (some (.builtin "function.__get__"))) (ht : takesIn K (.ref f) = some false) (hc : copiedNames.contains name = false) (D : St w.params h00 R fm loc led s)
    (k : ∀ h' tk q, Ext s.heap h' → h'.get? q = some (methodObj (.ref f) (.ref x)) → Q (.ref q) { s with heap := h', toks := tk }) : wpAny (model prog w) A (getAttr (.ref x) name expr) Q E s := by
  obtain ⟨l, n, h1, h2, h3⟩ := Has.inst D hx hd
  have up : ∀ o, Ext s.heap (s.heap.push o) := fun o b ob e => Heap.get?_push_of_some _ e
  exact get_bind (D.K X) (inst_at h1 h2) (plainGet_of hg).1 (findObj_fn hh ha hgf ht hc (by show lookIn name (dictOf l n) = _; rw [lookIn_dict, h3.no hn])) (plainGet_of hg).2
    (wpAny_call (fn_get (s := { s with toks := s.toks + 1 }) (D.K X) (beq_iff_eq.mp hf) (handed_on rfl (k _ _ _ (up _) (Heap.get?_push_size _ rfl)))))
/-- o.m(*e) -/
theorem TE.methStar {K : Frag} {x dx C f : Addr} {es : List (Str × AV)} {o e : Expr} {name : Str} {apos pos p : Pos} {L : Led} {as : List AV} {Φ : AV → Loc → Led → Prop} (X : K.In h00) (ho : PE prog w h00 R A fm loc led o (.x (ledHP w.params (.ref x) L)))
    (hx : Has w.params h00 R fm loc led x (.inst C dx)) (hd : Has w.params h00 R fm loc led dx (.dict es)) (hn : es.lookup name = none) (hg : plainGet K C name = true) (hh : hasDictIn K C = true) (hfi : findIn K (.ref C) name = some (some (.ref f))) (hf : isFn K (.ref f) = true)
    (hgf : specialIn K (.ref f) "__get__" = some (some (.builtin "function.__get__"))) (ht : takesIn K (.ref f) = some false) (hcp : copiedNames.contains name = false) (hfn : fnIn K f = true)
    (ha : PE prog w h00 R A fm loc led e (.tup as)) (hz : as.length ≤ sizeLine) (hc : CodeT prog w h00 R A fm loc led (.ref f) (.x (ledHP w.params (.ref x) L) :: as) fun a d => Φ a loc d)
    (hs : starEach [.Starred e p] fm.env = [(true, eval e fm.env)] := by rfl)
    (he : eval (.Call (.Attribute o name apos) [.Starred e p] [] pos) fm.env = (do
      let ov ← eval o fm.env
      standAt apos.atName
      let (f, first) ← holding [ov] (do pure (← getAttr ov name true, []))
      let cp ← pure pos
      callWith cp f first (backTo pos (starEach [.Starred e p] fm.env)) []) := by rfl) :
    TE prog w h00 R A fm loc led (.Call (.Attribute o name apos) [.Starred e p] [] pos) Φ := fun s D Q E k => by
  rw [he]
  refine wpAny_bind (ho s D _ _ fun v h1 t1 k1 r1 => wpAny_bind (wpAny_standAt (wpAny_bind (wpAny_holding (wpAny_bind ?_)))))
  obtain ⟨rfl, rL⟩ := r1
  have D1 : St w.params h00 R fm loc led { s with heap := h1, toks := t1 } := D.quiet k1
  refine bound_get X hx hd hn hg hh hfi hf hgf ht hcp D1 fun h2 t2 q k2 hq => ?_
  refine wpAny_pure (wpAny_bind (wpAny_pure ?_))
  have D2 := D1.quiet (tk := t2) k2
  dsimp only
  rw [hs]
  refine ks_call (P := PySem.W.MethP K q f (.ref x)) rfl (keeps_M hfn) (ks_lone (ha _ D2 _ _ fun v2 h3 t3 k3 r3 => star_tup r3 hz fun h4 vs k4 rr => ?_))
  have D3 := D2.quiet (tk := t3) k3
  have D4 := D3.quiet (tk := t3) k4
  refine ⟨⟨k4 _ _ (k3 _ _ hq), D4.K X⟩, ?_⟩
  refine wpAny_call (method_call (k4 _ _ (k3 _ _ hq)) ?_)
  refine hc _ D4 _ (.cons ⟨rfl, fun p hp => ?_⟩ (rr.mono (hide_ext k4))) _ _ fun v s' av d x D5 r5 p5 => k v s' av loc d (D.step (k1.trans (k2.trans (k3.trans k4))) x) D5 r5 p5
  obtain ⟨o', ho', hr'⟩ := rL p hp
  exact ⟨o', hide_ext (k2.trans (k3.trans k4)) _ _ ho', hr'.mono (hide_ext (k2.trans (k3.trans k4)))⟩
/-- while e: .., where e may change the ledger -/
theorem TX.whileE {test : Expr} {body orelse : List Stmt} {pos : Pos} {Φ : AF → Loc → Led → Prop} (Inv : Nat → Loc → Led → Prop) (n0 : Nat) (h0 : Inv n0 loc led)
    (turn : ∀ n l d, Inv n l d → TE prog w h00 R A fm l d test fun av l d => ∃ b, av = .d (.bool b) ∧ (b = true → TS prog w h00 R A fm l d body fun af l' d' => match af with
        | .next => ∃ m, m < n ∧ Inv m l' d' | .cont => ∃ m, m < n ∧ Inv m l' d' | .brk => Φ .next l' d' | .ret r => Φ (.ret r) l' d')
      ∧ (b = false → TS prog w h00 R A fm l d orelse Φ))
    (he : ∀ whole, isTrue test fm.env whole = (do let v ← whole; standAt test.pos; holding [v] (truthy v)) := by intro _; rfl) :
    TX prog w h00 R A fm loc led (.While test body orelse pos) Φ := fun s D Q E q => by
  refine wpAny_While (codeAny_whileLoop (fun n s' => ∃ l d, Inv n l d ∧ St w.params h00 R fm l d s' ∧ Step fm led d s s') ?_ n0 ⟨loc, led, h0, D, Step.quiet (tk := s.toks) D Ext.rfl⟩)
  rintro n s' ⟨l, d, iv, D', S'⟩
  refine wpAny_isTrue_value (turn n l d iv s' D' _ _ fun v s3 av l d S3 D3 r3 p3 => ?_) (he _)
  obtain ⟨b, rfl, h1, h2⟩ := p3
  obtain ⟨as, r3⟩ := r3
  cases r3
  refine wpAny_truthy_bool ?_
  have S3 := S'.trans S3
  cases b with
  | true =>
    refine h1 rfl _ D3 _ _ fun fl s4 af l' d' S4 D4 r4 p4 => ?_
    cases af with
    | next => cases r4; obtain ⟨m, hm, iv'⟩ := p4; exact ⟨m, hm, l', d', iv', D4, S3.trans S4⟩
    | cont => cases r4; obtain ⟨m, hm, iv'⟩ := p4; exact ⟨m, hm, l', d', iv', D4, S3.trans S4⟩
    | brk => cases r4; exact q _ s4 .next l' d' (S3.trans S4) D4 rfl p4
    | ret r => obtain ⟨v', rfl, r4⟩ := r4; exact q _ s4 (.ret r) l' d' (S3.trans S4) D4 ⟨v', rfl, r4⟩ p4
  | false =>
    exact h2 rfl _ D3 _ _ fun fl s4 af l' d' S4 D4 r4 p4 => q fl s4 af l' d' (S3.trans S4) D4 r4 p4
end
end Mine
end
section
open PySem PySem.Spec PySem.Calls PyProof.Rows PySem.W PySem.SeqAt PySem.Builtin PySem.Builtin.Str
set_option maxRecDepth 100000
set_option linter.unusedVariables false
set_option autoImplicit false
namespace Mine
noncomputable def npTo (v : Int) (nm : List Nat) (g : List Nd) : List Nd := chg nm (fun m => { m with np := v }) g
noncomputable def passOut (g : List Nd) (rdy : List (List Nat)) : List Nd := rdy.foldl (fun g nm => npTo (-1) nm g) g
theorem npTo_names {v : Int} {nm : List Nat} {g : List Nd} : names (npTo v nm g) = names g := chg_names (f := fun m => { m with np := v }) (fun _ => rfl) g
theorem npTo_frz {ad : Ad} {v : Int} {nm : List Nat} {g : List Nd} : frz ad (npTo v nm g) = frz ad g := by
  have h1 : ∀ n : Nd, (if n.nm = nm then { n with np := v } else n).nm = n.nm ∧ (if n.nm = nm then { n with np := v } else n).su = n.su := fun n => by split <;> exact ⟨rfl, rfl⟩
  have e1 : n2iE ad (npTo v nm g) = n2iE ad g := by
    unfold n2iE npTo chg
    rw [List.map_map]
    exact List.map_congr_left fun n _ => by
      show (S (if n.nm = nm then { n with np := v } else n).nm, AV.raw (.ref (ad.a (if n.nm = nm then { n with np := v } else n).nm))) = _
      rw [(h1 n).1]
  have e2 : (npTo v nm g).flatMap (nodeF ad) = g.flatMap (nodeF ad) := by
    unfold npTo chg
    rw [List.flatMap_map]
    rw [List.flatMap_def, List.flatMap_def]
    exact congrArg List.flatten (List.map_congr_left fun n _ => by
      show nodeF ad (if n.nm = nm then { n with np := v } else n) = _
      unfold nodeF; rw [(h1 n).1, (h1 n).2])
  unfold frz; rw [e1, e2]
theorem passOut_snoc {g : List Nd} {rdy : List (List Nat)} {i : Nat} {nm : List Nat} (h : rdy[i]? = some nm) : passOut g (rdy.take (i + 1)) = npTo (-1) nm (passOut g (rdy.take i)) := take_snoc _ _ h
theorem passOut_names : ∀ {rdy : List (List Nat)} {g : List Nd}, names (passOut g rdy) = names g
  | [], _ => rfl
  | nm :: rdy, g => (passOut_names (rdy := rdy)).trans npTo_names
theorem passOut_frz {ad : Ad} : ∀ {rdy : List (List Nat)} {g : List Nd}, frz ad (passOut g rdy) = frz ad g
  | [], _ => rfl
  | nm :: rdy, g => (passOut_frz (rdy := rdy)).trans npTo_frz
theorem live1_np {ad : Ad} {r : Addr} {rdy : List (List Nat)} {po nf : Int} {g : List Nd} {n : Nd} {v : Int} (hn : n ∈ g) (hg : (names g).Nodup) (nd : ((live1 ad r rdy po nf g).map (·.1)).Nodup) :
    upd (live1 ad r rdy po nf g) (ad.a n.nm) (.slots 123 (ad.b n.nm) (putSlot 1 (.d (.int v)) (slotsOf ad n))) = live1 ad r rdy po nf (npTo v n.nm g) := by
  obtain ⟨g1, g2, rfl⟩ := List.append_of_mem hn
  unfold npTo
  rw [chg_mid hg]
  have e : ∀ n : Nd, live1 ad r rdy po nf (g1 ++ n :: g2) = ((r, AO.list (wordsAV rdy)) :: (ad.D, .dict (sorE ad.N (.raw (.ref r)) po nf)) :: g1.map (nodeA ad)) ++ nodeA ad n :: g2.map (nodeA ad) := fun n => by simp [live1, live]
  rw [e] at nd ⊢
  rw [e]
  exact upd_mid nd
theorem live1_rdy {ad : Ad} {r : Addr} {rdy rdy' : List (List Nat)} {po nf : Int} {g : List Nd} (nd : ((live1 ad r rdy po nf g).map (·.1)).Nodup) : upd (live1 ad r rdy po nf g) r (.list (wordsAV rdy')) = live1 ad r rdy' po nf g := upd_mid (pre := []) nd
theorem live1_cnt {ad : Ad} {r : Addr} {rdy : List (List Nat)} {po nf po' nf' : Int} {g : List Nd} {es : List (Str × AV)} (nd : ((live1 ad r rdy po nf g).map (·.1)).Nodup) (he : es = sorE ad.N (.raw (.ref r)) po' nf') : upd (live1 ad r rdy po nf g) ad.D (.dict es) = live1 ad r rdy po' nf' g := live1_upd nd he
theorem live1_mem {ad : Ad} {r : Addr} {rdy : List (List Nat)} {po nf : Int} {g : List Nd} : (r, AO.list (wordsAV rdy)) ∈ live1 ad r rdy po nf g ∧ (ad.D, AO.dict (sorE ad.N (.raw (.ref r)) po nf)) ∈ live1 ad r rdy po nf g ∧ ∀ n ∈ g, nodeA ad n ∈ live1 ad r rdy po nf g := by
  refine ⟨by simp [live1], by simp [live1, live], fun n hn => ?_⟩
  unfold live1 live
  exact List.mem_cons_of_mem _ (List.mem_cons_of_mem _ (List.mem_map_of_mem hn))
section
variable {prog : Program} {w : World} {h00 : Heap} {R : Shared} {A : Around} {fm : Fm} {loc : Loc} {led : Led} {ad : Ad} {g : List Nd} {r : Addr} {rdy : List (List Nat)} {po nf : Int}
theorem c_active (G : Top0 w.params h00) (hA : Roomy 39 390 A) (hz : rdy.length < 1000) {led2 : Led} {Φ : AV → Led → Prop}
    (k : Φ (.d (.bool (decide (nf < po) || !rdy.isEmpty))) (led2 ++ live1 ad r rdy po nf g)) :
    CallT prog w h00 R A fm loc (led2 ++ live1 ad r rdy po nf g) (.ref 189) [.x (ledHP w.params (.ref ad.S) (frz ad g))] Φ := by
  refine CallT.defX (led1 := live1 ad r rdy po nf g) (args' := [.x (ledHP w.params (.ref ad.S) (frz ad g))]) ["self"] G.X G.T (Nat.lt_trans hA.d (by decide)) rfl (by kernel_rfl) rfl rfl (Binds.plain fun vals hv => ?_) (by decide) rfl (by decide) (fun L hid => ?_)
  · match vals, hv with
    | [a], _ => rfl
  · have mS : (ad.S, AO.inst 220 ad.D) ∈ frz ad g := by simp [frz]
    obtain ⟨mr, mD, mn⟩ := live1_mem (ad := ad) (r := r) (rdy := rdy) (po := po) (nf := nf) (g := g)
    refine TS.cons (TX.if (b := false) (PT.to (PT.cmp (PE.attrG (PE.ledName (PE.name rfl)) (getS G (Has.ofLoc (y := "self") rfl mS) (Has.ofLed mD) rfl Handed.ref)) PE.cNone (Op2.isNone none_ref)) rfl) noFT fun _ => TS.nil ?_)
    refine TS.cons (TX.ret (TE.pe (PE.orB (PE.cmp (PE.attrG (PE.ledName (PE.name rfl)) (getS G (Has.ofLoc (y := "self") rfl mS) (Has.ofLed mD) rfl Handed.int)) (PE.attrG (PE.ledName (PE.name rfl)) (getS G (Has.ofLoc (y := "self") rfl mS) (Has.ofLed mD) rfl Handed.int)) Op2.lt)
      (PE.boolLed (PE.built0 G (by kernel_rfl) (by kernel_rfl) (by decide)) (PE.attrG (PE.ledName (PE.name rfl)) (getS G (Has.ofLoc (y := "self") rfl mS) (Has.ofLed mD) rfl Handed.ref)) (Has.ofLed mr) (by rw [words_len]; exact hz))) ⟨_, ?_, .inl rfl⟩))
    rw [show (wordsAV rdy).isEmpty = rdy.isEmpty by cases rdy <;> rfl]
    exact k
theorem PE.out (G : Top0 w.params h00) {pos : Pos} (hg : fm.env.globals = mainGlobals := by rfl) (hk : fm.env.scope.kind = .function := by rfl) (hx : fm.env.kindOf "_NODE_OUT" = some .globalImplicit := by rfl) : PE prog w h00 R A fm loc led (.Name "_NODE_OUT" pos) (.d (.int (-1))) :=
  (PE.glob0 (v := .int (-1) 566) G (by kernel_rfl) hg hk hx).mono fun B v h => by cases h; exact vr_int
theorem PE.doneC (G : Top0 w.params h00) {pos : Pos} (hg : fm.env.globals = mainGlobals := by rfl) (hk : fm.env.scope.kind = .function := by rfl) (hx : fm.env.kindOf "_NODE_DONE" = some .globalImplicit := by rfl) : PE prog w h00 R A fm loc led (.Name "_NODE_DONE" pos) (.d (.int (-2))) :=
  (PE.glob0 (v := .int (-2) 569) G (by kernel_rfl) hg hk hx).mono fun B v h => by cases h; exact vr_int
set_option maxHeartbeats 2000000 in
theorem c_ready (G : Top0 w.params h00) (hA : Roomy 39 390 A) (hs : (ad.N == sysModules) = false) (hg : (names g).Nodup) (hr : ∀ nm ∈ rdy, nm ∈ names g) (hz : rdy.length < 900) {led2 : Led} {Φ : AV → Led → Prop}
    (k : Φ (.tup (wordsAV rdy)) (led2 ++ live1 ad r [] (po + rdy.length) nf (passOut g rdy))) :
    CallT prog w h00 R A fm loc (led2 ++ live1 ad r rdy po nf g) (.ref 182) [.x (ledHP w.params (.ref ad.S) (frz ad g))] Φ := by
  refine CallT.defX (led1 := live1 ad r rdy po nf g) (args' := [.x (ledHP w.params (.ref ad.S) (frz ad g))]) ["self"] G.X G.T (Nat.lt_trans hA.d (by decide)) rfl (by kernel_rfl) rfl rfl (Binds.plain fun vals hv => ?_) (by decide) rfl (by decide) (fun L hid => ?_)
  · match vals, hv with
    | [a], _ => rfl
  · have hA' : ∀ env, Roomy 40 393 (A.deeper env) := fun _ => hA.deeper
    have mS : (ad.S, AO.inst 220 ad.D) ∈ frz ad g := by simp [frz]
    have mN : (ad.N, AO.dict (n2iE ad g)) ∈ frz ad g := by simp [frz]
    have nd := n2iE_nodup (ad := ad) hg
    obtain ⟨mr, mD, mn⟩ := live1_mem (ad := ad) (r := r) (rdy := rdy) (po := po) (nf := nf) (g := g)
    refine TS.cons (TX.if (b := false) (PT.to (PT.cmp (PE.attrG (PE.ledName (PE.name rfl)) (getS G (Has.ofLoc (y := "self") rfl mS) (Has.ofLed mD) rfl Handed.ref)) PE.cNone (Op2.isNone none_ref)) rfl) noFT fun _ => TS.nil ?_)
    refine TS.cons (TX.assign rfl (.inl rfl) (TE.pe (PE.tupleLed (PE.built0 G (by kernel_rfl) (by kernel_rfl) (by decide)) (PE.attrG (PE.ledName (PE.name rfl)) (getS G (Has.ofLoc (y := "self") rfl mS) (Has.ofLed mD) rfl Handed.ref)) (Has.ofLed mr) (by rw [words_len]; omega)) ?_))
    refine TS.cons (TX.assign rfl (.inl rfl) (TE.pe (PE.attrG (PE.ledName (PE.name rfl)) (getS G (Has.ofLoc (y := "self") rfl mS) (Has.ofLed mD) rfl Handed.ref)) ?_))
    refine TS.cons (TX.for rfl (.inl rfl) (PE.name rfl) (IterP.tup (hA' _).h)
      (fun i l d => d = live1 ad r rdy po nf (passOut g (rdy.take i)) ∧ l.lookup ("self" : Str) = some (.x (ledHP w.params (.ref ad.S) (frz ad g))) ∧ l.lookup ("result" : Str) = some (.tup (wordsAV rdy)) ∧ l.lookup ("n2i" : Str) = some (.raw (.ref ad.N))) ⟨rfl, rfl, rfl, rfl⟩ (fun hid i y l d hx iv => ?_) (fun l d iv => ?_))
    · obtain ⟨rfl, h1, h2, h3⟩ := iv
      unfold wordsAV at hx
      rw [List.getElem?_map] at hx
      obtain ⟨nm, hnm, rfl⟩ := Option.map_eq_some_iff.mp hx
      rw [passOut_snoc hnm]
      have hm : nm ∈ names g := hr nm (List.mem_of_getElem? hnm)
      have hnn : names (passOut g (rdy.take i)) = names g := passOut_names
      have hfz : frz ad (passOut g (rdy.take i)) = frz ad g := passOut_frz
      generalize passOut g (rdy.take i) = g1 at hnn hfz ⊢
      have hm1 : nm ∈ names g1 := by rw [hnn]; exact hm
      have hg1 : (names g1).Nodup := by rw [hnn]; exact hg
      obtain ⟨n, hn, rfl⟩ := name_mem hm1
      obtain ⟨mr, mD, mn⟩ := live1_mem (ad := ad) (r := r) (rdy := rdy) (po := po) (nf := nf) (g := g1)
      have mb := (frz_node (ad := ad) hn).2
      rw [hfz] at mb
      refine TS.cons (TX.nodup fun ndq => TX.setBy (TE.pe (PE.out G) ⟨ad.a n.nm, _, PE.itemDict (k := S n.nm) (PE.name (by exact h3)) (PE.name rfl) (Has.ofLoc (y := "self") (by exact h1) mN) nd (by rw [n2iE_look, if_pos hm]), setNp G (mn n hn) rfl (Has.ofLoc (y := "self") (by exact h1) mb), ?_⟩))
      rw [live1_np hn hg1 ndq]
      exact TS.nil ⟨rfl, h1, h2, h3⟩
    · obtain ⟨rfl, h1, h2, h3⟩ := iv
      rw [words_len, List.take_length]
      have hfz : frz ad (passOut g rdy) = frz ad g := passOut_frz
      generalize passOut g rdy = g1 at hfz k ⊢
      obtain ⟨mr, mD, mn⟩ := live1_mem (ad := ad) (r := r) (rdy := rdy) (po := po) (nf := nf) (g := g1)
      refine TS.cons (TX.nodup fun ndq => TX.expr (TE.methB0 (PE.attrG (PE.ledName (PE.name (by exact h1))) (getS G (Has.ofLoc (y := "self") h1 mS) (Has.ofLed mD) rfl Handed.ref)) (MethX.list mr F.slot_list_clear F.type_list_clear) rfl (CallT.clear mr (by rw [words_len]; have := line_big; omega) ⟨rfl, ?_⟩)))
      rw [show (AO.list []) = AO.list (wordsAV []) from rfl, live1_rdy ndq]
      obtain ⟨mr, mD, mn⟩ := live1_mem (ad := ad) (r := r) (rdy := []) (po := po) (nf := nf) (g := g1)
      refine TS.cons (TX.nodup fun ndq => TX.aug (old := .d (.int po)) (v := .d (.int rdy.length)) (new := .d (.int (po + rdy.length))) (PE.ledName (PE.name (by exact h1))) (getS G (Has.ofLoc (y := "self") h1 mS) (Has.ofLed mD) rfl Handed.int) (PE.callB (id := "len") (PE.built0 G (by kernel_rfl) (by kernel_rfl) (by decide)) (PEs.cons (PE.name (by exact h2)) PEs.nil) (CallP.lenTupN (words_len _) (by omega))) Op2.iadd (setS G (Has.ofLoc (y := "self") h1 mS) mD (show 4 < 900 by decide)) ?_)
      rw [live1_cnt (es := putE "_npassedout" (.d (.int (po + rdy.length))) (sorE ad.N (.raw (.ref r)) po nf)) (po' := po + rdy.length) (nf' := nf) ndq rfl]
      exact TS.cons (TX.ret (TE.pe (PE.name (by exact h2)) ⟨_, k, .inl rfl⟩))
end
end Mine
end
section
open PySem PySem.Spec PySem.Calls PyProof.Rows PySem.W PySem.SeqAt PySem.Builtin PySem.Builtin.Str
set_option maxRecDepth 100000
set_option linter.unusedVariables false
set_option autoImplicit false
namespace Mine
noncomputable def look (g : List Nd) (nm : List Nat) : Option Nd := g.find? fun n => decide (n.nm = nm)
theorem look_some {g : List Nd} {nm : List Nat} {n : Nd} (h : look g nm = some n) : n ∈ g ∧ n.nm = nm := ⟨List.mem_of_find?_eq_some h, by simpa using List.find?_some h⟩
/-- those behind a finished node are one nearer to being ready -/
noncomputable def lowerAll : List (List Nat) → List Nd → List (List Nat) → Option (List Nd × List (List Nat))
  | [], g, rdy => some (g, rdy)
  | s :: ss, g, rdy => if 500 < rdy.length then none else match look g s with
    | none => none
    | some n => lowerAll ss (npTo (n.np - 1) s g) (if n.np - 1 = 0 then rdy ++ [s] else rdy)
noncomputable def finishAll : List (List Nat) → List Nd → List (List Nat) → Option (List Nd × List (List Nat))
  | [], g, rdy => some (g, rdy)
  | nm :: nms, g, rdy => match look g nm with
    | none => none
    | some n => if n.np = -1 then match lowerAll n.su (npTo (-2) nm g) rdy with
      | none => none
      | some (g, rdy) => finishAll nms g rdy else none
theorem npTo_mem {v : Int} {g : List Nd} {n : Nd} (hn : n ∈ g) : { n with np := v } ∈ npTo v n.nm g := by
  unfold npTo chg
  refine List.mem_map.mpr ⟨n, hn, ?_⟩
  rw [if_pos rfl]
theorem look_mem {g : List Nd} {nm : List Nat} {n : Nd} (h : look g nm = some n) : nm ∈ names g := by
  obtain ⟨h1, rfl⟩ := look_some h
  exact List.mem_map_of_mem (f := (·.nm)) h1
section
variable {prog : Program} {w : World} {h00 : Heap} {R : Shared} {A : Around} {fm : Fm} {loc : Loc} {led : Led} {ad : Ad} {g : List Nd} {r : Addr} {rdy : List (List Nat)} {po nf : Int}
theorem lst_of_led {P : Params} {B : Heap} {v : Value} {a : Addr} {xs : List AV} (h : VR B (.x (ledHP P (.ref a) [(a, .list xs)])) v) : VR B (.lst xs) v := by
  obtain ⟨rfl, h⟩ := h
  obtain ⟨o, ho, vs, n, rfl, r⟩ := h _ List.mem_cons_self
  exact ⟨a, vs, n, rfl, ho, r⟩
set_option maxHeartbeats 4000000 in
theorem c_done (G : Top0 w.params h00) (hA : Roomy 39 390 A) (hs : (ad.N == sysModules) = false) (hg : (names g).Nodup) {nms : List (List Nat)} {res : List Nd × List (List Nat)} (hres : finishAll nms g rdy = some res) (hrz : res.2.length < 900) (hnz : nms.length ≤ 4) {led2 : Led} {Φ : AV → Led → Prop}
    (k : names res.1 = names g → frz ad res.1 = frz ad g → Φ (.d .none) (led2 ++ live1 ad r res.2 po (nf + nms.length) res.1)) :
    CodeT prog w h00 R A fm loc (led2 ++ live1 ad r rdy po nf g) (.ref 203) (.x (ledHP w.params (.ref ad.S) (frz ad g)) :: wordsAV nms) Φ := by
  refine CodeT.defX (led1 := live1 ad r rdy po nf g) (args' := [.x (ledHP w.params (.ref ad.S) (frz ad g)), .tup (wordsAV nms)]) ["self", "nodes"] G.X G.T (Nat.lt_trans hA.d (by decide)) rfl (by kernel_rfl) rfl rfl (Binds.star 1 fun vals hv Sg => ?_) (by decide) rfl (by decide) (fun L hid => ?_)
  · match vals, hv with
    | a :: vs, hv =>
      have hl : vs.length = nms.length := by simpa [wordsAV] using hv
      clear hv k hres
      match vs, nms, hnz, hl with
      | [], _, _, _ => exact ⟨_, rfl, fun D => rfl⟩
      | [b], _, _, _ => exact ⟨_, rfl, fun D => rfl⟩
      | [b, c], _, _, _ => exact ⟨_, rfl, fun D => rfl⟩
      | [b, c, d], _, _, _ => exact ⟨_, rfl, fun D => rfl⟩
      | [b, c, d, e], _, _, _ => exact ⟨_, rfl, fun D => rfl⟩
      | b :: c :: d :: e :: f :: vs, nms, hz, hl => rw [← hl] at hz; simp at hz
  · have hA' : ∀ env, Roomy 40 393 (A.deeper env) := fun _ => hA.deeper
    have mS : (ad.S, AO.inst 220 ad.D) ∈ frz ad g := by simp [frz]
    have mN : (ad.N, AO.dict (n2iE ad g)) ∈ frz ad g := by simp [frz]
    have nd := n2iE_nodup (ad := ad) hg
    obtain ⟨mr, mD, mn⟩ := live1_mem (ad := ad) (r := r) (rdy := rdy) (po := po) (nf := nf) (g := g)
    refine TS.cons (TX.if (b := false) (PT.to (PT.cmp (PE.attrG (PE.ledName (PE.name rfl)) (getS G (Has.ofLoc (y := "self") rfl mS) (Has.ofLed mD) rfl Handed.ref)) PE.cNone (Op2.isNone none_ref)) rfl) noFT fun _ => TS.nil ?_)
    refine TS.cons (TX.assign rfl (.inl rfl) (TE.pe (PE.attrG (PE.ledName (PE.name rfl)) (getS G (Has.ofLoc (y := "self") rfl mS) (Has.ofLed mD) rfl Handed.ref)) ?_))
    refine TS.cons (TX.for rfl (.inl rfl) (PE.name rfl) (IterP.tup (hA' _).h)
      (fun i l d => (∃ g1 rdy1, d = live1 ad r rdy1 po (nf + i) g1 ∧ names g1 = names g ∧ frz ad g1 = frz ad g ∧ finishAll (nms.drop i) g1 rdy1 = some res) ∧ l.lookup ("self" : Str) = some (.x (ledHP w.params (.ref ad.S) (frz ad g))) ∧ l.lookup ("n2i" : Str) = some (.raw (.ref ad.N))) ⟨⟨g, rdy, by rw [show nf + ((0 : Nat) : Int) = nf from Int.add_zero nf], rfl, rfl, hres⟩, rfl, rfl⟩ (fun hid i y l d hx iv => ?_) (fun l d iv => ?_))
    · obtain ⟨⟨g1, rdy1, rfl, hnn, hfz, hf⟩, h1, h3⟩ := iv
      unfold wordsAV at hx
      rw [List.getElem?_map] at hx
      obtain ⟨nm, hnm, rfl⟩ := Option.map_eq_some_iff.mp hx
      have hi := item_nat hnm
      rw [List.drop_eq_getElem_cons hi, show nms[i] = nm from (List.getElem?_eq_some_iff.mp hnm).2] at hf
      unfold finishAll at hf
      cases hl : look g1 nm with
      | none => rw [hl] at hf; cases hf
      | some n =>
      rw [hl] at hf
      dsimp only at hf
      have hm : nm ∈ names g := by rw [← hnn]; exact look_mem hl
      obtain ⟨hn, rfl⟩ := look_some hl
      by_cases hnp' : ¬ n.np = -1
      · rw [if_neg hnp'] at hf; cases hf
      have hnp : n.np = -1 := Decidable.not_not.mp hnp'
      rw [if_pos hnp] at hf
      have hg1 : (names g1).Nodup := by rw [hnn]; exact hg
      obtain ⟨mr, mD, mn⟩ := live1_mem (ad := ad) (r := r) (rdy := rdy1) (po := po) (nf := nf + i) (g := g1)
      obtain ⟨ml, mb⟩ := frz_node (ad := ad) hn
      rw [hfz] at ml mb
      refine TS.cons (TX.ifNamed rfl (.inl rfl) (TE.methB (PE.name (by exact h3)) (MethX.dict (Has.ofLoc (y := "self") (by exact h1) mN) PySem.F.slot_dict_get PySem.F.type_dict_get) rfl (PEs.cons (PE.name rfl) PEs.nil) (CallT.dictGet (k := S n.nm) (Has.ofLoc (y := "self") (by exact h1) mN) nd hs ?_)))
      rw [n2iE_look, if_pos hm]
      refine ⟨false, none_ref, noFT, fun _ => TS.nil ?_⟩
      refine TS.cons (TX.assign rfl (.inl rfl) (TE.pe (PE.attrG (PE.name rfl) (getNp G (Has.ofLed (mn n hn)) (Has.ofLoc (y := "self") (by exact h1) mb) rfl Handed.int)) ?_))
      refine TS.cons (TX.if (b := false) (PT.to (PT.cmp (PE.name rfl) (PE.out G) (Op2.ne (shaped_int _) (shaped_int _) (Nat.lt_trans (Nat.add_lt_add_right (hA' _).u 64) (by decide)))) (by rw [eqv_int, hnp]; rfl)) noFT fun _ => TS.nil ?_)
      refine TS.cons (TX.nodup fun ndq => TX.setBy (TE.pe (PE.doneC G) ⟨ad.a n.nm, _, PE.name rfl, setNp G (mn n hn) rfl (Has.ofLoc (y := "self") (by exact h1) mb), ?_⟩))
      rw [live1_np hn hg1 ndq]
      have hnn2 : names (npTo (-2) n.nm g1) = names g := npTo_names.trans hnn
      have hfz2 : frz ad (npTo (-2) n.nm g1) = frz ad g := npTo_frz.trans hfz
      have hn2 := npTo_mem (v := -2) hn
      generalize npTo (-2) n.nm g1 = g2 at hf hnn2 hfz2 hn2 ⊢
      cases hlow : lowerAll n.su g2 rdy1 with
      | none => rw [hlow] at hf; cases hf
      | some res2 =>
      obtain ⟨g5, rdy5⟩ := res2
      rw [hlow] at hf
      dsimp only at hf
      obtain ⟨mr, mD, mn⟩ := live1_mem (ad := ad) (r := r) (rdy := rdy1) (po := po) (nf := nf + i) (g := g2)
      refine TS.cons (TX.for rfl (.inl rfl) (PE.mono (b := .lst (wordsAV n.su)) (PE.tell (y := "self") (L' := [(ad.l n.nm, .list (wordsAV n.su))]) (PE.attrG (PE.name rfl) (getSu G (Has.ofLed (mn { n with np := -2 } hn2)) (Has.ofLoc (y := "self") (by exact h1) mb) rfl Handed.ref)) (by exact h1) (fun p hp => by rw [List.mem_singleton.mp hp]; exact ml)) (fun B v h => lst_of_led h)) (IterP.lst (hA' _).h)
        (fun j l d => (∃ g3 rdy3, d = live1 ad r rdy3 po (nf + i) g3 ∧ names g3 = names g ∧ frz ad g3 = frz ad g ∧ lowerAll (n.su.drop j) g3 rdy3 = some (g5, rdy5)) ∧ l.lookup ("self" : Str) = some (.x (ledHP w.params (.ref ad.S) (frz ad g))) ∧ l.lookup ("n2i" : Str) = some (.raw (.ref ad.N))) ⟨⟨g2, rdy1, rfl, hnn2, hfz2, hlow⟩, h1, h3⟩ (fun hid j y l d hx iv => ?_) (fun l d iv => ?_))
      · obtain ⟨⟨g3, rdy3, rfl, hnn3, hfz3, hf3⟩, h1, h3⟩ := iv
        unfold wordsAV at hx
        rw [List.getElem?_map] at hx
        obtain ⟨sc, hsc, rfl⟩ := Option.map_eq_some_iff.mp hx
        have hj := item_nat hsc
        rw [List.drop_eq_getElem_cons hj, show n.su[j] = sc from (List.getElem?_eq_some_iff.mp hsc).2] at hf3
        unfold lowerAll at hf3
        have hz3 : ¬ 500 < rdy3.length := fun h => by rw [if_pos h] at hf3; cases hf3
        rw [if_neg hz3] at hf3
        cases hl3 : look g3 sc with
        | none => rw [hl3] at hf3; cases hf3
        | some m =>
        rw [hl3] at hf3
        dsimp only at hf3
        have hm3 : sc ∈ names g := by rw [← hnn3]; exact look_mem hl3
        obtain ⟨hmm, rfl⟩ := look_some hl3
        have hg3 : (names g3).Nodup := by rw [hnn3]; exact hg
        obtain ⟨mr, mD, mn⟩ := live1_mem (ad := ad) (r := r) (rdy := rdy3) (po := po) (nf := nf + i) (g := g3)
        obtain ⟨ml3, mb3⟩ := frz_node (ad := ad) hmm
        rw [hfz3] at ml3 mb3
        refine TS.cons (TX.assign rfl (.inl rfl) (TE.pe (PE.itemDict (k := S m.nm) (PE.name (by exact h3)) (PE.name rfl) (Has.ofLoc (y := "self") (by exact h1) mN) nd (by rw [n2iE_look, if_pos hm3])) ?_))
        refine TS.cons (TX.nodup fun ndq => TX.aug (old := .d (.int m.np)) (v := .d (.int 1)) (new := .d (.int (m.np - 1))) (PE.name rfl) (getNp G (Has.ofLed (mn m hmm)) (Has.ofLoc (y := "self") (by exact h1) mb3) rfl Handed.int) PE.cInt Op2.isub (setNp G (mn m hmm) rfl (Has.ofLoc (y := "self") (by exact h1) mb3)) ?_)
        rw [live1_np hmm hg3 ndq]
        have hnn4 : names (npTo (m.np - 1) m.nm g3) = names g := npTo_names.trans hnn3
        have hfz4 : frz ad (npTo (m.np - 1) m.nm g3) = frz ad g := npTo_frz.trans hfz3
        have hn4 := npTo_mem (v := m.np - 1) hmm
        generalize npTo (m.np - 1) m.nm g3 = g4 at hf3 hnn4 hfz4 hn4 ⊢
        obtain ⟨mr, mD, mn⟩ := live1_mem (ad := ad) (r := r) (rdy := rdy3) (po := po) (nf := nf + i) (g := g4)
        refine TS.cons (TX.if (b := decide (m.np - 1 = 0)) (PT.to (PT.cmp (PE.attrG (PE.name rfl) (getNp G (Has.ofLed (mn { m with np := m.np - 1 } hn4)) (Has.ofLoc (y := "self") (by exact h1) mb3) rfl Handed.int)) PE.cInt (Op2.eq (shaped_int _) (shaped_int _) (Nat.lt_trans (Nat.add_lt_add_right (hA' _).u 64) (by decide)))) (by rw [eqv_int]; rfl)) (fun hb => ?_) (fun hb => ?_))
        · rw [if_pos (of_decide_eq_true hb)] at hf3
          refine TS.cons (TX.nodup fun ndq => TX.expr (TE.methB (PE.attrG (PE.ledName (PE.name (by exact h1))) (getS G (Has.ofLoc (y := "self") (by exact h1) mS) (Has.ofLed mD) rfl Handed.ref)) (MethX.list mr F.slot_list_append F.type_list_append) rfl (PEs.cons (PE.name rfl) PEs.nil) (CallT.append mr (by rw [words_len]; have := line_big; omega) ⟨rfl, TS.nil (TS.nil ?_)⟩)))
          refine ⟨⟨g4, rdy3 ++ [m.nm], ?_, hnn4, hfz4, hf3⟩, h1, h3⟩
          rw [words_snoc]
          exact live1_rdy ndq
        · rw [if_neg (of_decide_eq_false hb)] at hf3
          exact TS.nil (TS.nil ⟨⟨g4, rdy3, rfl, hnn4, hfz4, hf3⟩, h1, h3⟩)
      · obtain ⟨⟨g3, rdy3, rfl, hnn3, hfz3, hf3⟩, h1, h3⟩ := iv
        rw [words_len, List.drop_length] at hf3
        cases hf3
        obtain ⟨mr, mD, mn⟩ := live1_mem (ad := ad) (r := r) (rdy := rdy5) (po := po) (nf := nf + i) (g := g5)
        refine TS.cons (TX.nodup fun ndq => TX.aug (old := .d (.int (nf + i))) (v := .d (.int 1)) (new := .d (.int (nf + i + 1))) (PE.ledName (PE.name (by exact h1))) (getS G (Has.ofLoc (y := "self") h1 mS) (Has.ofLed mD) rfl Handed.int) PE.cInt Op2.iadd (setS G (Has.ofLoc (y := "self") h1 mS) mD (show 4 < 900 by decide)) ?_)
        rw [live1_cnt (es := putE "_nfinished" (.d (.int (nf + i + 1))) (sorE ad.N (.raw (.ref r)) po (nf + i))) (po' := po) (nf' := nf + i + 1) ndq rfl]
        exact TS.nil ⟨⟨g5, rdy5, by rw [Int.natCast_add, ← Int.add_assoc]; rfl, hnn3, hfz3, hf⟩, h1, h3⟩
    · obtain ⟨⟨g1, rdy1, rfl, hnn, hfz, hf⟩, h1, h3⟩ := iv
      rw [words_len, List.drop_length] at hf
      cases hf
      rw [words_len]
      exact TS.nil ⟨_, k hnn hfz, .inr ⟨rfl, rfl⟩⟩
end
end Mine
end
section
open PySem PySem.Spec PySem.Calls PyProof.Rows PySem.W PySem.SeqAt PySem.Builtin PySem.Builtin.Str
set_option maxRecDepth 100000
set_option linter.unusedVariables false
set_option autoImplicit false
namespace Mine
noncomputable def sortW (l : List (List Nat)) : List (List Nat) := words2.filter fun x => decide (x ∈ l)
noncomputable def listsOf : Nat → List (List (List Nat))
  | 0 => [[]]
  | n + 1 => words2.flatMap fun u => (listsOf n).map (u :: ·)
theorem mem_listsOf : ∀ {l : List (List Nat)}, (∀ x ∈ l, x ∈ words2) → l ∈ listsOf l.length
  | [], _ => List.mem_singleton.mpr rfl
  | u :: l, h => by
    show u :: l ∈ words2.flatMap fun u => (listsOf l.length).map (u :: ·)
    exact List.mem_flatMap.mpr ⟨u, h u List.mem_cons_self, List.mem_map_of_mem (mem_listsOf fun x hx => h x (List.mem_cons_of_mem _ hx))⟩
theorem sorted_fact : ∀ n ∈ List.range 5, ∀ l ∈ listsOf n, l.Nodup → sortedS (l.map S) = true → l = sortW l := by decide +kernel
theorem sort_unique {l : List (List Nat)} (h2 : ∀ x ∈ l, x ∈ words2) (hn : l.Nodup) (hz : l.length ≤ 4) (ss' : List Str) (hp : ss'.Perm (l.map S)) (hs : sortedS ss' = true) : ss' = (sortW l).map S := by
  have hl2 : (ss'.map fun s => s.cps.toList).Perm l := by
    have := hp.map fun s : Str => s.cps.toList
    rwa [List.map_map, show ((fun s : Str => s.cps.toList) ∘ S) = _root_.id from rfl, List.map_id] at this
  have e : ss' = (ss'.map fun s => s.cps.toList).map S := by
    rw [List.map_map]
    conv => lhs; rw [← List.map_id ss']
    exact List.map_congr_left fun s _ => rfl
  rw [e] at hs ⊢
  generalize (ss'.map fun s => s.cps.toList) = l2 at hl2 hs ⊢
  have a := sorted_fact l2.length (List.mem_range.mpr (by have := hl2.length_eq; omega)) l2 (mem_listsOf fun x hx => h2 x (hl2.mem_iff.mp hx)) (hl2.nodup_iff.mpr hn) hs
  have b : sortW l2 = sortW l := by
    unfold sortW
    exact List.filter_congr fun x _ => by rw [decide_eq_decide]; exact hl2.mem_iff
  rw [← b, ← a]
noncomputable def roundsM : Nat → List Nd → List (List Nat) → Int → Int → Option (List (List (List Nat)))
  | 0, _, _, _, _ => none
  | n + 1, g, rdy, po, nf =>
    if decide (nf < po) || !rdy.isEmpty then
      if (∀ x ∈ rdy, x ∈ names g ∧ x ∈ words2) ∧ rdy.Nodup ∧ rdy.length ≤ 4 then
        match finishAll rdy (passOut g rdy) [] with
        | none => none
        | some (g', rdy') => if 500 < rdy'.length then none else (roundsM n g' rdy' (po + rdy.length) (nf + rdy.length)).map (sortW rdy :: ·)
      else none
    else if 500 < rdy.length then none else some []
noncomputable def roundsAV (rs : List (List (List Nat))) : List AV := (rs.map strsD).map .d
section
variable {prog : Program} {w : World} {h00 : Heap} {R : Shared} {A : Around} {fm : Fm} {loc : Loc} {led : Led} {ad : Ad} {g : List Nd} {r : Addr} {rdy : List (List Nat)} {po nf : Int}
theorem CodeT.frz {L L' : Led} {u f : Value} {as : List AV} {Φ : AV → Led → Prop} (e : L = L') (h : CodeT prog w h00 R A fm loc led f (.x (ledHP w.params u L) :: as) Φ) : CodeT prog w h00 R A fm loc led f (.x (ledHP w.params u L') :: as) Φ := e ▸ h
theorem CallT.frz {L L' : Led} {u f : Value} {as : List AV} {Φ : AV → Led → Prop} (e : L = L') (h : CallT prog w h00 R A fm loc led f (.x (ledHP w.params u L) :: as) Φ) : CallT prog w h00 R A fm loc led f (.x (ledHP w.params u L') :: as) Φ := e ▸ h
set_option maxHeartbeats 4000000 in
theorem c_rounds (G : Top0 w.params h00) (hA : Roomy 30 300 A) (hs : (ad.N == sysModules) = false) (hg : (names g).Nodup) (hrz : rdy.length < 900) {fuel : Nat} {res : List (List (List Nat))} (hres : roundsM fuel g rdy po nf = some res) (hfz : fuel ≤ 100) {led2 : Led} {Φ : AV → Led → Prop}
    (k : ∀ rdy' po' nf' g', Φ (.d (.list (res.map strsD))) (led2 ++ live1 ad r rdy' po' nf' g')) :
    CallT prog w h00 R A fm loc (led2 ++ live1 ad r rdy po nf g) (.ref 255) [.x (ledHP w.params (.ref ad.S) (frz ad g))] Φ := by
  refine CallT.defX (led1 := live1 ad r rdy po nf g) (args' := [.x (ledHP w.params (.ref ad.S) (frz ad g))]) ["sorter"] G.X G.T (Nat.lt_trans hA.d (by decide)) rfl (by kernel_rfl) rfl rfl (Binds.plain fun vals hv => ?_) (by decide) rfl (by decide) (fun L hid => ?_)
  · match vals, hv with
    | [a], _ => rfl
  · have hA' : ∀ env, Roomy 31 303 (A.deeper env) := fun _ => hA.deeper
    have mS : (ad.S, AO.inst 220 ad.D) ∈ frz ad g := by simp [frz]
    refine TS.cons (TX.assign rfl (.inl rfl) (TE.display (as := []) PEs.nil (by decide) fun a ha => ?_))
    refine TS.cons (TX.whileE (fun n l d => ∃ g1 rdy1 po1 nf1 rs, d = (a, .list (roundsAV rs)) :: live1 ad r rdy1 po1 nf1 g1 ∧ names g1 = names g ∧ frz ad g1 = frz ad g ∧ rdy1.length < 900 ∧ (∃ tl, roundsM n g1 rdy1 po1 nf1 = some tl ∧ res = rs ++ tl) ∧ rs.length + n ≤ 100
        ∧ l.lookup ("sorter" : Str) = some (.x (ledHP w.params (.ref ad.S) (frz ad g))) ∧ l.lookup ("rounds" : Str) = some (.raw (.ref a))) fuel ⟨g, rdy, po, nf, [], rfl, rfl, rfl, hrz, ⟨res, hres, rfl⟩, by simpa using hfz, rfl, rfl⟩ (fun n l d iv => ?_))
    obtain ⟨g1, rdy1, po1, nf1, rs, rfl, hnn, hfz1, hrz1, ⟨tl, hM, rfl⟩, hn100, h1, h2⟩ := iv
    have hg1 : (names g1).Nodup := by rw [hnn]; exact hg
    obtain ⟨mr, mD, mn⟩ := live1_mem (ad := ad) (r := r) (rdy := rdy1) (po := po1) (nf := nf1) (g := g1)
    have mD' := List.mem_cons_of_mem (a, AO.list (roundsAV rs)) mD
    refine TE.methKL (f := .ref 189) G.X (by kernel_rfl) (PE.name (by exact h1)) (MethX.instH G.X (Has.ofLoc (y := "sorter") (by exact h1) mS) (Has.ofLed mD') rfl (by kernel_rfl) (by kernel_rfl) (by kernel_rfl)) (CallT.frz hfz1 ?_)
    refine c_active (led2 := [(a, AO.list (roundsAV rs))]) G (hA' _).le (by omega) ⟨_, rfl, fun hb => ?_, fun hb => ?_⟩
    · cases n with
      | zero => cases hM
      | succ n =>
      unfold roundsM at hM
      rw [if_pos hb] at hM
      by_cases hc' : ¬ ((∀ x ∈ rdy1, x ∈ names g1 ∧ x ∈ words2) ∧ rdy1.Nodup ∧ rdy1.length ≤ 4)
      · rw [if_neg hc'] at hM; cases hM
      have hc := Decidable.not_not.mp hc'
      rw [if_pos hc] at hM
      cases hfin : finishAll rdy1 (passOut g1 rdy1) [] with
      | none => rw [hfin] at hM; cases hM
      | some q =>
      obtain ⟨g2, rdy2⟩ := q
      rw [hfin] at hM
      dsimp only at hM
      by_cases hz2 : 500 < rdy2.length
      · rw [if_pos hz2] at hM; cases hM
      rw [if_neg hz2] at hM
      obtain ⟨tl2, hM2, rfl⟩ := Option.map_eq_some_iff.mp hM
      have hpn : names (passOut g1 rdy1) = names g1 := passOut_names
      have hpf : frz ad (passOut g1 rdy1) = frz ad g1 := passOut_frz
      refine TS.cons (TX.assign rfl (.inl rfl) (TE.methKL (f := .ref 182) G.X (by kernel_rfl) (PE.name (by exact h1)) (MethX.instH G.X (Has.ofLoc (y := "sorter") (by exact h1) mS) (Has.ofLed mD') rfl (by kernel_rfl) (by kernel_rfl) (by kernel_rfl)) (CallT.frz hfz1 ?_)))
      refine c_ready (led2 := [(a, AO.list (roundsAV rs))]) G (hA' _).le hs hg1 (fun x hx => (hc.1 x hx).1) (by omega) ?_
      have ma : ∀ d, (a, AO.list (roundsAV rs)) ∈ [(a, AO.list (roundsAV rs))] ++ d := fun d => List.mem_cons_self
      refine TS.cons (TX.nodup fun ndq => TX.expr (TE.methB (PE.name (by exact h2)) (MethX.list (ma _) F.slot_list_append F.type_list_append) rfl (PEs.cons (PE.callB (id := "sorted") (PE.built0 G (by kernel_rfl) (by kernel_rfl) (by decide)) (PEs.cons (PE.name rfl) PEs.nil) (CallP.sorted (l' := sortW rdy1) (by omega) (sort_unique (fun x hx => (hc.1 x hx).2) hc.2.1 hc.2.2))) PEs.nil) (CallT.append (ma _) (by have := line_big; simp [roundsAV]; omega) ⟨rfl, ?_⟩)))
      rw [show upd ([(a, AO.list (roundsAV rs))] ++ live1 ad r [] (po1 + rdy1.length) nf1 (passOut g1 rdy1)) a (.list (roundsAV rs ++ [.d (strsD (sortW rdy1))])) = [(a, AO.list (roundsAV (rs ++ [sortW rdy1])))] ++ live1 ad r [] (po1 + rdy1.length) nf1 (passOut g1 rdy1) from by
        rw [show roundsAV rs ++ [.d (strsD (sortW rdy1))] = roundsAV (rs ++ [sortW rdy1]) by simp [roundsAV]]
        exact upd_mid (pre := []) ndq]
      obtain ⟨mr, mD, mn⟩ := live1_mem (ad := ad) (r := r) (rdy := []) (po := po1 + rdy1.length) (nf := nf1) (g := passOut g1 rdy1)
      have mD' := List.mem_cons_of_mem (a, AO.list (roundsAV (rs ++ [sortW rdy1]))) mD
      refine TS.cons (TX.expr (TE.methStar (f := 203) (as := wordsAV rdy1) G.X (PE.name (by exact h1)) (Has.ofLoc (y := "sorter") (by exact h1) mS) (Has.ofLed mD') rfl (by kernel_rfl) (by kernel_rfl) (by kernel_rfl) (by kernel_rfl) (by kernel_rfl) (by kernel_rfl) (by decide) (by kernel_rfl) (PE.name rfl) (by rw [words_len]; have := line_big; omega) (CodeT.frz (hpf.trans hfz1) ?_)))
      refine c_done (led2 := [(a, AO.list (roundsAV (rs ++ [sortW rdy1])))]) G (hA' _).le hs (by rw [hpn]; exact hg1) hfin (by show rdy2.length < 900; omega) hc.2.2 fun e1 e2 => ⟨rfl, TS.nil ⟨n, Nat.lt_succ_self _, g2, rdy2, po1 + rdy1.length, nf1 + rdy1.length, rs ++ [sortW rdy1], rfl, ?_, ?_, by omega, ⟨tl2, hM2, by simp⟩, by simp; omega, h1, h2⟩⟩
      · exact e1.trans (hpn.trans hnn)
      · exact e2.trans hpf |>.trans hfz1
    · cases n with
      | zero => cases hM
      | succ n =>
      unfold roundsM at hM
      rw [if_neg (by rw [hb]; decide)] at hM
      by_cases hz : 500 < rdy1.length
      · rw [if_pos hz] at hM; cases hM
      rw [if_neg hz] at hM
      cases hM
      refine TS.nil (TS.nodup fun ndq => TS.freeze (live1 ad r rdy1 po1 nf1 g1) [("rounds", .d (.list (rs.map strsD)))] (.cons _ (List.Sublist.refl _)) (fun s D y a' e => ?_) (TS.cons (TX.ret (TE.pe (PE.name rfl) ⟨_, ?_, .inl rfl⟩))))
      · rw [List.lookup_cons] at e
        by_cases q : y = ("rounds" : Str)
        · subst q
          simp at e; subst e
          refine ⟨_, h2, fun v hv => ?_⟩
          cases hv
          exact d_of_lst (D.seen_list (.cons _ (List.Sublist.refl _)) List.mem_cons_self (by
            have := (List.nodup_cons.mp ndq).1
            exact this))
        · rw [show (y == ("rounds" : Str)) = false by simpa using q] at e; cases e
      · rw [List.append_nil] at k
        exact k _ _ _ _
end
end Mine
end
section
open PySem
set_option maxRecDepth 100000
set_option linter.unusedVariables false
set_option autoImplicit false
namespace Mine
/-- the fourteen words of three signs at most, by their last sign -/
noncomputable def endA : List (List Nat) := [[97], [97, 97], [98, 97], [97, 97, 97], [98, 97, 97], [97, 98, 97], [98, 98, 97]]
noncomputable def endB : List (List Nat) := [[98], [97, 98], [98, 98], [97, 97, 98], [98, 97, 98], [97, 98, 98], [98, 98, 98]]
noncomputable def bits (xs ys : List Bool) (u : List Nat) : Bool := (((endA ++ endB).zip (xs ++ ys)).lookup u).getD false
noncomputable def bs : List Bool := [false, true]
/-- what may hold of them: x[a], x[aa], x[ba], x[aaa], x[baa], x[aba], x[bba] -/
noncomputable def optsA : List (List Bool) := bs.flatMap fun a => bs.flatMap fun aa => bs.flatMap fun ba => bs.flatMap fun baa => bs.flatMap fun aba => bs.flatMap fun bba =>
  if (!a || (aa && ba)) && (!aa || baa) && (!ba || (aba && bba)) then [[a, aa, ba, true, baa, aba, bba]] else []
noncomputable def optsB : List (List Bool) := bs.flatMap fun b => bs.flatMap fun ab => bs.flatMap fun bb => bs.flatMap fun aab => bs.flatMap fun bab => bs.flatMap fun abb =>
  if (!b || (ab && bb)) && (!ab || (aab && bab)) && (!bb || abb) then [[b, ab, bb, aab, bab, abb, true]] else []
noncomputable def last3 (n : List Nat) : List Nat := n.drop (n.length - 3)
noncomputable def appB (B : List Nat → Bool) (u : List Nat) : Bool := (List.range u.length).any fun k => B (u.take (k + 1))
noncomputable def rowB (B : List Nat → Bool) : Nat → List (List Nat)
  | 0 => [[]]
  | k + 1 => (longer (rowB B k)).filter fun n => !B (last3 n)
noncomputable def winds (w : List Nat) : List (List Nat) := (List.range 6).map fun k => last3 ((sixOf w).take (k + 1))
noncomputable def endB' (B : List Nat → Bool) : List (List Nat) := endWords.filter fun w => !(winds w).any B
noncomputable def endsOf (rw : List (List Nat)) : List (List Nat) := rw.map fun n => n.drop (n.length - 2)
noncomputable def dueOf (rows : List (List (List Nat))) : List (List (List Nat)) := (List.range 4).map fun k => words2.filter fun u => decide (u ∈ endsOf (rows.getD (k + 2) [])) && !decide (u ∈ endsOf (rows.getD (k + 3) []))
noncomputable def lettersOf (ring : List (List Nat)) : List Nat := (ring.drop 1).map fun p => p.headD 0
noncomputable def turnsOf (l : List Nat) : List (List Nat) := (List.range l.length).map fun k => l.drop k ++ l.take k
noncomputable def lawOk (g : List Nd) (rows : List (List (List Nat))) (en : List (List Nat)) : Bool :=
  match cyc g, roundsM 20 g (readyOf g) 0 0 with
  | some res, some rs =>
    (names g).Nodup && decide (g.length ≤ 4) && decide (rs = (dueOf rows).filter fun r => !r.isEmpty) && (res.isSome == !(endsOf (rows.getD 6 [])).isEmpty) && (res.isSome == !en.isEmpty) &&
    (match res with
    | none => true
    | some ring => decide (2 ≤ ring.length) && decide (ring.length ≤ 10) && ring.all (fun p => decide (p ∈ words2)) && decide (ring.head? = ring.getLast?) && (turnsOf (lettersOf ring)).any fun t => decide (t ∈ en))
  | _, _ => false
noncomputable def stateOk (xs ys : List Bool) : Bool := lawOk (graphOf (appB (bits xs ys))) ((List.range 7).map (rowB (bits xs ys))) (endB' (bits xs ys))
noncomputable def rowOk (x : List Bool) : Bool := optsB.all fun y => stateOk x y
theorem ok0 : rowOk (optsA.getD 0 []) = true := by decide +kernel
theorem ok1 : rowOk (optsA.getD 1 []) = true := by decide +kernel
theorem ok2 : rowOk (optsA.getD 2 []) = true := by decide +kernel
theorem ok3 : rowOk (optsA.getD 3 []) = true := by decide +kernel
theorem ok4 : rowOk (optsA.getD 4 []) = true := by decide +kernel
theorem ok5 : rowOk (optsA.getD 5 []) = true := by decide +kernel
theorem ok6 : rowOk (optsA.getD 6 []) = true := by decide +kernel
theorem ok7 : rowOk (optsA.getD 7 []) = true := by decide +kernel
theorem ok8 : rowOk (optsA.getD 8 []) = true := by decide +kernel
theorem ok9 : rowOk (optsA.getD 9 []) = true := by decide +kernel
theorem ok10 : rowOk (optsA.getD 10 []) = true := by decide +kernel
theorem ok11 : rowOk (optsA.getD 11 []) = true := by decide +kernel
theorem ok12 : rowOk (optsA.getD 12 []) = true := by decide +kernel
theorem ok13 : rowOk (optsA.getD 13 []) = true := by decide +kernel
theorem ok14 : rowOk (optsA.getD 14 []) = true := by decide +kernel
theorem ok15 : rowOk (optsA.getD 15 []) = true := by decide +kernel
theorem opts_all {x y : List Bool} (hx : x ∈ optsA) (hy : y ∈ optsB) : stateOk x y = true := by
  have h : ∀ i < 16, rowOk (optsA.getD i []) = true := fun i hi => by
    match i, hi with
    | 0, _ => exact ok0 | 1, _ => exact ok1 | 2, _ => exact ok2 | 3, _ => exact ok3 | 4, _ => exact ok4 | 5, _ => exact ok5 | 6, _ => exact ok6 | 7, _ => exact ok7
    | 8, _ => exact ok8 | 9, _ => exact ok9 | 10, _ => exact ok10 | 11, _ => exact ok11 | 12, _ => exact ok12 | 13, _ => exact ok13 | 14, _ => exact ok14 | 15, _ => exact ok15
    | n + 16, h => exact absurd h (by omega)
  obtain ⟨i, hi, rfl⟩ := List.getElem_of_mem hx
  have hl : optsA.length = 16 := by decide +kernel
  have := h i (hl ▸ hi)
  rw [List.getD_eq_getElem?_getD, List.getElem?_eq_getElem hi, Option.getD_some] at this
  exact List.all_eq_true.mp this y hy
end Mine
end
section
open PySem
set_option maxRecDepth 100000
set_option linter.unusedVariables false
set_option autoImplicit false
namespace Mine
noncomputable def anyFit (ps : List (List Nat)) (u : List Nat) : Bool := ps.any fun p => fits p u
theorem any_swap {α β : Type} (f : α → β → Bool) (l : List α) (m : List β) : (l.any fun a => m.any fun b => f a b) = m.any fun b => l.any fun a => f a b := by
  rw [Bool.eq_iff_iff]
  simp only [List.any_eq_true]
  exact ⟨fun ⟨a, ha, b, hb, h⟩ => ⟨b, hb, a, ha, h⟩, fun ⟨b, hb, a, ha, h⟩ => ⟨a, ha, b, hb, h⟩⟩
theorem any_cong {α : Type} {f g : α → Bool} {l : List α} (h : ∀ a ∈ l, f a = g a) : l.any f = l.any g := by
  rw [Bool.eq_iff_iff]
  simp only [List.any_eq_true]
  exact ⟨fun ⟨a, ha, q⟩ => ⟨a, ha, (h a ha) ▸ q⟩, fun ⟨a, ha, q⟩ => ⟨a, ha, (h a ha).symm ▸ q⟩⟩
theorem filter_any {α : Type} {f : α → Bool} {l : List α} : (l.filter f).isEmpty = !l.any f := by
  induction l with
  | nil => rfl
  | cons a l ih => rw [List.filter_cons, List.any_cons]; cases f a <;> simp [ih]
theorem pats3 : ∀ p ∈ allPats, p.length ≤ 3 := by decide +kernel
theorem fits_last {p n : List Nat} (hp : p.length ≤ 3) : fits p n = fits p (last3 n) := by
  unfold last3
  by_cases h : n.length ≤ 3
  · rw [show n.length - 3 = 0 by omega]; rfl
  · have e : (n.drop (n.length - 3)).length = 3 := by rw [List.length_drop]; omega
    unfold fits
    rw [e, if_neg (by omega), if_neg (by omega), List.drop_drop, show n.length - 3 + (3 - p.length) = n.length - p.length by omega]
theorem slips_any {ps : List (List Nat)} (hps : ∀ p ∈ ps, p ∈ allPats) (n : List Nat) : slips ps n = !anyFit ps (last3 n) := by
  unfold slips anyFit
  rw [filter_any, any_cong fun p hp => fits_last (pats3 p (hps p hp))]
theorem row_any {ps : List (List Nat)} (hps : ∀ p ∈ ps, p ∈ allPats) : ∀ k, row ps k = rowB (anyFit ps) k
  | 0 => rfl
  | k + 1 => by
    unfold row rowB
    rw [row_any hps k]
    exact List.filter_congr fun n _ => slips_any hps n
theorem app_fact : ∀ p ∈ allPats, ∀ u ∈ words2 ++ words3, ((wordsOf p).map up).any (hit u) = (List.range u.length).any fun k => fits p (u.take (k + 1)) := by decide +kernel
theorem star_fact : ∀ u ∈ words2 ++ words3, hit u [42] = false := by decide +kernel
theorem app_any {ps : List (List Nat)} (hps : ∀ p ∈ ps, p ∈ allPats) {u : List Nat} (hu : u ∈ words2 ++ words3) : (agents ps).any (hit u) = appB (anyFit ps) u := by
  unfold agents appB anyFit
  rw [List.any_cons, star_fact u hu, Bool.false_or, any_swap, List.any_flatMap]
  exact any_cong fun p hp => app_fact p (hps p hp) u hu
theorem end_fact : ∀ p ∈ allPats, ∀ w ∈ endWords, takes ([42] ++ p ++ [42]) (sixOf w) = (winds w).any (fits p) := by decide +kernel
theorem end_any {ps : List (List Nat)} (hps : ∀ p ∈ ps, p ∈ allPats) : endless ps = endB' (anyFit ps) := by
  unfold endless endB'
  refine List.filter_congr fun w hw => ?_
  unfold untaken anyFit
  rw [filter_any, any_swap, any_cong fun p hp => end_fact p (hps p hp) w hw]
/-- only the fourteen words matter -/
theorem bits_eq (B : List Nat → Bool) : ∀ u ∈ endA ++ endB, bits (endA.map B) (endB.map B) u = B u := by
  intro u hu
  simp only [endA, endB, List.cons_append, List.nil_append, List.mem_cons, List.not_mem_nil, or_false] at hu
  rcases hu with rfl | rfl | rfl | rfl | rfl | rfl | rfl | rfl | rfl | rfl | rfl | rfl | rfl | rfl <;> rfl
theorem last3_mem {n : List Nat} (hn : n ≠ []) (hs : ∀ c ∈ n, c = 97 ∨ c = 98) : last3 n ∈ endA ++ endB := by
  have hl : (last3 n).length ≤ 3 := by unfold last3; rw [List.length_drop]; omega
  have h0 : last3 n ≠ [] := fun e => by
    have := congrArg List.length e
    unfold last3 at this; rw [List.length_drop] at this
    have : 0 < n.length := List.length_pos_iff.mpr hn
    simp at *; omega
  have hm : ∀ c ∈ last3 n, c = 97 ∨ c = 98 := fun c hc => hs c (List.mem_of_mem_drop hc)
  generalize last3 n = m at hl h0 hm
  match m, hl, h0, hm with
  | [], _, h0, _ => exact absurd rfl h0
  | [a], _, _, hm => rcases hm a (by simp) with rfl | rfl <;> decide
  | [a, b], _, _, hm => rcases hm a (by simp) with rfl | rfl <;> rcases hm b (by simp) with rfl | rfl <;> decide
  | [a, b, c], _, _, hm => rcases hm a (by simp) with rfl | rfl <;> rcases hm b (by simp) with rfl | rfl <;> rcases hm c (by simp) with rfl | rfl <;> decide
  | _ :: _ :: _ :: _ :: _, hl, _, _ => simp at hl
theorem rowB_signs (B : List Nat → Bool) : ∀ k, ∀ n ∈ rowB B k, ∀ c ∈ n, c = 97 ∨ c = 98
  | 0, n, hn, c, hc => by rw [show n = [] from List.mem_singleton.mp hn] at hc; cases hc
  | k + 1, n, hn, c, hc => by
    unfold rowB at hn
    obtain ⟨m, hm, h2⟩ := List.mem_flatMap.mp (List.mem_filter.mp hn).1
    obtain ⟨d, hd, rfl⟩ := List.mem_map.mp h2
    rcases List.mem_append.mp hc with q | q
    · exact rowB_signs B k m hm c q
    · rw [List.mem_singleton.mp q]; simpa using hd
theorem rowB_cong {B B' : List Nat → Bool} (h : ∀ u ∈ endA ++ endB, B u = B' u) : ∀ k, rowB B k = rowB B' k
  | 0 => rfl
  | k + 1 => by
    have ih := rowB_cong h k
    conv => rhs; unfold rowB
    rw [← ih]
    conv => lhs; unfold rowB
    refine List.filter_congr fun n hn => ?_
    obtain ⟨m, hm, h2⟩ := List.mem_flatMap.mp hn
    obtain ⟨d, hd, rfl⟩ := List.mem_map.mp h2
    rw [h _ (last3_mem (by simp) fun c hc => by
      rcases List.mem_append.mp hc with q | q
      · exact rowB_signs B k m hm c q
      · rw [List.mem_singleton.mp q]; simpa using hd)]
theorem takes_mem : ∀ u ∈ words2 ++ words3, ∀ k ∈ List.range u.length, u.take (k + 1) ∈ endA ++ endB := by decide +kernel
theorem appB_cong {B B' : List Nat → Bool} (h : ∀ u ∈ endA ++ endB, B u = B' u) {u : List Nat} (hu : u ∈ words2 ++ words3) : appB B u = appB B' u := any_cong fun k hk => h _ (takes_mem u hu k hk)
theorem winds_mem : ∀ w ∈ endWords, ∀ u ∈ winds w, u ∈ endA ++ endB := by decide +kernel
theorem endB_cong {B B' : List Nat → Bool} (h : ∀ u ∈ endA ++ endB, B u = B' u) : endB' B = endB' B' := List.filter_congr fun w hw => by rw [any_cong fun u hu => h u (winds_mem w hw u hu)]
theorem foldl_cong {α β : Type} {f g : α → β → α} : ∀ {l : List β} {a : α}, (∀ b ∈ l, ∀ a, f a b = g a b) → l.foldl f a = l.foldl g a
  | [], _, _ => rfl
  | b :: l, a, h => by
    rw [List.foldl_cons, List.foldl_cons, h b List.mem_cons_self]
    exact foldl_cong fun b hb => h b (List.mem_cons_of_mem _ hb)
theorem graphOf_cong {f g : List Nat → Bool} (h : ∀ u ∈ words2 ++ words3, f u = g u) : graphOf f = graphOf g := by
  unfold graphOf
  rw [foldl_cong (f := step2 f) (g := step2 g) fun u hu a => by unfold step2; rw [h u (List.mem_append_left _ hu)]]
  exact foldl_cong fun u hu a => by unfold step3; rw [h u (List.mem_append_right _ hu)]
theorem mono_fact : ∀ p ∈ allPats, ∀ c ∈ [97, 98], (fits p [c] = true → fits p [97, c] = true ∧ fits p [98, c] = true) ∧ ∀ d ∈ [97, 98], fits p [d, c] = true → fits p [97, d, c] = true ∧ fits p [98, d, c] = true := by decide +kernel
theorem mono1 {ps : List (List Nat)} (hps : ∀ p ∈ ps, p ∈ allPats) {c : Nat} (hc : c ∈ [97, 98]) (h : anyFit ps [c] = true) : anyFit ps [97, c] = true ∧ anyFit ps [98, c] = true := by
  obtain ⟨p, hp, q⟩ := List.any_eq_true.mp h
  obtain ⟨h1, h2⟩ := (mono_fact p (hps p hp) c hc).1 q
  exact ⟨List.any_eq_true.mpr ⟨p, hp, h1⟩, List.any_eq_true.mpr ⟨p, hp, h2⟩⟩
theorem mono2 {ps : List (List Nat)} (hps : ∀ p ∈ ps, p ∈ allPats) {c d : Nat} (hc : c ∈ [97, 98]) (hd : d ∈ [97, 98]) (h : anyFit ps [d, c] = true) : anyFit ps [97, d, c] = true ∧ anyFit ps [98, d, c] = true := by
  obtain ⟨p, hp, q⟩ := List.any_eq_true.mp h
  obtain ⟨h1, h2⟩ := (mono_fact p (hps p hp) c hc).2 d hd q
  exact ⟨List.any_eq_true.mpr ⟨p, hp, h1⟩, List.any_eq_true.mpr ⟨p, hp, h2⟩⟩
theorem optsA_mem : ∀ a aa ba baa aba bba : Bool, ((a = true → aa = true ∧ ba = true) ∧ (aa = true → baa = true) ∧ (ba = true → aba = true ∧ bba = true)) → [a, aa, ba, true, baa, aba, bba] ∈ optsA := by decide +kernel
theorem optsB_mem : ∀ b ab bb aab bab abb : Bool, ((b = true → ab = true ∧ bb = true) ∧ (ab = true → aab = true ∧ bab = true) ∧ (bb = true → abb = true)) → [b, ab, bb, aab, bab, abb, true] ∈ optsB := by decide +kernel
theorem plain {ps : List (List Nat)} (hps : ∀ p ∈ ps, p ∈ allPats) (h1 : anyFit ps [97, 97, 97] = true) (h2 : anyFit ps [98, 98, 98] = true) :
    lawOk (graphOf fun u => (agents ps).any (hit u)) ((List.range 7).map (row ps)) (endless ps) = true := by
  have hb := bits_eq (anyFit ps)
  have e1 : graphOf (fun u => (agents ps).any (hit u)) = graphOf (appB (bits (endA.map (anyFit ps)) (endB.map (anyFit ps)))) :=
    graphOf_cong fun u hu => (app_any hps hu).trans (appB_cong hb hu).symm
  have e2 : (List.range 7).map (row ps) = (List.range 7).map (rowB (bits (endA.map (anyFit ps)) (endB.map (anyFit ps)))) :=
    List.map_congr_left fun k _ => (row_any hps k).trans (rowB_cong hb k).symm
  have e3 : endless ps = endB' (bits (endA.map (anyFit ps)) (endB.map (anyFit ps))) := (end_any hps).trans (endB_cong hb).symm
  rw [e1, e2, e3]
  refine opts_all ?_ ?_
  · show [anyFit ps [97], anyFit ps [97, 97], anyFit ps [98, 97], anyFit ps [97, 97, 97], anyFit ps [98, 97, 97], anyFit ps [97, 98, 97], anyFit ps [98, 98, 97]] ∈ optsA
    rw [h1]
    exact optsA_mem _ _ _ _ _ _ ⟨fun h => mono1 hps (by decide) h, fun h => (mono2 hps (by decide) (by decide) h).2, fun h => mono2 hps (by decide) (by decide) h⟩
  · show [anyFit ps [98], anyFit ps [97, 98], anyFit ps [98, 98], anyFit ps [97, 97, 98], anyFit ps [98, 97, 98], anyFit ps [97, 98, 98], anyFit ps [98, 98, 98]] ∈ optsB
    rw [h2]
    exact optsB_mem _ _ _ _ _ _ ⟨fun h => mono1 hps (by decide) h, fun h => mono2 hps (by decide) (by decide) h, fun h => (mono2 hps (by decide) (by decide) h).1⟩
end Mine
end
section
open PySem
set_option maxRecDepth 100000
set_option linter.unusedVariables false
set_option autoImplicit false
namespace Mine
theorem three_mem : ∀ a ∈ signs3, ∀ b ∈ signs3, ∀ c ∈ signs3, [a] ∈ allPats ∧ [a, b] ∈ allPats ∧ [a, b, c] ∈ allPats := by decide +kernel
theorem firstSign_mem {k : Nat} (hk : k < 2) (code : Int) (place : Nat) : firstSign k code place = 97 + k ∨ firstSign k code place = 63 := by
  unfold firstSign; split <;> simp
theorem moreSign_mem (code : Int) (place : Nat) : moreSign code place ∈ signs3 := by
  unfold moreSign
  have h : ∀ n, [97, 98, 63].getD n 97 ∈ signs3 := fun n => by
    match n with
    | 0 => decide
    | 1 => decide
    | 2 => decide
    | n + 3 => show 97 ∈ signs3; decide
  exact h _
theorem morePat_mem (code : Int) : morePat code ∈ allPats := by
  have h0 := Int.fmod_nonneg_of_pos (code.fdiv 8 + 2) (show (0 : Int) < 3 by decide)
  have h1 := Int.fmod_lt_of_pos (code.fdiv 8 + 2) (show (0 : Int) < 3 by decide)
  have hs : moreSize code = 1 ∨ moreSize code = 2 ∨ moreSize code = 3 := by unfold moreSize; omega
  have m := moreSign_mem code
  unfold morePat
  rcases hs with h | h | h <;> rw [h]
  · exact (three_mem _ (m 0) _ (m 0) _ (m 0)).1
  · exact (three_mem _ (m 0) _ (m 1) _ (m 1)).2.1
  · exact (three_mem _ (m 0) _ (m 1) _ (m 2)).2.2
theorem firstPat_mem {k : Nat} (hk : k < 2) (code : Int) : firstPat k code ∈ allPats := by
  have m : ∀ place, firstSign k code place ∈ signs3 := fun place => by
    rcases firstSign_mem hk code place with h | h <;> rw [h]
    · match k, hk with
      | 0, _ => decide
      | 1, _ => decide
    · decide
  exact (three_mem _ (m 0) _ (m 1) _ (m 2)).2.2
theorem first_fits {k : Nat} (hk : k < 2) (code : Int) : fits (firstPat k code) [97 + k, 97 + k, 97 + k] = true := by
  unfold firstPat
  show fits [firstSign k code 0, firstSign k code 1, firstSign k code 2] _ = true
  match k, hk with
  | 0, hk => rcases firstSign_mem hk code 0 with h0 | h0 <;> rcases firstSign_mem hk code 1 with h1 | h1 <;> rcases firstSign_mem hk code 2 with h2 | h2 <;> rw [h0, h1, h2] <;> decide
  | 1, hk => rcases firstSign_mem hk code 0 with h0 | h0 <;> rcases firstSign_mem hk code 1 with h1 | h1 <;> rcases firstSign_mem hk code 2 with h2 | h2 <;> rw [h0, h1, h2] <;> decide
theorem pats_mem (ns : List Int) : ∀ p ∈ pats ns, p ∈ allPats := fun p hp => by
  unfold pats at hp
  rcases List.mem_append.mp hp with h | h
  · simp only [List.mem_cons, List.not_mem_nil, or_false] at h
    rcases h with rfl | rfl
    · exact firstPat_mem (by decide) _
    · exact firstPat_mem (by decide) _
  · obtain ⟨c, _, rfl⟩ := List.mem_map.mp h
    exact morePat_mem c
theorem pats_len (ns : List Int) : (pats ns).length ≤ 5 := by
  unfold pats
  rw [List.length_append, List.length_map, List.length_take]
  have : (codes ns).length = 3 := rfl
  simp; omega
theorem law_true (ns : List Int) : lawOk (graphOf fun u => (agents (pats ns)).any (hit u)) ((List.range 7).map (row (pats ns))) (endless (pats ns)) = true :=
  plain (pats_mem ns) (List.any_eq_true.mpr ⟨_, List.mem_append_left _ List.mem_cons_self, first_fits (k := 0) (by decide) _⟩) (List.any_eq_true.mpr ⟨_, List.mem_append_left _ (List.mem_cons_of_mem _ List.mem_cons_self), first_fits (k := 1) (by decide) _⟩)
theorem agents_ok {ps : List (List Nat)} (hps : ∀ p ∈ ps, p ∈ allPats) : ∀ n ∈ agents ps, n = [42] ∨ ∃ w ∈ allWords, n = up w := fun n hn => by
  unfold agents at hn
  rcases List.mem_cons.mp hn with h | h
  · exact .inl h
  · obtain ⟨p, hp, h2⟩ := List.mem_flatMap.mp h
    obtain ⟨w, hw, rfl⟩ := List.mem_map.mp h2
    have := List.all_eq_true.mp pats_ok p (hps p hp)
    unfold patOk at this
    simp only [Bool.and_eq_true, List.all_eq_true] at this
    exact .inr ⟨w, by simpa using this.1.1.1.2 w hw, rfl⟩
end Mine
end
section
open PySem
set_option maxRecDepth 100000
set_option linter.unusedVariables false
set_option autoImplicit false
namespace Mine
noncomputable def dueAt (ps : List (List Nat)) (k : Nat) : List (List Nat) := words2.filter fun u => decide (u ∈ endsOf (row ps (k + 2))) && !decide (u ∈ endsOf (row ps (k + 3)))
noncomputable def duesOf (ps : List (List Nat)) : List (List (List Nat)) := (List.range 4).map (dueAt ps)
structure LawFacts (ps : List (List Nat)) (g : List Nd) (res : Option (List (List Nat))) (rs : List (List (List Nat))) : Prop where
  cyc : cyc g = some res
  rounds : roundsM 20 g (readyOf g) 0 0 = some rs
  nd : (names g).Nodup
  len : g.length ≤ 4
  due : rs = (duesOf ps).filter fun r => !r.isEmpty
  six : res.isSome = !(endsOf (row ps 6)).isEmpty
  en : res.isSome = !(endless ps).isEmpty
  ring : ∀ ring, res = some ring → 2 ≤ ring.length ∧ ring.length ≤ 10 ∧ (∀ p ∈ ring, p ∈ words2) ∧ ring.head? = ring.getLast? ∧ (turnsOf (lettersOf ring)).any (fun t => decide (t ∈ endless ps)) = true
theorem getD7 (f : Nat → List (List Nat)) {k : Nat} (hk : k < 7) : ((List.range 7).map f).getD k [] = f k := by
  rw [List.getD_eq_getElem?_getD, List.getElem?_map, List.getElem?_range hk]; rfl
theorem dueOf_eq (ps : List (List Nat)) : dueOf ((List.range 7).map (row ps)) = duesOf ps := by
  unfold dueOf duesOf dueAt
  refine List.map_congr_left fun k hk => ?_
  have := List.mem_range.mp hk
  rw [getD7 _ (by omega), getD7 _ (by omega)]
theorem law_facts (ns : List Int) : ∃ res rs, LawFacts (pats ns) (graphOf fun u => (agents (pats ns)).any (hit u)) res rs := by
  have h := law_true ns
  generalize pats ns = ps at h ⊢
  generalize (graphOf fun u => (agents ps).any (hit u)) = g at h ⊢
  unfold lawOk at h
  split at h
  · next res rs h1 h2 =>
    simp only [Bool.and_eq_true, decide_eq_true_eq, beq_iff_eq] at h
    obtain ⟨⟨⟨⟨⟨a1, a2⟩, a3⟩, a4⟩, a5⟩, a6⟩ := h
    rw [dueOf_eq] at a3
    rw [getD7 _ (by decide)] at a4
    refine ⟨res, rs, h1, h2, a1, a2, a3, a4, a5, fun ring e => ?_⟩
    subst e
    simp only [Bool.and_eq_true, decide_eq_true_eq, List.all_eq_true] at a6
    obtain ⟨⟨⟨⟨b1, b2⟩, b3⟩, b4⟩, b5⟩ := a6
    exact ⟨b1, b2, b3, b4, b5⟩
  · cases h
end Mine
end
section
open PySem PySem.Spec PySem.Calls PyProof.Rows PySem.W PySem.SeqAt PySem.Builtin PySem.Builtin.Str
set_option maxRecDepth 100000
set_option linter.unusedVariables false
set_option autoImplicit false
namespace Mine
/-- the frame of a text's own function, entered from outside -/
noncomputable abbrev fmC (name : Str) (scope : Scope) (L fa : Addr) (cd : Value) (hid : List Addr) : Fm := ⟨envOfC name scope L fa cd, (cellsFrom (L + 1) scope.names []).map (·.2), hid, []⟩
/-- what holds of the body of a text's function, whatever frame it got -/
noncomputable def BodyTS (prog : Program) (w : World) (h00 : Heap) (R : Shared) (A : Around) (K : Frag) (f : Addr) (name : Str) (loc : Loc) (Φ : AF → Loc → Led → Prop) : Prop :=
  ∀ fd oc od osl body L fa cd hid, K.lookup f = some ⟨oc, od, .func fd, osl⟩ → fd.body = .stmts body → TS prog w h00 R (A.deeper (envOfC name fd.scope L fa cd)) (fmC name fd.scope L fa cd hid) loc [] body Φ
theorem BodyTS.of {prog : Program} {w : World} {h00 : Heap} {R : Shared} {A : Around} {K : Frag} {f : Addr} {name : Str} {loc : Loc} {Φ : AF → Loc → Led → Prop} {fd : FuncData} {oc : Value} {od : Option Addr} {osl : Array (Option Value)} {body : List Stmt}
    (ho : K.lookup f = some ⟨oc, od, .func fd, osl⟩) (hb : fd.body = .stmts body) (go : ∀ L fa cd hid, TS prog w h00 R (A.deeper (envOfC name fd.scope L fa cd)) (fmC name fd.scope L fa cd hid) loc [] body Φ) : BodyTS prog w h00 R A K f name loc Φ := by
  intro fd' oc' od' osl' body' L fa cd hid h h'
  rw [ho] at h
  cases h
  rw [hb] at h'
  cases h'
  exact go L fa cd hid
theorem FrOk.first {A : Around} {name : Str} {scope : Scope} {L fa : Addr} {cd : Value} {hid : List Addr} (h : A.frames = some []) (hk : scope.kind ≠ .module) : FrOk (A.deeper (envOfC name scope L fa cd)) (fmC name scope L fa cd hid) :=
  ⟨⟨[], Around.frames_deeper h, fun env he => nomatch he⟩, rfl, hk⟩
section
variable {prog : Program} {w : World} {h00 : Heap} {R : Shared} {A : Around} {fm : Fm} {loc : Loc} {led : Led}
theorem PE.notB {e : Expr} {pos : Pos} {b : Bool} (h : PE prog w h00 R A fm loc led e (.d (.bool b))) : PE prog w h00 R A fm loc led (.UnaryOp .Not e pos) (.d (.bool !b)) := fun s D Q E k =>
  wpAny_UnaryOp (h s D _ _ fun v h1 t1 k1 r1 => not_value (by
    obtain ⟨as, r1⟩ := r1
    cases r1
    exact wpAny_truthy_bool (k _ h1 _ k1 vr_bool)))
/-- if e1 op e2: .. , where e1 may change the ledger -/
theorem TX.ifCmp {op : CmpOp} {l r : Expr} {body orelse : List Stmt} {cp pos : Pos} {Φ : AF → Loc → Led → Prop}
    (h : TE prog w h00 R A fm loc led l fun a l1 d1 => ∃ b c, PE prog w h00 R A fm l1 d1 r b ∧ Op2 prog w A (compareOp op) a b (.d (.bool c)) ∧ (c = true → TS prog w h00 R A fm l1 d1 body Φ) ∧ (c = false → TS prog w h00 R A fm l1 d1 orelse Φ))
    (hm : behindInMarks op r = false := by with_unfolding_all rfl) : TX prog w h00 R A fm loc led (.If (.Compare l [op] [r] cp) body orelse pos) Φ := fun s D Q E q => by
  refine wpAny_If (wpAny_isTrue_Compare1 (h s D _ _ fun u s1 a l1 d1 S1 D1 r1 p => ?_) hm)
  obtain ⟨b, c, hr, ho, ht, hf⟩ := p
  refine hr _ D1 _ _ fun v h2 t2 k2 r2 => ?_
  have D2 := D1.quiet (tk := t2) k2
  refine ho _ _ u v _ _ D2.lo (r1.mono (hide_ext k2)) r2 fun y h3 t3 k3 r3 => ?_
  obtain ⟨as, r3⟩ := r3
  cases r3
  have D3 := D2.quiet (tk := t3) k3
  have S3 := S1.trans (Step.quiet (tk := t3) D1 (k2.trans k3))
  have go : ∀ {ss}, TS prog w h00 R A fm l1 d1 ss Φ → wpAny (model prog w) A (execs ss fm.env) Q E { s1 with heap := h3, toks := t3 } := fun hh => hh _ D3 _ _ fun fl s4 af l4 d4 y D4 r4 p4 => q fl s4 af l4 d4 (S3.trans y) D4 r4 p4
  refine wpAny_truthy_bool ?_
  cases c with
  | true => exact go (ht rfl)
  | false => exact go (hf rfl)
theorem canLay_rows : ∀ (l : List (List (List Nat))), (∀ x ∈ l, shaped (strsD x) = true) → PyData.canLayAll0 (l.map strsD) = true
  | [], _ => rfl
  | x :: l, h => by
    rw [List.map_cons]
    have := canLay_of_shaped (h x List.mem_cons_self)
    simp only [PyData.canLayAll0, this, canLay_rows l fun y hy => h y (List.mem_cons_of_mem _ hy), Bool.and_self]
theorem depth_rows : ∀ (l : List (List (List Nat))), PyData.depthAll (l.map strsD) ≤ 1
  | [] => by simp [PyData.depthAll]
  | x :: l => by
    have h := depth_rows l
    have h2 : PyData.depth (strsD x) = 1 := by
      have this : PyData.depthAll (x.map strD) = 0 := by
        have := depth_strs (x.map S)
        rwa [List.map_map] at this
      unfold strsD
      simp only [PyData.depth, this]
    rw [List.map_cons]
    simp only [PyData.depthAll]
    omega
theorem shaped_rows {l : List (List (List Nat))} (h : ∀ x ∈ l, ∀ y ∈ x, ∀ c ∈ y, c < 128) : shaped (.list (l.map strsD)) = true := by
  have h1 := canLay_rows l fun x hx => shaped_words (h x hx)
  have h2 := depth_rows l
  unfold shaped
  rw [Bool.and_eq_true]
  refine ⟨by simpa only [PyData.canLay0] using h1, decide_eq_true ?_⟩
  simp only [PyData.depth]
  omega
theorem eqv_rows {l : List (List (List Nat))} (h : ∀ x ∈ l, ∀ y ∈ x, ∀ c ∈ y, c < 128) : PyData.eqv (.list (l.map strsD)) (.list (l.map strsD)) = true := eqv_refl _ (canLay_of_shaped (shaped_rows h))
theorem shaped_S {x : List Nat} (h : ∀ c ∈ x, c < 128) : shaped (strD x) = true := shaped_str (strOk_S h)
theorem any_eqv (u : List Nat) (l : List (List Nat)) : ((l.map strD).any fun y => PyData.eqv y (strD u)) = decide (u ∈ l) := by
  rw [Bool.eq_iff_iff, List.any_eq_true, decide_eq_true_eq]
  constructor
  · rintro ⟨y, hy, h⟩
    obtain ⟨v, hv, rfl⟩ := List.mem_map.mp hy
    rw [eqv_str] at h
    exact S_eq.mp (beq_iff_eq.mp h) ▸ hv
  · intro h
    exact ⟨_, List.mem_map_of_mem h, by rw [eqv_str]; simp⟩
theorem strCut_end {l : List Nat} {a : Nat} (h : a ≤ l.length) (h0 : 0 < a) : strCut (S l) (some (-(a : Int))) none none = S (l.drop (l.length - a)) := by
  rw [← strCut_drop (l := l) (a := l.length - a) (Nat.sub_le ..)]
  have e : strSliceIndices (some (-(a : Int))) none 1 (S l).length = strSliceIndices (some ((l.length - a : Nat) : Int)) none 1 (S l).length := by
    simp only [strSliceIndices, show ((1 : Int) > 0) = True from by simp, if_true, S_len]
    congr 1
    have h1 : (-(a : Int) < 0) := by omega
    have h2 : ¬ (((l.length - a : Nat) : Int) < 0) := by omega
    simp only [h1, h2, if_true, if_false]
    omega
  unfold strCut
  simp only [Option.getD_none]
  rw [e]
theorem strCut_take {l : List Nat} {a : Nat} (h : a ≤ l.length) : strCut (S l) none (some (a : Int)) none = S (l.take a) := by
  have e : strSliceIndices none (some (a : Int)) 1 (S l).length = strSliceIndices (some ((0 : Nat) : Int)) (some (a : Int)) 1 (S l).length := by
    simp only [strSliceIndices, show ((1 : Int) > 0) = True from by simp, if_true]
    congr 1
  have pk := StrLaws.sliced_plain (S l) (a := 0) (b := a) (Nat.zero_le _) (by rw [S_len]; exact h)
  unfold strCut
  simp only [Option.getD_none]
  rw [e, pk]
  have tk : ((S l).cps.toList.drop 0).take (a - 0) = l.take a := rfl
  rw [tk]
  split
  · next hc =>
    have hc' := (Bool.and_eq_true_iff.mp hc).2
    rw [StrLaws.strSliceIndices_plain (Nat.zero_le _) (by rw [S_len]; exact h), S_len] at hc'
    simp at hc'
    have : a = l.length := by omega
    subst this; rw [List.take_length]
  · rfl
theorem PE.cutEnd {value e : Expr} {p q : Pos} {l : List Nat} {a : Nat} {i : Int} (hv : PE prog w h00 R A fm loc led value (.d (.str (S l)))) (he : PE prog w h00 R A fm loc led e (.d (.int i))) (hi : i = -(a : Int)) (h : a ≤ l.length) (h0 : 0 < a) (hz : l.length < 1000) :
    PE prog w h00 R A fm loc led (.Subscript value (.Slice (some e) none none p) q) (.d (.str (S (l.drop (l.length - a))))) := by
  subst hi
  have := ItemP.strCut (prog := prog) (w := w) (A := A) (x := S l) (l := some (-(a : Int))) (u := none) (st := none) (by decide) (by
    rw [strCut_end h h0, S_len, List.length_drop]; have := line_big
    omega)
  rw [strCut_end h h0] at this
  exact PE.item hv (PE.slice (l := some e) (u := none) (st := none) (a := some (-(a : Int))) (b := none) (c := none) he trivial trivial) this
/-- a told list, from one place on -/
theorem PE.cutList {value e : Expr} {p q : Pos} {ds : List PyData} {a : Nat} {i : Int} (hv : PE prog w h00 R A fm loc led value (.d (.list ds))) (he : PE prog w h00 R A fm loc led e (.d (.int i))) (hi : i = a) (h : a ≤ ds.length) (hz : ds.length < 1000) :
    PE prog w h00 R A fm loc led (.Subscript value (.Slice (some e) none none p) q) (.d (.list (ds.drop a))) := by
  subst hi
  refine PE.mono (PE.item hv (PE.slice (l := some e) (u := none) (st := none) (a := some (a : Int)) (b := none) (c := none) he trivial trivial) (ItemP.pickD nofun (by have := line_big; omega))) fun B v r => d_of_lst ?_
  rwa [pick_drop _ _ h] at r
/-- the last of a told list -/
theorem PE.lastD {value e : Expr} {q : Pos} {ds : List PyData} {a : PyData} (hv : PE prog w h00 R A fm loc led value (.d (.list ds))) (he : PE prog w h00 R A fm loc led e (.d (.int (-1)))) (h : ds.getLast? = some a) (hz : ds.length < 1000)
    (hsl : ∀ u v, subscripted e false u v = operate [u, v] (getItem u v) ∨ subscripted e false u v = operate [v, u] (getItem u v) := by first | exact fun _ _ => .inl rfl | exact fun _ _ => .inr rfl) :
    PE prog w h00 R A fm loc led (.Subscript value e q) (.d a) := by
  have hne : 0 < ds.length := by cases ds with | nil => cases h | cons _ _ => simp
  refine PE.item hv he (fun X s u v Q E lo ru rv k => ?_) hsl
  obtain ⟨l, o, vs, m, rfl, e, hc, hd, r⟩ := lst_of_d ru
  obtain ⟨t2, rfl⟩ := reads_int rv
  obtain ⟨y, hy, ry⟩ := (r.at (ds.length - 1)).1 (.d a) (by rw [List.getElem?_map, ← List.getLast?_eq_getElem?, h]; rfl)
  have hl : s.heap.IsList l vs.toArray := ⟨_, hide_le _ _ e, hc, m, hd⟩
  have hlen : vs.length = ds.length := by rw [r.len, List.length_map]
  exact ⟨"list", _, hl.typeIs, F.slot_list_getitem.lookup, wpAny_getItem_list_neg hl (by decide) (by rw [List.size_toArray, hlen]; omega) (by decide) (by rw [List.size_toArray, hlen, show ((-1 : Int) + (ds.length : Int)).toNat = ds.length - 1 by omega]; simpa using hy) (k _ s.heap s.toks Ext.rfl ry)⟩
end
end Mine
end
section
open PySem PySem.Spec PySem.Calls PyProof.Rows PySem.W PySem.SeqAt PySem.Builtin PySem.Builtin.Str
set_option maxRecDepth 100000
set_option linter.unusedVariables false
set_option autoImplicit false
namespace Mine
theorem stores_cellC {name : Str} {scope : Scope} {L fa : Addr} {cd : Value} {hid : List Addr} {x : Str} (h : scope.names.lookup x = some .cell) (nd : ((cellsFrom 0 scope.names []).map (·.1)).Nodup) : Stores (fmC name scope L fa cd hid) x := by
  have hs := cellsFrom_some scope.names (L + 1) [] (.inl h)
  obtain ⟨c, hc⟩ := Option.isSome_iff_exists.mp hs
  refine .inr ⟨h, c, hc, List.mem_map_of_mem (f := (·.2)) (PySem.mem_of_lookup hc), fun y c' hy hc' q => hy ?_⟩
  subst q
  refine PySem.name_of_addr ?_ (PySem.mem_of_lookup hc') (PySem.mem_of_lookup hc)
  have ok := cellsFrom_ok scope.names { objs := Array.replicate (L + 1) default } (L + 1) [] ⟨fun _ _ hm => (nomatch hm), List.Pairwise.nil⟩ (by simp)
  have : ({ objs := Array.replicate (L + 1) default } : Heap).objs.size = L + 1 := by simp
  rw [this] at ok
  exact ok.apart
theorem none_list {ds : List PyData} : ∀ B v, VR B (.d (.list ds)) v → (v == Value.none) = false := fun B v h => by
  obtain ⟨a, o, vs, n, rfl, _⟩ := lst_of_d h
  rfl
theorem eqv_bool (a b : Bool) : PyData.eqv (.bool a) (.bool b) = (a == b) := by cases a <;> cases b <;> simp [PyData.eqv]
theorem shaped_bool (a : Bool) : shaped (.bool a) = true := by simp [shaped, PyData.canLay0, PyData.depth]
theorem words2_small : ∀ u ∈ words2, (∀ c ∈ u, c < 128) ∧ u.length = 2 := by decide
theorem row_small {ps : List (List Nat)} {k : Nat} : ∀ n ∈ row ps k, n.length = k ∧ ∀ c ∈ n, c < 128 := fun n hn => by
  obtain ⟨h1, h2⟩ := row_of hn
  exact ⟨h1, fun c hc => by rcases h2 c hc with z | z <;> omega⟩
theorem ends_small {ps : List (List Nat)} {k : Nat} : ∀ x ∈ endsOf (row ps k), ∀ c ∈ x, c < 128 := fun x hx c hc => by
  obtain ⟨n, hn, rfl⟩ := List.mem_map.mp hx
  exact (row_small n hn).2 c (List.mem_of_mem_drop hc)
theorem endless_small {ps : List (List Nat)} : ∀ x ∈ endless ps, ∀ c ∈ x, c < 128 := fun x hx => (show ∀ u ∈ endWords, ∀ c ∈ u, c < 128 by decide) x (List.mem_filter.mp hx).1
theorem pat_small : ∀ p ∈ allPats, p.length ≤ 3 ∧ (∀ c ∈ p, c < 128) ∧ ∀ c ∈ p, c = 97 ∨ c = 98 ∨ c = 63 := by decide +kernel
theorem flat_rows (f : Nat → List (List Nat)) : ∀ l : List Nat, (l.flatMap fun k => [strsD (f k)]) = (l.map f).map strsD := fun l => flat_one f strsD l
section
variable {prog : Program} {w : World} {h00 : Heap} {R : Shared} {A : Around}
theorem IterP.rows {l : List (List (List Nat))} (hh : A.handled = none) : IterP prog w h00 R A (.d (.list (l.map strsD))) (l.map fun r => AV.d (strsD r)) := by
  have := IterP.list (prog := prog) (w := w) (h00 := h00) (R := R) (ds := l.map strsD) hh
  rwa [List.map_map] at this
section
variable {fm : Fm} {loc : Loc} {led : Led}
theorem PT.inW {op : CmpOp} {l r : Expr} {pos : Pos} {u : List Nat} {ws : List (List Nat)} (hop : op = .In) (hl : PE prog w h00 R A fm loc led l (.d (strD u))) (hr : PE prog w h00 R A fm loc led r (.d (strsD ws))) (hu : ∀ c ∈ u, c < 128) (hw : ∀ x ∈ ws, ∀ c ∈ x, c < 128) (hA : A.units + 65 < cLine)
    (hm : behindInMarks op r = false := by with_unfolding_all rfl) : PT prog w h00 R A fm loc led (.Compare l [op] [r] pos) (decide (u ∈ ws)) := by
  subst hop
  have := PT.cmp (pos := pos) hl hr (Op2.inL (prog := prog) (w := w) (x := strD u) (xs := ws.map strD) (shaped_words hw) (shaped_S hu) hA) hm
  rwa [any_eqv] at this
theorem PT.notInW {op : CmpOp} {l r : Expr} {pos : Pos} {u : List Nat} {ws : List (List Nat)} (hop : op = .NotIn) (hl : PE prog w h00 R A fm loc led l (.d (strD u))) (hr : PE prog w h00 R A fm loc led r (.d (strsD ws))) (hu : ∀ c ∈ u, c < 128) (hw : ∀ x ∈ ws, ∀ c ∈ x, c < 128) (hA : A.units + 65 < cLine)
    (hm : behindInMarks op r = false := by with_unfolding_all rfl) : PT prog w h00 R A fm loc led (.Compare l [op] [r] pos) (!decide (u ∈ ws)) := by
  subst hop
  have := PT.cmp (pos := pos) hl hr (Op2.notInL (prog := prog) (w := w) (x := strD u) (xs := ws.map strD) (shaped_words hw) (shaped_S hu) hA) hm
  rwa [any_eqv] at this
end
set_option maxHeartbeats 8000000 in
theorem c_law (G : Top0 w.params h00) (hA : Roomy 5 50 A) (hfr : A.frames = some []) (ns : List Int) (hn : ns.length ≤ 63) :
    BodyTS prog w h00 R A (KK w.params) 280 "law" [("script", .d (intsD ns))] (fun af _ _ => af = .ret (.d (.bool true))) := by
  refine BodyTS.of rfl rfl fun L fa cd hid => ?_
  have hA' : ∀ env, Roomy 6 53 (A.deeper env) := fun _ => hA.deeper
  have hu : ∀ env, (A.deeper env).units + 65 < cLine := fun env => Nat.lt_trans (Nat.add_lt_add_right (hA' env).u 65) (by decide)
  have hbig := line_big
  obtain ⟨res, rs, F⟩ := law_facts ns
  have hps := pats_mem ns
  have hpl := pats_len ns
  refine TS.cons (TX.assign rfl (.inl rfl) (TE.pe (PE.callK G.X (by kernel_rfl) (PE.glob0 G rfl) (PEs.cons (PE.name rfl) PEs.nil) (c_patterns G (hA' _).le ns (by omega))) ?_))
  generalize pats ns = ps at F hps hpl ⊢
  refine TS.cons (TX.assign rfl (.inl rfl) (TE.callK G.X (by kernel_rfl) (PE.glob0 G rfl) (PEs.cons (PE.callK G.X (by kernel_rfl) (PE.glob0 G rfl) (PEs.cons (PE.name rfl) PEs.nil) (c_record G (hA' _).le ps hps (by omega))) PEs.nil) (c_lsorter G (hA' _).le (agents ps) (agents_ok hps) fun ad hs => ?_)))
  generalize (graphOf fun u => (agents ps).any (hit u)) = g at F ⊢
  have mS : (ad.S, AO.inst 220 ad.D) ∈ frz ad g := by simp [frz]
  have mD : (ad.D, AO.dict (sorE ad.N (.d .none) 0 0)) ∈ live ad (.d .none) 0 0 g := by simp [live]
  refine TS.cons (TX.assign rfl (.inl rfl) (TE.methKL G.X (by kernel_rfl) (PE.name rfl) (MethX.instH G.X (Has.ofLoc (y := "sorter") rfl mS) (Has.ofLed mD) rfl (by kernel_rfl) (by kernel_rfl) (by kernel_rfl)) (c_find (led2 := []) G (hA' _).le (FrOk.first hfr (by decide)) hs F.nd F.cyc ?_)))
  refine TS.cons (TX.assign rfl (.inl rfl) (TE.callK G.X (by kernel_rfl) (PE.glob0 G rfl) (PEs.cons (PE.name rfl) PEs.nil) (c_refused (led2 := []) G (hA' _).le (FrOk.first hfr (by decide)) hs F.nd (Nat.le_trans F.len (by decide)) F.cyc (fun r e => ?_) fun r => ?_)))
  · obtain ⟨h1, h2, _⟩ := F.ring r e
    exact ⟨fun z => by rw [z] at h1; simp at h1, by omega⟩
  -- the rows and their ends
  generalize hE : ((List.range 7).map (row ps)).drop 2 = rws
  have hrl : rws.length = 5 := by rw [← hE]; rfl
  have hrw : ∀ k < 5, rws[k]? = some (row ps (k + 2)) := fun k hk => by
    rw [← hE, List.getElem?_drop, List.getElem?_map, List.getElem?_range (by omega), Nat.add_comm 2 k]; rfl
  have hrm : ∀ rw' ∈ rws, ∃ k, 2 ≤ k ∧ k ≤ 6 ∧ rw' = row ps k := fun rw' h => by
    obtain ⟨k, hk, e⟩ := List.getElem_of_mem h
    have := hrw k (by omega)
    rw [List.getElem?_eq_getElem hk] at this
    exact ⟨k + 2, by omega, by omega, by rw [← e]; exact Option.some.inj this⟩
  refine TS.cons (TX.assign rfl (stores_cellC rfl (by decide)) (TE.pe (PE.comp (g := fun r => AV.d (strsD r)) (xs := rws) (fun r => [strsD (endsOf r)]) []
    (PE.to (c := .d (.list (rws.map strsD))) (PE.cutList (a := 2) (PE.callK G.X (by kernel_rfl) (PE.glob0 G rfl) (PEs.cons (PE.name rfl) PEs.nil) (c_grown G (hA' _).le ps (fun p hp => ⟨by have := (pat_small p (hps p hp)).1; omega, (pat_small p (hps p hp)).2.1⟩) (by omega))) PE.cInt rfl ?_ ?_) ?_)
    ?_ ?_ (fun C hid2 rw' hrw' => ⟨true, PIfs.nil, noTF, fun _ => ⟨_, rfl, PE.to (PE.comp (g := fun n => AV.d (strD n)) (xs := rw') (fun n => [strD (n.drop (n.length - 2))]) [] (PE.name rfl) (IterP.words (hA' _).h) ?_
      (fun C2 hid3 n hn => ⟨true, PIfs.nil, noTF, fun _ => ⟨_, rfl, PE.cutEnd (a := 2) (PE.name rfl) (PE.neg PE.cInt) rfl ?_ (by decide) ?_⟩⟩) Caps.nil) ?_⟩⟩) Caps.nil) ?_))
  · simp
  · simp
  · rw [← hE, List.map_drop, List.map_map]; rfl
  · exact IterP.rows (hA' _).h
  · refine Nat.le_trans (len_flat (c := 1) fun n _ => by simp) ?_
    omega
  · refine Nat.le_trans (len_flat (c := 1) fun n _ => by simp) ?_
    obtain ⟨k, h1, h2, rfl⟩ := hrm rw' hrw'
    have := row_len ps k
    have : 2 ^ k ≤ 2 ^ 6 := Nat.pow_le_pow_right (by decide) h2
    omega
  · obtain ⟨k, h1, h2, rfl⟩ := hrm rw' hrw'
    have := (row_small n hn).1
    omega
  · obtain ⟨k, h1, h2, rfl⟩ := hrm rw' hrw'
    have := (row_small n hn).1
    omega
  · exact congrArg (fun l => AV.d (PyData.list l)) (flat_one (fun n : List Nat => n.drop (n.length - 2)) strD rw')
  rw [show (rws.flatMap fun r => [strsD (endsOf r)]) = (rws.map endsOf).map strsD from flat_one endsOf strsD rws]
  have hE2 : ∀ k < 5, ((rws.map endsOf).map strsD)[k]? = some (strsD (endsOf (row ps (k + 2)))) := fun k hk => by
    rw [List.getElem?_map, List.getElem?_map, hrw k hk]; rfl
  have hEl : ((rws.map endsOf).map strsD).length < 2 ^ 62 := by rw [List.length_map, List.length_map, hrl]; decide
  -- what is due
  refine TS.cons (TX.comp (cl := [("ends", L + 1)]) (g := fun k : Nat => AV.d (.int k)) (xs := List.range 4) (fun k => [strsD (dueAt ps k)]) [("ends", .d (.list ((rws.map endsOf).map strsD)))] rfl (.inl rfl)
    (PE.range (n := 4) (PE.built0 G (by kernel_rfl) (by kernel_rfl) (by decide)) PE.cInt) (IterP.range (by decide) (hA' _).h) ?_
    (fun C hid2 k hk => ⟨true, PIfs.nil, noTF, fun _ => ⟨_, rfl, PE.to (PE.comp (g := fun u => AV.d (strD u)) (xs := words2) (fun u => if (decide (u ∈ endsOf (row ps (k + 2))) && !decide (u ∈ endsOf (row ps (k + 3)))) = true then [strD u] else []) [("ends", .d (.list ((rws.map endsOf).map strsD))), ("k", .d (.int k))]
      (PE.displayD (ds := words2.map strD) (PEs.cons PE.cStr (PEs.cons PE.cStr (PEs.cons PE.cStr (PEs.cons PE.cStr PEs.nil)))) (by decide)) (IterP.words (hA' _).h) ?_
      (fun C2 hid3 u hu' => ⟨decide (u ∈ endsOf (row ps (k + 2))) && !decide (u ∈ endsOf (row ps (k + 3))), PIfs.one (PT.and
          (PT.inW rfl (PE.name rfl) (PE.item (PE.name rfl) (PE.name rfl) (ItemP.list (hE2 k ?_) hEl)) (words2_small u hu').1 ends_small (hu _))
          (fun _ => PT.notInW rfl (PE.name rfl) (PE.item (PE.name rfl) (PE.bin (PE.name rfl) PE.cInt Op2.add) (ItemP.list (n := k + 1) (hE2 (k + 1) ?_) hEl)) (words2_small u hu').1 ends_small (hu _))),
        fun q => if_neg (by rw [q]; decide), fun q => ⟨_, if_pos q, PE.name rfl⟩⟩)
      ?_) ?_⟩⟩) ?_ ?_)
  all_goals first | (have hk4 := List.mem_range.mp hk) | skip
  · refine Nat.le_trans (len_flat (c := 1) fun n _ => by simp) ?_
    rw [List.length_range]; omega
  · refine Nat.le_trans (len_flat (c := 1) fun n _ => by split <;> simp) ?_
    show 4 * 1 ≤ sizeLine
    omega
  · omega
  · omega
  · exact Caps.cons (fun _ _ => .inl rfl) (fun _ _ => rfl) rfl (.inl rfl) (Caps.cons (fun _ _ => .inl rfl) (fun _ _ => rfl) rfl (.inl rfl) Caps.nil)
  · rw [flat_filter]; rfl
  rotate_left
  · exact Caps.cons (fun _ _ => .inl rfl) (fun _ _ => rfl) rfl (.inl rfl) Caps.nil
  rw [show ((List.range 4).flatMap fun k => [strsD (dueAt ps k)]) = (duesOf ps).map strsD from flat_one (dueAt ps) strsD _]
  -- the rounds
  have hDs : ∀ x ∈ duesOf ps, ∀ y ∈ x, ∀ c ∈ y, c < 128 := fun x hx y hy => by
    obtain ⟨k, _, rfl⟩ := List.mem_map.mp hx
    exact (words2_small y (List.mem_filter.mp hy).1).1
  have hDl : (duesOf ps).length = 4 := rfl
  refine TS.cons (TX.ifCmp (TE.callK G.X (by kernel_rfl) (PE.glob0 G rfl) (PEs.cons (PE.name rfl) PEs.nil) (c_rounds (led2 := []) G (hA' _).le hs F.nd (Nat.lt_of_le_of_lt (readyOf_len g) (Nat.lt_of_le_of_lt F.len (by decide))) F.rounds (by decide) fun rdy' po' nf' g' =>
    ⟨_, _, PE.comp (g := fun r => AV.d (strsD r)) (xs := duesOf ps) (fun r => if (!r.isEmpty) = true then [strsD r] else []) [] (PE.name rfl) (IterP.rows (hA' _).h) ?_
      (fun C hid2 r hr => ⟨!r.isEmpty, PIfs.one (PT.to (PT.cmp (PE.name rfl) (PE.displayD (ds := []) PEs.nil (by decide)) (Op2.ne (shaped_words (hDs r hr)) shaped_nil (Nat.lt_of_succ_lt (hu _)))) ?_), fun q => if_neg (by rw [q]; decide), fun q => ⟨_, if_pos q, PE.name rfl⟩⟩) Caps.nil,
      Op2.ne ?_ ?_ (Nat.lt_of_succ_lt (hu _)), fun h => ?_, fun _ => TS.nil ?_⟩)))
  · refine Nat.le_trans (len_flat (c := 1) fun n _ => by split <;> simp) ?_
    omega
  · rw [eqv_nil]; cases r <;> rfl
  · rw [F.due]; exact shaped_rows fun x hx => hDs x (List.mem_filter.mp hx).1
  · rw [flat_filter (fun r : List (List Nat) => !r.isEmpty) strsD]; exact shaped_rows fun x hx => hDs x (List.mem_filter.mp hx).1
  · rw [flat_filter (fun r : List (List Nat) => !r.isEmpty) strsD, F.due, eqv_rows fun x hx => hDs x (List.mem_filter.mp hx).1] at h
    cases h
  -- the endless words
  have hsix : ((rws.map endsOf).map strsD)[4]? = some (strsD (endsOf (row ps 6))) := hE2 4 (by decide)
  refine TS.cons (TX.assign rfl (stores_cellC rfl (by decide)) (TE.pe (PE.callK G.X (by kernel_rfl) (PE.glob0 G rfl) (PEs.cons (PE.name rfl) PEs.nil) (c_endless G (hA' _).le ps (fun p hp => ⟨by have := (pat_small p (hps p hp)).1; omega, fun c hc => ?_⟩) (by omega))) ?_))
  · rcases (pat_small p (hps p hp)).2.2 c hc with z | z | z
    · exact .inl z
    · exact .inr (.inl z)
    · exact .inr (.inr (.inl z))
  refine TS.cons (TX.if (b := false) (PT.to (PT.or
      (PT.cmp (PE.name rfl) (PE.cmp (PE.item (PE.name rfl) PE.cInt (ItemP.list (n := 4) hsix hEl)) (PE.displayD (ds := []) PEs.nil (by decide)) (Op2.ne (shaped_words ends_small) shaped_nil (Nat.lt_of_succ_lt (hu _)))) (Op2.ne (shaped_bool _) (shaped_bool _) (Nat.lt_of_succ_lt (hu _))))
      (fun _ => PT.cmp (PE.name rfl) (PE.cmp (PE.name rfl) (PE.displayD (ds := []) PEs.nil (by decide)) (Op2.ne (shaped_words endless_small) shaped_nil (Nat.lt_of_succ_lt (hu _)))) (Op2.ne (shaped_bool _) (shaped_bool _) (Nat.lt_of_succ_lt (hu _))))) ?_) noFT fun _ => TS.nil ?_)
  · rw [eqv_nil, eqv_nil, eqv_bool, eqv_bool, F.six]
    have e1 : ((endsOf (row ps 6)).map strD).isEmpty = (endsOf (row ps 6)).isEmpty := by cases endsOf (row ps 6) <;> rfl
    have e2 : ((endless ps).map strD).isEmpty = (endless ps).isEmpty := by cases endless ps <;> rfl
    rw [e1, e2, F.six.symm.trans F.en]
    cases (endless ps).isEmpty <;> rfl
  cases res with
  | none =>
    refine TS.cons (TX.if (b := true) (PT.cmp (PE.name rfl) PE.cNone (Op2.isNone none_none)) (fun _ => ?_) noTF)
    exact TS.cons (TX.ret (TE.pe (PE.notB (b := false) (PE.name rfl)) rfl))
  | some ring =>
    obtain ⟨r1, r2, r3, r4, r5⟩ := F.ring ring rfl
    refine TS.cons (TX.if (b := false) (PT.cmp (PE.name rfl) PE.cNone (Op2.isNone none_list)) noFT fun _ => TS.nil ?_)
    have r3s : ∀ p ∈ ring, (∀ c ∈ p, c < 128) ∧ p.length = 2 := fun p hp => words2_small p (r3 p hp)
    have hll : (lettersOf ring).length ≤ 10 := by unfold lettersOf; rw [List.length_map, List.length_drop]; omega
    have hls : ∀ c ∈ lettersOf ring, c < 128 := fun c hc => by
      obtain ⟨p, hp, rfl⟩ := List.mem_map.mp hc
      obtain ⟨h1, h2⟩ := r3s p (List.mem_of_mem_drop hp)
      cases p with
      | nil => simp at h2
      | cons a p => exact h1 a List.mem_cons_self
    refine TS.cons (TX.assign rfl (stores_cellC rfl (by decide)) (TE.pe (PE.to (c := .d (strD (lettersOf ring))) (PE.meth (id := "str.join") PE.cStr (MethP.str PySem.F.slot_str_join PySem.F.type_str_join) (PEs.cons
      (PE.to (c := .d (strsD ((ring.drop 1).map fun p => [p.headD 0]))) (PE.comp (g := fun p => AV.d (strD p)) (xs := ring.drop 1) (fun p => [strD [p.headD 0]]) []
        (PE.to (c := .d (strsD (ring.drop 1))) (PE.cutList (a := 1) (ds := ring.map strD) (PE.name rfl) PE.cInt rfl ?_ ?_) ?_) (IterP.words (hA' _).h) ?_
        (fun C hid2 p hp => ⟨true, PIfs.nil, noTF, fun _ => ⟨_, rfl, PE.sign (k := 0) (PE.name rfl) PE.cInt ?_ ?_⟩⟩) Caps.nil) ?_) PEs.nil) (CallP.join ?_)) ?_) ?_))
    · rw [List.length_map]; omega
    · rw [List.length_map]; omega
    · exact congrArg (fun l => AV.d (PyData.list l)) List.map_drop.symm
    · refine Nat.le_trans (len_flat (c := 1) fun n _ => by simp) ?_
      rw [List.length_drop]; omega
    · have h2 := (r3s p (List.mem_of_mem_drop hp)).2
      cases p with
      | nil => simp at h2
      | cons a p => rfl
    · have h2 := (r3s p (List.mem_of_mem_drop hp)).2
      omega
    · exact congrArg (fun l => AV.d (PyData.list l)) (flat_one (fun p : List Nat => [p.headD 0]) strD (ring.drop 1))
    · have : ∀ l : List (List Nat), ((l.map fun p => [p.headD 0]).map (·.length)).sum = l.length := fun l => by
        induction l with
        | nil => rfl
        | cons p l ih => rw [List.map_cons, List.map_cons, List.sum_cons, ih, List.length_cons]; exact Nat.add_comm 1 _
      rw [this, List.length_drop]; omega
    · rw [flat_sing]; rfl
    refine TS.cons (TX.comp (cl := [("letters", L + 1 + 1 + 1)]) (g := fun k : Nat => AV.d (.int k)) (xs := List.range (lettersOf ring).length) (fun k => [strD ((lettersOf ring).drop k ++ (lettersOf ring).take k)]) [("letters", .d (strD (lettersOf ring)))] rfl (.inl rfl)
      (PE.range (PE.built0 G (by kernel_rfl) (by kernel_rfl) (by decide)) (PE.lenS G (PE.name rfl) (by omega))) (IterP.range (by omega) (hA' _).h) ?_
      (fun C hid2 k hk => ⟨true, PIfs.nil, noTF, fun _ => ⟨_, rfl, PE.bin (PE.cutFrom (a := k) (PE.name rfl) (PE.name rfl) rfl ?_ (by omega)) (PE.cutTo (n := k) (PE.name rfl) (PE.name rfl) (strCut_take ?_) ?_) (Op2.addL ?_)⟩⟩) ?_ ?_)
    all_goals first | (have hk4 := List.mem_range.mp hk) | skip
    · refine Nat.le_trans (len_flat (c := 1) fun n _ => by simp) ?_
      rw [List.length_range]; omega
    · omega
    · omega
    · rw [List.length_take]; omega
    · rw [List.length_append, List.length_take, List.length_drop]; omega
    rotate_left
    · exact Caps.cons (fun _ _ => .inl rfl) (fun _ _ => rfl) rfl (.inl rfl) Caps.nil
    rw [show ((List.range (lettersOf ring).length).flatMap fun k => [strD ((lettersOf ring).drop k ++ (lettersOf ring).take k)]) = (turnsOf (lettersOf ring)).map strD from flat_one (fun k => (lettersOf ring).drop k ++ (lettersOf ring).take k) strD _]
    have hts : ∀ x ∈ turnsOf (lettersOf ring), ∀ c ∈ x, c < 128 := fun x hx c hc => by
      obtain ⟨k, _, rfl⟩ := List.mem_map.mp hx
      rcases List.mem_append.mp hc with z | z
      · exact hls c (List.mem_of_mem_drop z)
      · exact hls c (List.mem_of_mem_take z)
    obtain ⟨a, ha⟩ : ∃ a, ring.head? = some a := by cases ring with | nil => simp at r1 | cons a l => exact ⟨a, rfl⟩
    have hb : ring.getLast? = some a := r4 ▸ ha
    have ham : a ∈ ring := by cases ring with | nil => cases ha | cons b l => simp at ha; simp [ha]
    refine TS.cons (TX.ret (TE.pe (PE.andB (a := true) (b := true) (PE.name rfl) fun _ => PE.andB (a := true) (b := true)
      (PE.to (PE.cmp (PE.item (PE.name rfl) PE.cInt (ItemP.list (n := 0) (ds := ring.map strD) (a := strD a) ?_ ?_)) (PE.lastD (ds := ring.map strD) (a := strD a) (PE.name rfl) (PE.neg PE.cInt) ?_ ?_) (Op2.eq (shaped_S (r3s a ham).1) (shaped_S (r3s a ham).1) (Nat.lt_of_succ_lt (hu _)))) ?_)
      fun _ => PE.and1 (PE.to (PE.cmp (PE.comp (cl := [("endless", L + 1 + 1)]) (g := fun u => AV.d (strD u)) (xs := turnsOf (lettersOf ring)) (fun u => if decide (u ∈ endless ps) = true then [strD u] else []) [("endless", .d (strsD (endless ps)))] (PE.name rfl) (IterP.words (hA' _).h) ?_
          (fun C hid2 u hu' => ⟨decide (u ∈ endless ps), PIfs.one (PT.inW rfl (PE.name rfl) (PE.name rfl) (hts u hu') endless_small (hu _)), fun q => if_neg (by rw [q]; decide), fun q => ⟨_, if_pos q, PE.name rfl⟩⟩) ?_)
        (PE.displayD (ds := []) PEs.nil (by decide)) (Op2.ne ?_ shaped_nil (Nat.lt_of_succ_lt (hu _)))) ?_)) rfl))
    · rw [List.getElem?_map, ← List.head?_eq_getElem?, ha]; rfl
    · rw [List.length_map]; omega
    · rw [List.getLast?_map, hb]; rfl
    · rw [List.length_map]; omega
    · rw [eqv_str]; simp
    · refine Nat.le_trans (len_flat (c := 1) fun n _ => by split <;> simp) ?_
      unfold turnsOf
      rw [List.length_map, List.length_range]; omega
    · exact Caps.cons (fun _ _ => .inl rfl) (fun _ _ => rfl) rfl (.inl rfl) Caps.nil
    · rw [flat_filter (fun u : List Nat => decide (u ∈ endless ps)) strD]
      exact shaped_words fun x hx => hts x (List.mem_filter.mp hx).1
    · rw [flat_filter (fun u : List Nat => decide (u ∈ endless ps)) strD, eqv_nil]
      obtain ⟨u, hu1, hu2⟩ := List.any_eq_true.mp r5
      have : u ∈ (turnsOf (lettersOf ring)).filter fun u => decide (u ∈ endless ps) := List.mem_filter.mpr ⟨hu1, hu2⟩
      cases hq : (turnsOf (lettersOf ring)).filter fun u => decide (u ∈ endless ps) with
      | nil => rw [hq] at this; cases this
      | cons x l => rfl
end
end Mine
end
section
open PySem PySem.Spec PySem.Calls PyProof.Rows PySem.W PySem.SeqAt PySem.Builtin PySem.Builtin.Str
set_option maxRecDepth 100000
set_option linter.unusedVariables false
set_option autoImplicit false
namespace Mine
theorem vrs_of_ints {B : Heap} {l : List Int} {vs : List Value} (h : IntsAre vs l) : VRs B ((l.map PyData.int).map .d) vs := by
  induction h with
  | nil => exact .nil
  | cons n t _ ih => exact .cons vr_int ih
theorem addr_off {L b : Nat} (h : b = L + 1 + 1 + 1 ∨ b = L + 1 + 1 ∨ b = L + 1) : ¬ b < L := by omega
theorem addr_nodup (L : Nat) : [L, L + 1 + 1 + 1, L + 1 + 1, L + 1].Nodup := by simp; omega
theorem caller_roomy : Roomy 5 50 callerA := ⟨rfl, by decide, by decide⟩
theorem join_law {prog : Program} {w : World} {p : Program} {loose : List Str} {mean : ExcName → Option Value} {mg mb : Str → Option Value} {h00 : Heap} {s : Shared} {L fa a9 : Addr} {cd : Value} {m : Str → Option Value} {o1 o2 o3 o9 : Obj} {rest : List (Addr × Obj)} {w5 : Addr} {w4 : List Value} {ns : List Int}
    {fd : FuncData} {oc : Value} {od : Option Addr} {osl : Array (Option Value)} {body : List Stmt} {Q : Flow → Shared → Prop} {E : Value → Shared → Prop}
    (X : (KK w.params).In h00) (T : Top p loose mean mg mb h00) (F : PyProof.Rows.Fr h00 L s.heap m) (N : News h00 L s.heap ((L + 1 + 1 + 1, o3) :: (L + 1 + 1, o2) :: (L + 1, o1) :: (a9, o9) :: rest))
    (c1 : ∃ v, o1.data = .cell v) (c2 : ∃ v, o2.data = .cell v) (c3 : ∃ v, o3.data = .cell v) (h9 : a9 < L)
    (hm : m "script" = some (.ref w5)) (hl : h00.IsList w5 w4.toArray) (hI : IntsAre w4 ns) (hn : ns.length ≤ 63)
    (ho : (KK w.params).lookup 280 = some ⟨oc, od, .func fd, osl⟩) (hb : fd.body = .stmts body) (hc : (cellsFrom (L + 1) fd.scope.names []).map (·.2) = [L + 1 + 1 + 1, L + 1 + 1, L + 1]) (hk : fd.scope.names.lookup ("script" : Str) = some .local)
    (fin : ∀ s', (∀ b o, h00.get? b = some o → s'.heap.get? b = some o) → s'.heap.get? a9 = some o9 → s'.gens = s.gens → s'.os = s.os → Q (.ret (.bool true)) s') :
    wpAny (model prog w) (callerA.deeper (envOfC "law" fd.scope L fa cd)) (execs body (envOfC "law" fd.scope L fa cd)) Q E s := by
  have G : Top0 w.params h00 := ⟨X, _, _, _, _, topRead_of T⟩
  have lt : ∀ b o, h00.get? b = some o → b < L := fun b o e => Nat.lt_of_lt_of_le (Heap.lt_size e) F.above
  have n9 := (N (a9, o9) (List.mem_cons_of_mem _ (List.mem_cons_of_mem _ (List.mem_cons_of_mem _ List.mem_cons_self)))).2.2
  have base : Ext h00 (vis (fmC "law" fd.scope L fa cd [a9]) [] s.heap) := fun b o e => by
    refine hideAll_get _ (F.keep b o e) fun hm => ?_
    have hlt := lt b o e
    rcases away_mem.mp hm with q | q | q | q
    · rw [show b = L from q] at hlt; exact absurd hlt (Nat.lt_irrefl _)
    · rw [show (fmC "law" fd.scope L fa cd [a9]).own = [L + 1 + 1 + 1, L + 1 + 1, L + 1] from hc] at q
      simp only [List.mem_cons, List.not_mem_nil, or_false] at q
      exact absurd hlt (addr_off q)
    · cases q
    · rw [show b = a9 from List.mem_singleton.mp q, n9] at e; cases e
  have D : St w.params h00 s (fmC "law" fd.scope L fa cd [a9]) [("script", .d (intsD ns))] [] s := by
    refine ⟨base, ⟨m, F.ns, fun x av e _ => ?_⟩, fun x av e l => ?_, (fun p hp => nomatch hp), ?_, fun c hcm => ?_, fun a ha => ?_, rfl, rfl, rfl, (fun a ha => nomatch ha), (fun a ha => nomatch ha)⟩
    · rw [List.lookup_cons] at e
      by_cases q : x = ("script" : Str)
      · subst q
        simp at e; subst e
        refine ⟨_, hm, ?_⟩
        obtain ⟨ol, hol, hcl, nn, hd⟩ := hl
        obtain ⟨as, ra⟩ := vrs_readsAll (vrs_of_ints (B := vis (fmC "law" fd.scope L fa cd [a9]) [] s.heap) hI)
        exact ⟨_, .list (base _ _ hol) hcl hd (by simpa using ra)⟩
      · rw [show (x == ("script" : Str)) = false by simpa using q] at e; cases e
    · rw [List.lookup_cons] at e
      by_cases q : x = ("script" : Str)
      · subst q; exact absurd hk l
      · rw [show (x == ("script" : Str)) = false by simpa using q] at e; cases e
    · rw [show (fmC "law" fd.scope L fa cd [a9]).own = [L + 1 + 1 + 1, L + 1 + 1, L + 1] from hc]
      exact addr_nodup L
    · rw [show (fmC "law" fd.scope L fa cd [a9]).own = [L + 1 + 1 + 1, L + 1 + 1, L + 1] from hc] at hcm
      simp only [List.mem_cons, List.not_mem_nil, or_false] at hcm
      rcases hcm with rfl | rfl | rfl
      · obtain ⟨v, hv⟩ := c3; exact ⟨v, o3, (N (L + 1 + 1 + 1, o3) List.mem_cons_self).1, hv⟩
      · obtain ⟨v, hv⟩ := c2; exact ⟨v, o2, (N (L + 1 + 1, o2) (List.mem_cons_of_mem _ List.mem_cons_self)).1, hv⟩
      · obtain ⟨v, hv⟩ := c1; exact ⟨v, o1, (N (L + 1, o1) (List.mem_cons_of_mem _ (List.mem_cons_of_mem _ List.mem_cons_self))).1, hv⟩
    · rw [show a = a9 from List.mem_singleton.mp ha]
      exact ⟨o9, (N (a9, o9) (List.mem_cons_of_mem _ (List.mem_cons_of_mem _ (List.mem_cons_of_mem _ List.mem_cons_self)))).1⟩
  refine c_law G caller_roomy rfl ns hn fd oc od osl body L fa cd [a9] ho hb _ D Q E fun fl s' af loc' led' S' D' r e => ?_
  subst e
  obtain ⟨v, rfl, as, r⟩ := r
  cases r
  refine fin s' (fun b o e => hide_le _ _ (D'.base b o e)) (S'.keep _ _ (N (a9, o9) (List.mem_cons_of_mem _ (List.mem_cons_of_mem _ (List.mem_cons_of_mem _ List.mem_cons_self)))).1 (N (a9, o9) (List.mem_cons_of_mem _ (List.mem_cons_of_mem _ (List.mem_cons_of_mem _ List.mem_cons_self)))).2.1 (fun q => ?_) nofun nofun) D'.gens D'.os
  rw [show (fmC "law" fd.scope L fa cd [a9]).own = [L + 1 + 1 + 1, L + 1 + 1, L + 1] from hc] at q
  simp only [List.mem_cons, List.not_mem_nil, or_false] at q
  exact absurd h9 (addr_off q)
theorem join_law2 {prog : Program} {w : World} {p : Program} {loose : List Str} {mean : ExcName → Option Value} {mg mb : Str → Option Value} {h00 : Heap} {s : Shared} {L fa a9 : Addr} {cd : Value} {m : Str → Option Value} {o1 o2 o3 o9 : Obj} {rest : List (Addr × Obj)} {w5 : Addr} {w4 : List Value} {ns : List Int}
    {fd : FuncData} {oc : Value} {od : Option Addr} {osl : Array (Option Value)} {nm : Str} {scope : Scope} {body : List Stmt} {Q : Flow → Shared → Prop} {E : Value → Shared → Prop}
    (X : (KK w.params).In h00) (T : Top p loose mean mg mb h00) (F : PyProof.Rows.Fr h00 L s.heap m) (N : News h00 L s.heap ((L + 1 + 1 + 1, o3) :: (L + 1 + 1, o2) :: (L + 1, o1) :: (a9, o9) :: rest))
    (c1 : ∃ v, o1.data = .cell v) (c2 : ∃ v, o2.data = .cell v) (c3 : ∃ v, o3.data = .cell v) (h9 : a9 < L)
    (hm : m "script" = some (.ref w5)) (hl : h00.IsList w5 w4.toArray) (hI : IntsAre w4 ns) (hn : ns.length ≤ 63)
    (ho : (KK w.params).lookup 280 = some ⟨oc, od, .func fd, osl⟩) (hb : fd.body = .stmts body) (hnm : nm = "law") (hsc : fd.scope = scope) (hc : (cellsFrom (L + 1) scope.names []).map (·.2) = [L + 1 + 1 + 1, L + 1 + 1, L + 1]) (hk : scope.names.lookup ("script" : Str) = some .local)
    (fin : ∀ s', (∀ b o, h00.get? b = some o → s'.heap.get? b = some o) → s'.heap.get? a9 = some o9 → s'.gens = s.gens → s'.os = s.os → Q (.ret (.bool true)) s') :
    wpAny (model prog w) (callerA.deeper (envOfC nm scope L fa cd)) (execs body (envOfC nm scope L fa cd)) Q E s := by
  subst hnm hsc
  exact join_law X T F N c1 c2 c3 h9 hm hl hI hn ho hb hc hk fin
end Mine
end
open PySem PySem.W PyProof.Rows
set_option maxRecDepth 100000 in
set_option maxHeartbeats 8000000 in
theorem PySem.Challenge.cw_in0290_01_holds : PySem.Challenge.rw_in0290_01.Holds := by
  refine holds_law Mine.said_ok fun said => ?_
  refine holds_open (q := Mine.Q) (loose := Mine.looseL) (Xt := fun s => xlAt Mine.Q [] s && recOk (RowW.records PySem.Challenge.rw_in0290_01.row.toRowW) s) (XP := XL Mine.Q []) (Yf := Hook.obs (kmHook Mine.heapK Mine.addrsL Mine.addrs_eq [99])) (Ya := Hook.val (kmHook Mine.heapK Mine.addrsL Mine.addrs_eq [99])) (YP := Hook.says (kmHook Mine.heapK Mine.addrsL Mine.addrs_eq [99])) (N := 6280) Mine.left (Hook.of (kmHook Mine.heapK Mine.addrsL Mine.addrs_eq [99])) (Hook.keeps (kmHook Mine.heapK Mine.addrsL Mine.addrs_eq [99])) (fun s e => xl_of s (Bool.and_eq_true_iff.mp e).1) XL.keeps (by rfl) (by rfl) (by rfl) (fun s e => recFacts_of (Bool.and_eq_true_iff.mp e).2) (by rfl) said (by kernel_rfl) ⟨rfl, rfl, rfl, rfl, rfl, by decide +kernel⟩ ?hw ?hc
  case hw => w_witness2
  case hc =>
    w_strict (k_go0; (all_goals try k_fold); (all_goals (refine' Mine.join_law2 ?X ?T ?F ?N ?c1 ?c2 ?c3 ?h9 ?hm ?hl ?hI ?hn ?ho ?hb ?hnm ?hsc ?hc ?hk ?fin)))
    case F => assumption
    case N => assumption
    case X => assumption
    case T => assumption
    case c1 => exact ⟨_, by assumption⟩
    case c2 => exact ⟨_, by assumption⟩
    case c3 => exact ⟨_, by assumption⟩
    case h9 => assumption
    case hm => rfl
    case hl => assumption
    case hI => assumption
    case hn => omega
    case ho => rfl
    case hb => rfl
    case hnm => rfl
    case hsc => rfl
    case hc => rfl
    case hk => rfl
    case fin =>
      intro s' k1 k2 hg hos
      refine ⟨⟨.inl ⟨.bool true, ofPy (.bool true), [], rfl, fun _ => rfl, ?_, ?_, ?_⟩, k1, ?_, ?_⟩, ⟨⟨_, k2⟩, trivial⟩⟩
      · exact ReadsW.bool _
      · kernel_rfl
      · exact fun _ => ⟨List.nodup_nil, nofun⟩
      · exact hos
      · exact hg.trans (by assumption)
