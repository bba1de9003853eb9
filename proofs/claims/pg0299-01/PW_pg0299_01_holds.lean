import PyProof.Rows.All
import Wide.All
import OpenK.AllK
import Wide.FinOn
import Lean
import PySem.Challenge.RW_pg0299_01
set_option Elab.async false
set_option maxRecDepth 100000
set_option maxHeartbeats 0
set_option linter.unusedVariables false
section PartHP
open PySem PySem.W PyProof.Rows
set_option linter.unusedVariables false
namespace Mine.Pc
noncomputable abbrev pg : Program := PySem.Challenge.rw_pg0299_01.row.prog
noncomputable def tp (i : Nat) : Stmt := match PySem.Challenge.pw_pg0299_01.main.body.drop i with | s :: _ => s | [] => .Pass default
noncomputable def me (i j : Nat) : Stmt := match tp i with | .ClassDef _ _ _ b _ _ _ _ _ _ _ => (match b.drop j with | s :: _ => s | [] => .Pass default) | _ => .Pass default
noncomputable def fa : Stmt → Arguments | .FunctionDef _ a _ _ _ _ _ _ _ _ => a | _ => default
noncomputable def fb : Stmt → List Stmt | .FunctionDef _ _ b _ _ _ _ _ _ _ => b | _ => []
noncomputable def fs : Stmt → Scope | .FunctionDef _ _ _ _ _ _ s _ _ _ => s | _ => default
noncomputable abbrev en (P : Params) (x : String) (t : Nat) (v : Value) : DictEntry := ⟨PyData.keyHash P (Str.ofString x), .str (Str.ofString x) t, v⟩
noncomputable abbrev vs (x : String) (t : Nat) : Value := .str (Str.ofString x) t
noncomputable abbrev vr (a : Nat) : Value := .ref a
noncomputable abbrev vi (i : Int) (t : Nat) : Value := .int i t
noncomputable abbrev ob (x : String) (d : Data) (s : Array (Option Value)) : Obj := ⟨.type x, none, d, s⟩
noncomputable def o1 (P : Params) : Obj := ob "dict" (Data.dict #[en P "builtins" 162 (vr 4), en P "__main__" 163 (vr 5), en P "_sre" 244 (vr 12)] 3) #[]
noncomputable def o2 (P : Params) : Obj := Obj.mk Value.none none (Data.dict #[en P "\x69mport.loaded._sre" 183 (Value.bool true), en P "class._frozen_importlib.BuiltinImporter" 185 (vr 14), en P "watched.\x69mport" 206 (vr 18), en P "class._frozen_importlib.ModuleSpec" 216 (vr 22), en P "sys.modules.booked-epoch" 245 (vi 3 0), en P "\x69mport.later-laid._sre" 270 (Value.bool true), en P "watched.library" 272 (vr 27), en P "watched.library-objects" 0 (vs "\x0c" 0), en P "watched.library-deep._sre" 273 (vs "\x04\x00\x00\x0b\x04\x00\x00\x0b\x04\x00\x00\x03\x04\x00\x00\x0b\x08\x04dict\x02" 0)] 9) #[]
noncomputable def o3 (P : Params) : Obj := ob "dict" (Data.dict #[en P "__name__" 165 (vs "__main__" 164), en P "__doc__" 166 Value.none, en P "__package__" 167 Value.none, en P "__loader__" 168 (Value.builtin "__main__.__loader__#opaque"), en P "__spec__" 169 Value.none, en P "__annotations__" 170 (vr 6), en P "__builtins__" 171 (vr 4), en P "__file__" 173 (vs "/claim/cut.py" 172), en P "__cached__" 174 Value.none, en P "_sre" 275 (vr 12)] 10) #[]
noncomputable def o11 (P : Params) : Obj := ob "dict" (Data.dict #[en P "__name__" 247 (vs "_sre" 246), en P "__doc__" 248 Value.none, en P "__package__" 250 (vs "" 249), en P "__loader__" 251 (Value.builtin "off-the-table:_sre.__loader__:shared#opaque"), en P "__spec__" 252 (Value.builtin "off-the-table:_sre.__spec__:shared#opaque"), en P "compile" 253 (Value.builtin "_sre.compile"), en P "template" 254 (Value.builtin "off-the-table:_sre.template:shared#opaque"), en P "getcodesize" 255 (Value.builtin "off-the-table:_sre.getcodesize:shared#opaque"), en P "ascii_iscased" 256 (Value.builtin "off-the-table:_sre.ascii_iscased:shared#opaque"), en P "unicode_iscased" 257 (Value.builtin "off-the-table:_sre.unicode_iscased:shared#opaque"), en P "ascii_tolower" 258 (Value.builtin "off-the-table:_sre.ascii_tolower:shared#opaque"), en P "unicode_tolower" 259 (Value.builtin "off-the-table:_sre.unicode_tolower:shared#opaque"), en P "MAGIC" 261 (vi 20230612 260), en P "CODESIZE" 263 (vi 4 262), en P "MAXREPEAT" 265 (vi 4294967295 264), en P "MAXGROUPS" 267 (vi 1073741823 266), en P "copyright" 269 (vs " SRE 2.2.2 Copyright (c) 1997-2002 by Secret Labs AB " 268)] 17) #[]
noncomputable def o12 (P : Params) : Obj := Obj.mk (Value.type "module") (some 11) Data.plain #[]
noncomputable def o13 (P : Params) : Obj := ob "dict" (Data.dict #[en P "__module__" 189 (vs "_frozen_importlib" 186), en P "__firstlineno__" 190 (vi 971 187), en P "__doc__" 191 (Value.builtin "_frozen_importlib.BuiltinImporter.__doc__:str#opaque"), en P "_ORIGIN" 192 (vs "built-in" 188), en P "find_spec" 193 (Value.builtin "_frozen_importlib.BuiltinImporter.find_spec#opaque"), en P "create_module" 194 (Value.builtin "_frozen_importlib.BuiltinImporter.create_module#opaque"), en P "exec_module" 195 (Value.builtin "_frozen_importlib.BuiltinImporter.exec_module#opaque"), en P "get_code" 196 (Value.builtin "_frozen_importlib.BuiltinImporter.get_code#opaque"), en P "get_source" 197 (Value.builtin "_frozen_importlib.BuiltinImporter.get_source#opaque"), en P "is_package" 198 (Value.builtin "_frozen_importlib.BuiltinImporter.is_package#opaque"), en P "load_module" 199 (Value.builtin "_frozen_importlib.BuiltinImporter.load_module#opaque"), en P "__static_attributes__" 200 (vr 15), en P "__dict__" 202 (vr 16), en P "__weakref__" 204 (vr 17)] 14) #[]
noncomputable def o14 (P : Params) : Obj := ob "type" (Data.cls (ClassData.mk (Str.ofString "BuiltinImporter") [Value.type "object"] [vr 14, Value.type "object"] 13 (Str.ofString "BuiltinImporter") true [] [] false none false)) #[]
noncomputable def o16 (P : Params) : Obj := Obj.mk (Value.type "getset_descriptor") none (Data.fields #[vs "__dict__" 201, vr 14, Value.builtin "function.__dict__", Value.builtin "function.__dict__#set"]) #[]
noncomputable def o17 (P : Params) : Obj := Obj.mk (Value.type "getset_descriptor") none (Data.fields #[vs "__weakref__" 203, vr 14, Value.builtin "ExceptionGroup.__weakref__", Value.none]) #[]
noncomputable def o18 (P : Params) : Obj := Obj.mk Value.none none (Data.seq #[vi 13 0, Value.str ⟨#[6, 189, 10, 95, 95, 109, 111, 100, 117, 108, 101, 95, 95, 6, 186, 17, 95, 102, 114, 111, 122, 101, 110, 95, 105, 109, 112, 111, 114, 116, 108, 105, 98, 6, 190, 15, 95, 95, 102, 105, 114, 115, 116, 108, 105, 110, 101, 110, 111, 95, 95, 4, 187, 0, 971, 6, 191, 7, 95, 95, 100, 111, 99, 95, 95, 9, 52, 95, 102, 114, 111, 122, 101, 110, 95, 105, 109, 112, 111, 114, 116, 108, 105, 98, 46, 66, 117, 105, 108, 116, 105, 110, 73, 109, 112, 111, 114, 116, 101, 114, 46, 95, 95, 100, 111, 99, 95, 95, 58, 115, 116, 114, 35, 111, 112, 97, 113, 117, 101, 6, 192, 7, 95, 79, 82, 73, 71, 73, 78, 6, 188, 8, 98, 117, 105, 108, 116, 45, 105, 110, 6, 193, 9, 102, 105, 110, 100, 95, 115, 112, 101, 99, 9, 50, 95, 102, 114, 111, 122, 101, 110, 95, 105, 109, 112, 111, 114, 116, 108, 105, 98, 46, 66, 117, 105, 108, 116, 105, 110, 73, 109, 112, 111, 114, 116, 101, 114, 46, 102, 105, 110, 100, 95, 115, 112, 101, 99, 35, 111, 112, 97, 113, 117, 101, 6, 194, 13, 99, 114, 101, 97, 116, 101, 95, 109, 111, 100, 117, 108, 101, 9, 54, 95, 102, 114, 111, 122, 101, 110, 95, 105, 109, 112, 111, 114, 116, 108, 105, 98, 46, 66, 117, 105, 108, 116, 105, 110, 73, 109, 112, 111, 114, 116, 101, 114, 46, 99, 114, 101, 97, 116, 101, 95, 109, 111, 100, 117, 108, 101, 35, 111, 112, 97, 113, 117, 101, 6, 195, 11, 101, 120, 101, 99, 95, 109, 111, 100, 117, 108, 101, 9, 52, 95, 102, 114, 111, 122, 101, 110, 95, 105, 109, 112, 111, 114, 116, 108, 105, 98, 46, 66, 117, 105, 108, 116, 105, 110, 73, 109, 112, 111, 114, 116, 101, 114, 46, 101, 120, 101, 99, 95, 109, 111, 100, 117, 108, 101, 35, 111, 112, 97, 113, 117, 101, 6, 196, 8, 103, 101, 116, 95, 99, 111, 100, 101, 9, 49, 95, 102, 114, 111, 122, 101, 110, 95, 105, 109, 112, 111, 114, 116, 108, 105, 98, 46, 66, 117, 105, 108, 116, 105, 110, 73, 109, 112, 111, 114, 116, 101, 114, 46, 103, 101, 116, 95, 99, 111, 100, 101, 35, 111, 112, 97, 113, 117, 101, 6, 197, 10, 103, 101, 116, 95, 115, 111, 117, 114, 99, 101, 9, 51, 95, 102, 114, 111, 122, 101, 110, 95, 105, 109, 112, 111, 114, 116, 108, 105, 98, 46, 66, 117, 105, 108, 116, 105, 110, 73, 109, 112, 111, 114, 116, 101, 114, 46, 103, 101, 116, 95, 115, 111, 117, 114, 99, 101, 35, 111, 112, 97, 113, 117, 101, 6, 198, 10, 105, 115, 95, 112, 97, 99, 107, 97, 103, 101, 9, 51, 95, 102, 114, 111, 122, 101, 110, 95, 105, 109, 112, 111, 114, 116, 108, 105, 98, 46, 66, 117, 105, 108, 116, 105, 110, 73, 109, 112, 111, 114, 116, 101, 114, 46, 105, 115, 95, 112, 97, 99, 107, 97, 103, 101, 35, 111, 112, 97, 113, 117, 101, 6, 199, 11, 108, 111, 97, 100, 95, 109, 111, 100, 117, 108, 101, 9, 52, 95, 102, 114, 111, 122, 101, 110, 95, 105, 109, 112, 111, 114, 116, 108, 105, 98, 46, 66, 117, 105, 108, 116, 105, 110, 73, 109, 112, 111, 114, 116, 101, 114, 46, 108, 111, 97, 100, 95, 109, 111, 100, 117, 108, 101, 35, 111, 112, 97, 113, 117, 101, 6, 200, 21, 95, 95, 115, 116, 97, 116, 105, 99, 95, 97, 116, 116, 114, 105, 98, 117, 116, 101, 115, 95, 95, 4, 0, 0, 15, 6, 202, 8, 95, 95, 100, 105, 99, 116, 95, 95, 4, 0, 0, 16, 6, 204, 11, 95, 95, 119, 101, 97, 107, 114, 101, 102, 95, 95, 4, 0, 0, 17]⟩ 0, Value.bool true, Value.bool true, vs "" 205, vi 21 0, Value.str ⟨#[6, 227, 10, 95, 95, 109, 111, 100, 117, 108, 101, 95, 95, 6, 217, 17, 95, 102, 114, 111, 122, 101, 110, 95, 105, 109, 112, 111, 114, 116, 108, 105, 98, 6, 228, 15, 95, 95, 102, 105, 114, 115, 116, 108, 105, 110, 101, 110, 111, 95, 95, 4, 218, 0, 562, 6, 229, 7, 95, 95, 100, 111, 99, 95, 95, 9, 47, 95, 102, 114, 111, 122, 101, 110, 95, 105, 109, 112, 111, 114, 116, 108, 105, 98, 46, 77, 111, 100, 117, 108, 101, 83, 112, 101, 99, 46, 95, 95, 100, 111, 99, 95, 95, 58, 115, 116, 114, 35, 111, 112, 97, 113, 117, 101, 6, 230, 8, 95, 95, 105, 110, 105, 116, 95, 95, 9, 44, 95, 102, 114, 111, 122, 101, 110, 95, 105, 109, 112, 111, 114, 116, 108, 105, 98, 46, 77, 111, 100, 117, 108, 101, 83, 112, 101, 99, 46, 95, 95, 105, 110, 105, 116, 95, 95, 35, 111, 112, 97, 113, 117, 101, 6, 231, 8, 95, 95, 114, 101, 112, 114, 95, 95, 9, 44, 95, 102, 114, 111, 122, 101, 110, 95, 105, 109, 112, 111, 114, 116, 108, 105, 98, 46, 77, 111, 100, 117, 108, 101, 83, 112, 101, 99, 46, 95, 95, 114, 101, 112, 114, 95, 95, 35, 111, 112, 97, 113, 117, 101, 6, 232, 6, 95, 95, 101, 113, 95, 95, 9, 42, 95, 102, 114, 111, 122, 101, 110, 95, 105, 109, 112, 111, 114, 116, 108, 105, 98, 46, 77, 111, 100, 117, 108, 101, 83, 112, 101, 99, 46, 95, 95, 101, 113, 95, 95, 35, 111, 112, 97, 113, 117, 101, 6, 233, 6, 99, 97, 99, 104, 101, 100, 9, 42, 95, 102, 114, 111, 122, 101, 110, 95, 105, 109, 112, 111, 114, 116, 108, 105, 98, 46, 77, 111, 100, 117, 108, 101, 83, 112, 101, 99, 46, 99, 97, 99, 104, 101, 100, 35, 111, 112, 97, 113, 117, 101, 6, 234, 6, 112, 97, 114, 101, 110, 116, 9, 42, 95, 102, 114, 111, 122, 101, 110, 95, 105, 109, 112, 111, 114, 116, 108, 105, 98, 46, 77, 111, 100, 117, 108, 101, 83, 112, 101, 99, 46, 112, 97, 114, 101, 110, 116, 35, 111, 112, 97, 113, 117, 101, 6, 235, 12, 104, 97, 115, 95, 108, 111, 99, 97, 116, 105, 111, 110, 9, 48, 95, 102, 114, 111, 122, 101, 110, 95, 105, 109, 112, 111, 114, 116, 108, 105, 98, 46, 77, 111, 100, 117, 108, 101, 83, 112, 101, 99, 46, 104, 97, 115, 95, 108, 111, 99, 97, 116, 105, 111, 110, 35, 111, 112, 97, 113, 117, 101, 6, 236, 21, 95, 95, 115, 116, 97, 116, 105, 99, 95, 97, 116, 116, 114, 105, 98, 117, 116, 101, 115, 95, 95, 4, 0, 0, 23, 6, 238, 8, 95, 95, 100, 105, 99, 116, 95, 95, 4, 0, 0, 24, 6, 240, 11, 95, 95, 119, 101, 97, 107, 114, 101, 102, 95, 95, 4, 0, 0, 25, 6, 241, 8, 95, 95, 104, 97, 115, 104, 95, 95, 0]⟩ 0, Value.bool true, Value.bool true, vs "" 242] 1) #[]
noncomputable def o19 (P : Params) : Obj := ob "list" (Data.seq #[]) #[]
noncomputable def o20 (P : Params) : Obj := ob "dict" (Data.dict #[en P "name" 208 (vs "_sre" 207), en P "loader" 209 (vr 14), en P "origin" 210 (vs "built-in" 184), en P "loader_state" 211 Value.none, en P "submodule_search_locations" 212 Value.none, en P "_uninitialized_submodules" 213 (vr 19), en P "_set_fileattr" 214 (Value.bool false), en P "_cached" 215 Value.none, en P "_initializing" 243 (Value.bool false)] 9) #[]
noncomputable def o21 (P : Params) : Obj := ob "dict" (Data.dict #[en P "__module__" 227 (vs "_frozen_importlib" 217), en P "__firstlineno__" 228 (vi 562 218), en P "__doc__" 229 (Value.builtin "_frozen_importlib.ModuleSpec.__doc__:str#opaque"), en P "__init__" 230 (Value.builtin "_frozen_importlib.ModuleSpec.__init__#opaque"), en P "__repr__" 231 (Value.builtin "_frozen_importlib.ModuleSpec.__repr__#opaque"), en P "__eq__" 232 (Value.builtin "_frozen_importlib.ModuleSpec.__eq__#opaque"), en P "cached" 233 (Value.builtin "_frozen_importlib.ModuleSpec.cached#opaque"), en P "parent" 234 (Value.builtin "_frozen_importlib.ModuleSpec.parent#opaque"), en P "has_location" 235 (Value.builtin "_frozen_importlib.ModuleSpec.has_location#opaque"), en P "__static_attributes__" 236 (vr 23), en P "__dict__" 238 (vr 24), en P "__weakref__" 240 (vr 25), en P "__hash__" 241 Value.none] 13) #[]
noncomputable def o22 (P : Params) : Obj := ob "type" (Data.cls (ClassData.mk (Str.ofString "ModuleSpec") [Value.type "object"] [vr 22, Value.type "object"] 21 (Str.ofString "ModuleSpec") true [] [] false none false)) #[]
noncomputable def o23 (P : Params) : Obj := ob "tuple" (Data.seq #[vs "_cached" 219, vs "_set_fileattr" 220, vs "_uninitialized_submodules" 221, vs "loader" 222, vs "loader_state" 223, vs "name" 224, vs "origin" 225, vs "submodule_search_locations" 226]) #[]
noncomputable def o24 (P : Params) : Obj := Obj.mk (Value.type "getset_descriptor") none (Data.fields #[vs "__dict__" 237, vr 22, Value.builtin "function.__dict__", Value.builtin "function.__dict__#set"]) #[]
noncomputable def o25 (P : Params) : Obj := Obj.mk (Value.type "getset_descriptor") none (Data.fields #[vs "__weakref__" 239, vr 22, Value.builtin "ExceptionGroup.__weakref__", Value.none]) #[]
noncomputable def o26 (P : Params) : Obj := Obj.mk (vr 22) (some 20) Data.plain #[]
noncomputable def o27 (P : Params) : Obj := Obj.mk Value.none none (Data.seq #[vi 11 0, Value.str (Str.mk #[6, 247, 8, 95, 95, 110, 97, 109, 101, 95, 95, 6, 246, 4, 95, 115, 114, 101, 6, 248, 7, 95, 95, 100, 111, 99, 95, 95, 0, 6, 250, 11, 95, 95, 112, 97, 99, 107, 97, 103, 101, 95, 95, 6, 249, 0, 6, 251, 10, 95, 95, 108, 111, 97, 100, 101, 114, 95, 95, 4, 0, 0, 14, 6, 252, 8, 95, 95, 115, 112, 101, 99, 95, 95, 4, 0, 0, 26, 6, 253, 7, 99, 111, 109, 112, 105, 108, 101, 9, 12, 95, 115, 114, 101, 46, 99, 111, 109, 112, 105, 108, 101, 6, 254, 8, 116, 101, 109, 112, 108, 97, 116, 101, 9, 13, 95, 115, 114, 101, 46, 116, 101, 109, 112, 108, 97, 116, 101, 6, 255, 11, 103, 101, 116, 99, 111, 100, 101, 115, 105, 122, 101, 9, 16, 95, 115, 114, 101, 46, 103, 101, 116, 99, 111, 100, 101, 115, 105, 122, 101, 6, 256, 13, 97, 115, 99, 105, 105, 95, 105, 115, 99, 97, 115, 101, 100, 9, 18, 95, 115, 114, 101, 46, 97, 115, 99, 105, 105, 95, 105, 115, 99, 97, 115, 101, 100, 6, 257, 15, 117, 110, 105, 99, 111, 100, 101, 95, 105, 115, 99, 97, 115, 101, 100, 9, 20, 95, 115, 114, 101, 46, 117, 110, 105, 99, 111, 100, 101, 95, 105, 115, 99, 97, 115, 101, 100, 6, 258, 13, 97, 115, 99, 105, 105, 95, 116, 111, 108, 111, 119, 101, 114, 9, 18, 95, 115, 114, 101, 46, 97, 115, 99, 105, 105, 95, 116, 111, 108, 111, 119, 101, 114, 6, 259, 15, 117, 110, 105, 99, 111, 100, 101, 95, 116, 111, 108, 111, 119, 101, 114, 9, 20, 95, 115, 114, 101, 46, 117, 110, 105, 99, 111, 100, 101, 95, 116, 111, 108, 111, 119, 101, 114, 6, 261, 5, 77, 65, 71, 73, 67, 4, 260, 0, 20230612, 6, 263, 8, 67, 79, 68, 69, 83, 73, 90, 69, 4, 262, 0, 4, 6, 265, 9, 77, 65, 88, 82, 69, 80, 69, 65, 84, 4, 264, 0, 4294967295, 6, 267, 9, 77, 65, 88, 71, 82, 79, 85, 80, 83, 4, 266, 0, 1073741823, 6, 269, 9, 99, 111, 112, 121, 114, 105, 103, 104, 116, 6, 268, 53, 32, 83, 82, 69, 32, 50, 46, 50, 46, 50, 32, 67, 111, 112, 121, 114, 105, 103, 104, 116, 32, 40, 99, 41, 32, 49, 57, 57, 55, 45, 50, 48, 48, 50, 32, 98, 121, 32, 83, 101, 99, 114, 101, 116, 32, 76, 97, 98, 115, 32, 65, 66, 32]) 0, Value.bool true, Value.bool false, vs "_sre" 271]) #[]
noncomputable def o30 (P : Params) : Obj := ob "code" (Data.fields #[vs "<module>" 277, vs "<module>" 278, vs "/claim/cut.py" 279, vi 1 0, vi 0 0, vi 0 0, vi 0 0, vi 0 0, vr 28, Value.bool false, vi 276 0, vr 29, Value.none, Value.none, Value.none, Value.none, vi 280 0, vi 1 0, vs "/claim/cut.py" 281]) #[]
noncomputable def o31 (P : Params) : Obj := ob "frame" Data.plain #[some (vr 30), some (vr 3), some (vr 3), none, some (vs "__main__" 164), none, some (vr 0)]
noncomputable def o3qSb (P : Params) : Obj := ob "dict" (Data.dict #[en P "__name__" 165 (vs "cpy313.wsgiref.headers" 390), en P "__doc__" 166 Value.none, en P "__package__" 167 Value.none, en P "__loader__" 168 (Value.builtin "__main__.__loader__#opaque"), en P "__spec__" 169 Value.none, en P "__annotations__" 170 (vr 6), en P "__builtins__" 171 (vr 4), en P "__file__" 173 (vs "/claim/cut.py" 172), en P "__cached__" 174 Value.none, en P "_sre" 275 (vr 12), en P "_wall" 288 (vr 38), en P "ELLIPSIS_MARKER" 292 (vs "..." 291), en P "_ellipsis_match" 304 (vr 45), en P "ONE_THIRD" 310 (Value.float 4599676419421066581 309), en P "ONE_SIXTH" 314 (Value.float 4595172819793696085 313), en P "TWO_THIRD" 318 (Value.float 4604180019048437077 317), en P "rgb_to_hls" 337 (vr 52), en P "hls_to_rgb" 348 (vr 59), en P "_v" 357 (vr 66), en P "rgb_to_hsv" 375 (vr 73), en P "hsv_to_rgb" 389 (vr 80), en P "tspecials" 425 (vr 85), en P "_name_disallowed_re" 451 (vr 90), en P "_value_disallowed_re" 485 (vr 95), en P "_formatparam" 495 (vr 103)] 25) #[]
noncomputable def o29qSb (P : Params) : Obj := Obj.mk Value.none none (Data.fields #[vi 2 0, vi 0 0, vr 37, vi 7 0, vi 0 0, vr 44, vi 39 0, vi 0 0, vr 51, vi 62 0, vi 0 0, vr 58, vi 71 0, vi 0 0, vr 65, vi 80 0, vi 0 0, vr 72, vi 99 0, vi 0 0, vr 79, vi 124 0, vi 0 0, vr 102]) #[]
noncomputable def o34 (P : Params) : Obj := ob "tuple" (Data.seq #[vs "k" 285]) #[]
noncomputable def o36 (P : Params) : Obj := Obj.mk Value.none none (Data.func (FuncData.mk (Str.ofString "_wall") (Str.ofString "_wall") (fa (tp 1)) (FuncBody.stmts (fb (tp 1))) (fs (tp 1)) 0 [] Value.none Value.none Value.none Value.none none Value.none Value.none 0)) #[]
noncomputable def o37 (P : Params) : Obj := ob "code" (Data.fields #[vs "_wall" 282, vs "_wall" 283, vs "/claim/cut.py" 284, vi 2 0, vi 1 0, vi 0 0, vi 0 0, vi 3 0, vr 32, Value.bool true, vi 276 0, vr 33, Value.none, vr 34, vr 35, vr 36, vi 286 0, vi 2 0, vs "/claim/cut.py" 287]) #[]
noncomputable def o38 (P : Params) : Obj := ob "function" (Data.func (FuncData.mk (Str.ofString "_wall") (Str.ofString "_wall") (fa (tp 1)) (FuncBody.stmts (fb (tp 1))) (fs (tp 1)) 3 [] Value.none Value.none Value.none (vs "__main__" 164) none (vr 37) Value.none 0)) #[]
noncomputable def o41 (P : Params) : Obj := ob "tuple" (Data.seq #[vs "want" 296, vs "got" 297, vs "ws" 298, vs "startpos" 299, vs "endpos" 300, vs "w" 301]) #[]
noncomputable def o43 (P : Params) : Obj := Obj.mk Value.none none (Data.func (FuncData.mk (Str.ofString "_ellipsis_match") (Str.ofString "_ellipsis_match") (fa (tp 4)) (FuncBody.stmts (fb (tp 4))) (fs (tp 4)) 0 [] Value.none Value.none Value.none Value.none none Value.none Value.none 0)) #[]
noncomputable def o44 (P : Params) : Obj := ob "code" (Data.fields #[vs "_ellipsis_match" 293, vs "_ellipsis_match" 294, vs "/claim/cut.py" 295, vi 7 0, vi 2 0, vi 0 0, vi 0 0, vi 3 0, vr 39, Value.bool true, vi 276 0, vr 40, Value.none, vr 41, vr 42, vr 43, vi 302 0, vi 7 0, vs "/claim/cut.py" 303]) #[]
noncomputable def o45 (P : Params) : Obj := ob "function" (Data.func (FuncData.mk (Str.ofString "_ellipsis_match") (Str.ofString "_ellipsis_match") (fa (tp 4)) (FuncBody.stmts (fb (tp 4))) (fs (tp 4)) 3 [] Value.none Value.none Value.none (vs "cpy313.doctest" 289) none (vr 44) Value.none 0)) #[]
noncomputable def o48 (P : Params) : Obj := ob "tuple" (Data.seq #[vs "r" 322, vs "g" 323, vs "b" 324, vs "maxc" 325, vs "minc" 326, vs "sumc" 327, vs "rangec" 328, vs "l" 329, vs "s" 330, vs "rc" 331, vs "gc" 332, vs "bc" 333, vs "h" 334]) #[]
noncomputable def o50 (P : Params) : Obj := Obj.mk Value.none none (Data.func (FuncData.mk (Str.ofString "rgb_to_hls") (Str.ofString "rgb_to_hls") (fa (tp 9)) (FuncBody.stmts (fb (tp 9))) (fs (tp 9)) 0 [] Value.none Value.none Value.none Value.none none Value.none Value.none 0)) #[]
noncomputable def o51 (P : Params) : Obj := ob "code" (Data.fields #[vs "rgb_to_hls" 319, vs "rgb_to_hls" 320, vs "/claim/cut.py" 321, vi 39 0, vi 3 0, vi 0 0, vi 0 0, vi 3 0, vr 46, Value.bool true, vi 276 0, vr 47, Value.none, vr 48, vr 49, vr 50, vi 335 0, vi 39 0, vs "/claim/cut.py" 336]) #[]
noncomputable def o52 (P : Params) : Obj := ob "function" (Data.func (FuncData.mk (Str.ofString "rgb_to_hls") (Str.ofString "rgb_to_hls") (fa (tp 9)) (FuncBody.stmts (fb (tp 9))) (fs (tp 9)) 3 [] Value.none Value.none Value.none (vs "cpy313.colorsys" 305) none (vr 51) Value.none 0)) #[]
noncomputable def o55 (P : Params) : Obj := ob "tuple" (Data.seq #[vs "h" 341, vs "l" 342, vs "s" 343, vs "m2" 344, vs "m1" 345]) #[]
noncomputable def o57 (P : Params) : Obj := Obj.mk Value.none none (Data.func (FuncData.mk (Str.ofString "hls_to_rgb") (Str.ofString "hls_to_rgb") (fa (tp 10)) (FuncBody.stmts (fb (tp 10))) (fs (tp 10)) 0 [] Value.none Value.none Value.none Value.none none Value.none Value.none 0)) #[]
noncomputable def o58 (P : Params) : Obj := ob "code" (Data.fields #[vs "hls_to_rgb" 338, vs "hls_to_rgb" 339, vs "/claim/cut.py" 340, vi 62 0, vi 3 0, vi 0 0, vi 0 0, vi 3 0, vr 53, Value.bool true, vi 276 0, vr 54, Value.none, vr 55, vr 56, vr 57, vi 346 0, vi 62 0, vs "/claim/cut.py" 347]) #[]
noncomputable def o59 (P : Params) : Obj := ob "function" (Data.func (FuncData.mk (Str.ofString "hls_to_rgb") (Str.ofString "hls_to_rgb") (fa (tp 10)) (FuncBody.stmts (fb (tp 10))) (fs (tp 10)) 3 [] Value.none Value.none Value.none (vs "cpy313.colorsys" 305) none (vr 58) Value.none 0)) #[]
noncomputable def o62 (P : Params) : Obj := ob "tuple" (Data.seq #[vs "m1" 352, vs "m2" 353, vs "hue" 354]) #[]
noncomputable def o64 (P : Params) : Obj := Obj.mk Value.none none (Data.func (FuncData.mk (Str.ofString "_v") (Str.ofString "_v") (fa (tp 11)) (FuncBody.stmts (fb (tp 11))) (fs (tp 11)) 0 [] Value.none Value.none Value.none Value.none none Value.none Value.none 0)) #[]
noncomputable def o65 (P : Params) : Obj := ob "code" (Data.fields #[vs "_v" 349, vs "_v" 350, vs "/claim/cut.py" 351, vi 71 0, vi 3 0, vi 0 0, vi 0 0, vi 3 0, vr 60, Value.bool true, vi 276 0, vr 61, Value.none, vr 62, vr 63, vr 64, vi 355 0, vi 71 0, vs "/claim/cut.py" 356]) #[]
noncomputable def o66 (P : Params) : Obj := ob "function" (Data.func (FuncData.mk (Str.ofString "_v") (Str.ofString "_v") (fa (tp 11)) (FuncBody.stmts (fb (tp 11))) (fs (tp 11)) 3 [] Value.none Value.none Value.none (vs "cpy313.colorsys" 305) none (vr 65) Value.none 0)) #[]
noncomputable def o69 (P : Params) : Obj := ob "tuple" (Data.seq #[vs "r" 361, vs "g" 362, vs "b" 363, vs "maxc" 364, vs "minc" 365, vs "rangec" 366, vs "v" 367, vs "s" 368, vs "rc" 369, vs "gc" 370, vs "bc" 371, vs "h" 372]) #[]
noncomputable def o71 (P : Params) : Obj := Obj.mk Value.none none (Data.func (FuncData.mk (Str.ofString "rgb_to_hsv") (Str.ofString "rgb_to_hsv") (fa (tp 12)) (FuncBody.stmts (fb (tp 12))) (fs (tp 12)) 0 [] Value.none Value.none Value.none Value.none none Value.none Value.none 0)) #[]
noncomputable def o72 (P : Params) : Obj := ob "code" (Data.fields #[vs "rgb_to_hsv" 358, vs "rgb_to_hsv" 359, vs "/claim/cut.py" 360, vi 80 0, vi 3 0, vi 0 0, vi 0 0, vi 3 0, vr 67, Value.bool true, vi 276 0, vr 68, Value.none, vr 69, vr 70, vr 71, vi 373 0, vi 80 0, vs "/claim/cut.py" 374]) #[]
noncomputable def o73 (P : Params) : Obj := ob "function" (Data.func (FuncData.mk (Str.ofString "rgb_to_hsv") (Str.ofString "rgb_to_hsv") (fa (tp 12)) (FuncBody.stmts (fb (tp 12))) (fs (tp 12)) 3 [] Value.none Value.none Value.none (vs "cpy313.colorsys" 305) none (vr 72) Value.none 0)) #[]
noncomputable def o76 (P : Params) : Obj := ob "tuple" (Data.seq #[vs "h" 379, vs "s" 380, vs "v" 381, vs "i" 382, vs "f" 383, vs "p" 384, vs "q" 385, vs "t" 386]) #[]
noncomputable def o78 (P : Params) : Obj := Obj.mk Value.none none (Data.func (FuncData.mk (Str.ofString "hsv_to_rgb") (Str.ofString "hsv_to_rgb") (fa (tp 13)) (FuncBody.stmts (fb (tp 13))) (fs (tp 13)) 0 [] Value.none Value.none Value.none Value.none none Value.none Value.none 0)) #[]
noncomputable def o79 (P : Params) : Obj := ob "code" (Data.fields #[vs "hsv_to_rgb" 376, vs "hsv_to_rgb" 377, vs "/claim/cut.py" 378, vi 99 0, vi 3 0, vi 0 0, vi 0 0, vi 3 0, vr 74, Value.bool true, vi 276 0, vr 75, Value.none, vr 76, vr 77, vr 78, vi 387 0, vi 99 0, vs "/claim/cut.py" 388]) #[]
noncomputable def o80 (P : Params) : Obj := ob "function" (Data.func (FuncData.mk (Str.ofString "hsv_to_rgb") (Str.ofString "hsv_to_rgb") (fa (tp 13)) (FuncBody.stmts (fb (tp 13))) (fs (tp 13)) 3 [] Value.none Value.none Value.none (vs "cpy313.colorsys" 305) none (vr 79) Value.none 0)) #[]
noncomputable def o81 (P : Params) : Obj := ob "list" (Data.seq #[vi 14 395, vi 14 396, vi 4 397, vi 1 398, vi 1 399, vi 9 400, vi 0 401, vi 4227896069 402, vi 939524097 403, vi 0 404, vi 0 405, vi 0 406, vi 0 407, vi 0 408, vi 0 409, vi 13 410, vi 11 411, vi 9 412, vi 0 413, vi 4227896069 414, vi 939524097 415, vi 0 416, vi 0 417, vi 0 418, vi 0 419, vi 0 420, vi 0 421, vi 1 422]) #[]
noncomputable def o83 (P : Params) : Obj := ob "tuple" (Data.seq #[Value.none]) #[]
noncomputable def o84 (P : Params) : Obj := ob "tuple" (Data.seq #[vi 14 0, vi 14 0, vi 4 0, vi 1 0, vi 1 0, vi 9 0, vi 0 0, vi 4227896069 0, vi 939524097 0, vi 0 0, vi 0 0, vi 0 0, vi 0 0, vi 0 0, vi 0 0, vi 13 0, vi 11 0, vi 9 0, vi 0 0, vi 4227896069 0, vi 939524097 0, vi 0 0, vi 0 0, vi 0 0, vi 0 0, vi 0 0, vi 0 0, vi 1 0]) #[]
noncomputable def o85 (P : Params) : Obj := Obj.mk (Value.type "re.Pattern") none (Data.fields #[vs "[ \\(\\)<>@,;:\\\\\"/\\[\\]\\?=]" 393, vi 32 424, vi 0 0, Value.none, Value.none, vr 84, vi 0 0]) #[]
noncomputable def o86 (P : Params) : Obj := ob "list" (Data.seq #[vi 14 429, vi 10 430, vi 4 431, vi 1 432, vi 1 433, vi 22 434, vi 0 435, vi 31 436, vi 16 437, vi 127 438, vi 0 439, vi 13 440, vi 7 441, vi 22 442, vi 0 443, vi 31 444, vi 16 445, vi 127 446, vi 0 447, vi 1 448]) #[]
noncomputable def o89 (P : Params) : Obj := ob "tuple" (Data.seq #[vi 14 0, vi 10 0, vi 4 0, vi 1 0, vi 1 0, vi 22 0, vi 0 0, vi 31 0, vi 16 0, vi 127 0, vi 0 0, vi 13 0, vi 7 0, vi 22 0, vi 0 0, vi 31 0, vi 16 0, vi 127 0, vi 0 0, vi 1 0]) #[]
noncomputable def o90 (P : Params) : Obj := Obj.mk (Value.type "re.Pattern") none (Data.fields #[vs "[\\x00-\\x1F\\x7F]" 427, vi 32 450, vi 0 0, Value.none, Value.none, vr 89, vi 0 0]) #[]
noncomputable def o91 (P : Params) : Obj := ob "list" (Data.seq #[vi 14 455, vi 14 456, vi 4 457, vi 1 458, vi 1 459, vi 9 460, vi 4294966783 461, vi 0 462, vi 0 463, vi 2147483648 464, vi 0 465, vi 0 466, vi 0 467, vi 0 468, vi 0 469, vi 13 470, vi 11 471, vi 9 472, vi 4294966783 473, vi 0 474, vi 0 475, vi 2147483648 476, vi 0 477, vi 0 478, vi 0 479, vi 0 480, vi 0 481, vi 1 482]) #[]
noncomputable def o94 (P : Params) : Obj := ob "tuple" (Data.seq #[vi 14 0, vi 14 0, vi 4 0, vi 1 0, vi 1 0, vi 9 0, vi 4294966783 0, vi 0 0, vi 0 0, vi 2147483648 0, vi 0 0, vi 0 0, vi 0 0, vi 0 0, vi 0 0, vi 13 0, vi 11 0, vi 9 0, vi 4294966783 0, vi 0 0, vi 0 0, vi 2147483648 0, vi 0 0, vi 0 0, vi 0 0, vi 0 0, vi 0 0, vi 1 0]) #[]
noncomputable def o95 (P : Params) : Obj := Obj.mk (Value.type "re.Pattern") none (Data.fields #[vs "[\\x00-\\x08\\x0A-\\x1F\\x7F]" 453, vi 32 484, vi 0 0, Value.none, Value.none, vr 94, vi 0 0]) #[]
noncomputable def o96 (P : Params) : Obj := ob "tuple" (Data.seq #[Value.none, vi 1 486]) #[]
noncomputable def o99 (P : Params) : Obj := ob "tuple" (Data.seq #[vs "param" 490, vs "value" 491, vs "quote" 492]) #[]
noncomputable def o101 (P : Params) : Obj := Obj.mk Value.none none (Data.func (FuncData.mk (Str.ofString "_formatparam") (Str.ofString "_formatparam") (fa (tp 18)) (FuncBody.stmts (fb (tp 18))) (fs (tp 18)) 0 [] Value.none Value.none Value.none Value.none none Value.none Value.none 0)) #[]
noncomputable def o102 (P : Params) : Obj := ob "code" (Data.fields #[vs "_formatparam" 487, vs "_formatparam" 488, vs "/claim/cut.py" 489, vi 124 0, vi 3 0, vi 0 0, vi 0 0, vi 3 0, vr 97, Value.bool true, vi 276 0, vr 98, Value.none, vr 99, vr 100, vr 101, vi 493 0, vi 124 0, vs "/claim/cut.py" 494]) #[]
noncomputable def o103 (P : Params) : Obj := ob "function" (Data.func (FuncData.mk (Str.ofString "_formatparam") (Str.ofString "_formatparam") (fa (tp 18)) (FuncBody.stmts (fb (tp 18))) (fs (tp 18)) 3 [] (vr 96) Value.none Value.none (vs "cpy313.wsgiref.headers" 390) none (vr 102) Value.none 0)) #[]
noncomputable def o3qSc (P : Params) : Obj := ob "dict" (Data.dict #[en P "__name__" 165 (vs "cpy313.wsgiref.headers" 390), en P "__doc__" 166 Value.none, en P "__package__" 167 Value.none, en P "__loader__" 168 (Value.builtin "__main__.__loader__#opaque"), en P "__spec__" 169 Value.none, en P "__annotations__" 170 (vr 6), en P "__builtins__" 171 (vr 4), en P "__file__" 173 (vs "/claim/cut.py" 172), en P "__cached__" 174 Value.none, en P "_sre" 275 (vr 12), en P "_wall" 288 (vr 38), en P "ELLIPSIS_MARKER" 292 (vs "..." 291), en P "_ellipsis_match" 304 (vr 45), en P "ONE_THIRD" 310 (Value.float 4599676419421066581 309), en P "ONE_SIXTH" 314 (Value.float 4595172819793696085 313), en P "TWO_THIRD" 318 (Value.float 4604180019048437077 317), en P "rgb_to_hls" 337 (vr 52), en P "hls_to_rgb" 348 (vr 59), en P "_v" 357 (vr 66), en P "rgb_to_hsv" 375 (vr 73), en P "hsv_to_rgb" 389 (vr 80), en P "tspecials" 425 (vr 85), en P "_name_disallowed_re" 451 (vr 90), en P "_value_disallowed_re" 485 (vr 95), en P "_formatparam" 495 (vr 103), en P "Headers" 654 (vr 226)] 26) #[]
noncomputable def o29qSc (P : Params) : Obj := Obj.mk Value.none none (Data.fields #[vi 2 0, vi 0 0, vr 37, vi 7 0, vi 0 0, vr 44, vi 39 0, vi 0 0, vr 51, vi 62 0, vi 0 0, vr 58, vi 71 0, vi 0 0, vr 65, vi 80 0, vi 0 0, vr 72, vi 99 0, vi 0 0, vr 79, vi 124 0, vi 0 0, vr 102, vi 133 0, vi 0 0, vr 109]) #[]
noncomputable def o105 (P : Params) : Obj := Obj.mk (Value.type "builtin_function_or_method") none (Data.fields #[Value.builtin "type.__prepare__", Value.type "type"]) #[]
noncomputable def o106 (P : Params) : Obj := ob "dict" (Data.dict #[en P "__module__" 503 (vs "cpy313.wsgiref.headers" 390), en P "__qualname__" 505 (vs "Headers" 504), en P "__firstlineno__" 507 (vi 133 506), en P "__init__" 517 (vr 118), en P "_convert_string_type" 527 (vr 125), en P "__len__" 534 (vr 132), en P "__setitem__" 543 (vr 139), en P "__delitem__" 549 (vr 144), en P "__getitem__" 557 (vr 151), en P "__contains__" 565 (vr 158), en P "get_all" 573 (vr 165), en P "get" 584 (vr 173), en P "keys" 590 (vr 178), en P "values" 596 (vr 183), en P "items" 603 (vr 190), en P "__repr__" 610 (vr 197), en P "__str__" 616 (vr 202), en P "__bytes__" 623 (vr 209), en P "setdefault" 632 (vr 216), en P "add_header" 645 (vr 223), en P "__static_attributes__" 647 (vr 224)] 21) #[]
noncomputable def o108 (P : Params) : Obj := Obj.mk Value.none none (Data.fields #[vi 135 0, vi 4 0, vr 117, vi 145 0, vi 4 0, vr 124, vi 153 0, vi 4 0, vr 131, vi 156 0, vi 4 0, vr 138, vi 160 0, vi 4 0, vr 143, vi 164 0, vi 4 0, vr 150, vi 167 0, vi 4 0, vr 157, vi 170 0, vi 4 0, vr 164, vi 173 0, vi 4 0, vr 172, vi 180 0, vi 4 0, vr 177, vi 183 0, vi 4 0, vr 182, vi 186 0, vi 4 0, vr 189, vi 189 0, vi 4 0, vr 196, vi 192 0, vi 4 0, vr 201, vi 195 0, vi 4 0, vr 208, vi 198 0, vi 4 0, vr 215, vi 201 0, vi 4 0, vr 222]) #[]
noncomputable def o109 (P : Params) : Obj := ob "code" (Data.fields #[vs "Headers" 498, vs "Headers" 499, vs "/claim/cut.py" 500, vi 133 0, vi 0 0, vi 0 0, vi 0 0, vi 0 0, vr 107, Value.bool false, vi 276 0, vr 108, Value.none, Value.none, Value.none, Value.none, vi 501 0, vi 133 0, vs "/claim/cut.py" 502]) #[]
noncomputable def o110 (P : Params) : Obj := ob "frame" Data.plain #[some (vr 109), some (vr 3), some (vr 106), none, some (vs "cpy313.wsgiref.headers" 390), none, some (vr 0)]
noncomputable def o114 (P : Params) : Obj := ob "tuple" (Data.seq #[vs "self" 511, vs "headers" 512, vs "k" 513, vs "v" 514]) #[]
noncomputable def o116 (P : Params) : Obj := Obj.mk Value.none none (Data.func (FuncData.mk (Str.ofString "__init__") (Str.ofString "Headers.__init__") (fa (me 19 0)) (FuncBody.stmts (fb (me 19 0))) (fs (me 19 0)) 0 [] Value.none Value.none Value.none Value.none none Value.none Value.none 0)) #[]
noncomputable def o117 (P : Params) : Obj := ob "code" (Data.fields #[vs "__init__" 508, vs "Headers.__init__" 509, vs "/claim/cut.py" 510, vi 135 0, vi 2 0, vi 0 0, vi 0 0, vi 3 0, vr 112, Value.bool true, vi 276 0, vr 113, Value.none, vr 114, vr 115, vr 116, vi 515 0, vi 135 0, vs "/claim/cut.py" 516]) #[]
noncomputable def o118 (P : Params) : Obj := ob "function" (Data.func (FuncData.mk (Str.ofString "__init__") (Str.ofString "Headers.__init__") (fa (me 19 0)) (FuncBody.stmts (fb (me 19 0))) (fs (me 19 0)) 3 [] (vr 111) Value.none Value.none (vs "cpy313.wsgiref.headers" 390) none (vr 117) Value.none 0)) #[]
noncomputable def o121 (P : Params) : Obj := ob "tuple" (Data.seq #[vs "self" 521, vs "value" 522, vs "name" 523, vs "regex" 524]) #[]
noncomputable def o123 (P : Params) : Obj := Obj.mk Value.none none (Data.func (FuncData.mk (Str.ofString "_convert_string_type") (Str.ofString "Headers._convert_string_type") (fa (me 19 1)) (FuncBody.stmts (fb (me 19 1))) (fs (me 19 1)) 0 [] Value.none Value.none Value.none Value.none none Value.none Value.none 0)) #[]
noncomputable def o124 (P : Params) : Obj := ob "code" (Data.fields #[vs "_convert_string_type" 518, vs "Headers._convert_string_type" 519, vs "/claim/cut.py" 520, vi 145 0, vi 2 0, vi 0 0, vi 1 0, vi 3 0, vr 119, Value.bool true, vi 276 0, vr 120, Value.none, vr 121, vr 122, vr 123, vi 525 0, vi 145 0, vs "/claim/cut.py" 526]) #[]
noncomputable def o125 (P : Params) : Obj := ob "function" (Data.func (FuncData.mk (Str.ofString "_convert_string_type") (Str.ofString "Headers._convert_string_type") (fa (me 19 1)) (FuncBody.stmts (fb (me 19 1))) (fs (me 19 1)) 3 [] Value.none Value.none Value.none (vs "cpy313.wsgiref.headers" 390) none (vr 124) Value.none 0)) #[]
noncomputable def o128 (P : Params) : Obj := ob "tuple" (Data.seq #[vs "self" 531]) #[]
noncomputable def o130 (P : Params) : Obj := Obj.mk Value.none none (Data.func (FuncData.mk (Str.ofString "__len__") (Str.ofString "Headers.__len__") (fa (me 19 2)) (FuncBody.stmts (fb (me 19 2))) (fs (me 19 2)) 0 [] Value.none Value.none Value.none Value.none none Value.none Value.none 0)) #[]
noncomputable def o131 (P : Params) : Obj := ob "code" (Data.fields #[vs "__len__" 528, vs "Headers.__len__" 529, vs "/claim/cut.py" 530, vi 153 0, vi 1 0, vi 0 0, vi 0 0, vi 3 0, vr 126, Value.bool true, vi 276 0, vr 127, Value.none, vr 128, vr 129, vr 130, vi 532 0, vi 153 0, vs "/claim/cut.py" 533]) #[]
noncomputable def o132 (P : Params) : Obj := ob "function" (Data.func (FuncData.mk (Str.ofString "__len__") (Str.ofString "Headers.__len__") (fa (me 19 2)) (FuncBody.stmts (fb (me 19 2))) (fs (me 19 2)) 3 [] Value.none Value.none Value.none (vs "cpy313.wsgiref.headers" 390) none (vr 131) Value.none 0)) #[]
noncomputable def o135 (P : Params) : Obj := ob "tuple" (Data.seq #[vs "self" 538, vs "name" 539, vs "val" 540]) #[]
noncomputable def o137 (P : Params) : Obj := Obj.mk Value.none none (Data.func (FuncData.mk (Str.ofString "__setitem__") (Str.ofString "Headers.__setitem__") (fa (me 19 3)) (FuncBody.stmts (fb (me 19 3))) (fs (me 19 3)) 0 [] Value.none Value.none Value.none Value.none none Value.none Value.none 0)) #[]
noncomputable def o138 (P : Params) : Obj := ob "code" (Data.fields #[vs "__setitem__" 535, vs "Headers.__setitem__" 536, vs "/claim/cut.py" 537, vi 156 0, vi 3 0, vi 0 0, vi 0 0, vi 3 0, vr 133, Value.bool true, vi 276 0, vr 134, Value.none, vr 135, vr 136, vr 137, vi 541 0, vi 156 0, vs "/claim/cut.py" 542]) #[]
noncomputable def o139 (P : Params) : Obj := ob "function" (Data.func (FuncData.mk (Str.ofString "__setitem__") (Str.ofString "Headers.__setitem__") (fa (me 19 3)) (FuncBody.stmts (fb (me 19 3))) (fs (me 19 3)) 3 [] Value.none Value.none Value.none (vs "cpy313.wsgiref.headers" 390) none (vr 138) Value.none 0)) #[]
noncomputable def o142 (P : Params) : Obj := Obj.mk Value.none none (Data.func (FuncData.mk (Str.ofString "__delitem__") (Str.ofString "Headers.__delitem__") (fa (me 19 4)) (FuncBody.stmts (fb (me 19 4))) (fs (me 19 4)) 0 [] Value.none Value.none Value.none Value.none none Value.none Value.none 0)) #[]
noncomputable def o143 (P : Params) : Obj := ob "code" (Data.fields #[vs "__delitem__" 544, vs "Headers.__delitem__" 545, vs "/claim/cut.py" 546, vi 160 0, vi 2 0, vi 0 0, vi 0 0, vi 3 0, vr 140, Value.bool true, vi 276 0, vr 141, Value.none, Value.none, Value.none, vr 142, vi 547 0, vi 160 0, vs "/claim/cut.py" 548]) #[]
noncomputable def o144 (P : Params) : Obj := ob "function" (Data.func (FuncData.mk (Str.ofString "__delitem__") (Str.ofString "Headers.__delitem__") (fa (me 19 4)) (FuncBody.stmts (fb (me 19 4))) (fs (me 19 4)) 3 [] Value.none Value.none Value.none (vs "cpy313.wsgiref.headers" 390) none (vr 143) Value.none 0)) #[]
noncomputable def o147 (P : Params) : Obj := ob "tuple" (Data.seq #[vs "self" 553, vs "name" 554]) #[]
noncomputable def o149 (P : Params) : Obj := Obj.mk Value.none none (Data.func (FuncData.mk (Str.ofString "__getitem__") (Str.ofString "Headers.__getitem__") (fa (me 19 5)) (FuncBody.stmts (fb (me 19 5))) (fs (me 19 5)) 0 [] Value.none Value.none Value.none Value.none none Value.none Value.none 0)) #[]
noncomputable def o150 (P : Params) : Obj := ob "code" (Data.fields #[vs "__getitem__" 550, vs "Headers.__getitem__" 551, vs "/claim/cut.py" 552, vi 164 0, vi 2 0, vi 0 0, vi 0 0, vi 3 0, vr 145, Value.bool true, vi 276 0, vr 146, Value.none, vr 147, vr 148, vr 149, vi 555 0, vi 164 0, vs "/claim/cut.py" 556]) #[]
noncomputable def o151 (P : Params) : Obj := ob "function" (Data.func (FuncData.mk (Str.ofString "__getitem__") (Str.ofString "Headers.__getitem__") (fa (me 19 5)) (FuncBody.stmts (fb (me 19 5))) (fs (me 19 5)) 3 [] Value.none Value.none Value.none (vs "cpy313.wsgiref.headers" 390) none (vr 150) Value.none 0)) #[]
noncomputable def o154 (P : Params) : Obj := ob "tuple" (Data.seq #[vs "self" 561, vs "name" 562]) #[]
noncomputable def o156 (P : Params) : Obj := Obj.mk Value.none none (Data.func (FuncData.mk (Str.ofString "__contains__") (Str.ofString "Headers.__contains__") (fa (me 19 6)) (FuncBody.stmts (fb (me 19 6))) (fs (me 19 5)) 0 [] Value.none Value.none Value.none Value.none none Value.none Value.none 0)) #[]
noncomputable def o157 (P : Params) : Obj := ob "code" (Data.fields #[vs "__contains__" 558, vs "Headers.__contains__" 559, vs "/claim/cut.py" 560, vi 167 0, vi 2 0, vi 0 0, vi 0 0, vi 3 0, vr 152, Value.bool true, vi 276 0, vr 153, Value.none, vr 154, vr 155, vr 156, vi 563 0, vi 167 0, vs "/claim/cut.py" 564]) #[]
noncomputable def o158 (P : Params) : Obj := ob "function" (Data.func (FuncData.mk (Str.ofString "__contains__") (Str.ofString "Headers.__contains__") (fa (me 19 6)) (FuncBody.stmts (fb (me 19 6))) (fs (me 19 5)) 3 [] Value.none Value.none Value.none (vs "cpy313.wsgiref.headers" 390) none (vr 157) Value.none 0)) #[]
noncomputable def o161 (P : Params) : Obj := ob "tuple" (Data.seq #[vs "self" 569, vs "name" 570]) #[]
noncomputable def o163 (P : Params) : Obj := Obj.mk Value.none none (Data.func (FuncData.mk (Str.ofString "get_all") (Str.ofString "Headers.get_all") (fa (me 19 7)) (FuncBody.stmts (fb (me 19 7))) (fs (me 19 7)) 0 [] Value.none Value.none Value.none Value.none none Value.none Value.none 0)) #[]
noncomputable def o164 (P : Params) : Obj := ob "code" (Data.fields #[vs "get_all" 566, vs "Headers.get_all" 567, vs "/claim/cut.py" 568, vi 170 0, vi 2 0, vi 0 0, vi 0 0, vi 3 0, vr 159, Value.bool true, vi 276 0, vr 160, Value.none, vr 161, vr 162, vr 163, vi 571 0, vi 170 0, vs "/claim/cut.py" 572]) #[]
noncomputable def o165 (P : Params) : Obj := ob "function" (Data.func (FuncData.mk (Str.ofString "get_all") (Str.ofString "Headers.get_all") (fa (me 19 7)) (FuncBody.stmts (fb (me 19 7))) (fs (me 19 7)) 3 [] Value.none Value.none Value.none (vs "cpy313.wsgiref.headers" 390) none (vr 164) Value.none 0)) #[]
noncomputable def o169 (P : Params) : Obj := ob "tuple" (Data.seq #[vs "self" 577, vs "name" 578, vs "default" 579, vs "k" 580, vs "v" 581]) #[]
noncomputable def o171 (P : Params) : Obj := Obj.mk Value.none none (Data.func (FuncData.mk (Str.ofString "get") (Str.ofString "Headers.get") (fa (me 19 8)) (FuncBody.stmts (fb (me 19 8))) (fs (me 19 8)) 0 [] Value.none Value.none Value.none Value.none none Value.none Value.none 0)) #[]
noncomputable def o172 (P : Params) : Obj := ob "code" (Data.fields #[vs "get" 574, vs "Headers.get" 575, vs "/claim/cut.py" 576, vi 173 0, vi 3 0, vi 0 0, vi 0 0, vi 3 0, vr 167, Value.bool true, vi 276 0, vr 168, Value.none, vr 169, vr 170, vr 171, vi 582 0, vi 173 0, vs "/claim/cut.py" 583]) #[]
noncomputable def o173 (P : Params) : Obj := ob "function" (Data.func (FuncData.mk (Str.ofString "get") (Str.ofString "Headers.get") (fa (me 19 8)) (FuncBody.stmts (fb (me 19 8))) (fs (me 19 8)) 3 [] (vr 166) Value.none Value.none (vs "cpy313.wsgiref.headers" 390) none (vr 172) Value.none 0)) #[]
noncomputable def o176 (P : Params) : Obj := Obj.mk Value.none none (Data.func (FuncData.mk (Str.ofString "keys") (Str.ofString "Headers.keys") (fa (me 19 9)) (FuncBody.stmts (fb (me 19 9))) (fs (me 19 9)) 0 [] Value.none Value.none Value.none Value.none none Value.none Value.none 0)) #[]
noncomputable def o177 (P : Params) : Obj := ob "code" (Data.fields #[vs "keys" 585, vs "Headers.keys" 586, vs "/claim/cut.py" 587, vi 180 0, vi 1 0, vi 0 0, vi 0 0, vi 3 0, vr 174, Value.bool true, vi 276 0, vr 175, Value.none, Value.none, Value.none, vr 176, vi 588 0, vi 180 0, vs "/claim/cut.py" 589]) #[]
noncomputable def o178 (P : Params) : Obj := ob "function" (Data.func (FuncData.mk (Str.ofString "keys") (Str.ofString "Headers.keys") (fa (me 19 9)) (FuncBody.stmts (fb (me 19 9))) (fs (me 19 9)) 3 [] Value.none Value.none Value.none (vs "cpy313.wsgiref.headers" 390) none (vr 177) Value.none 0)) #[]
noncomputable def o181 (P : Params) : Obj := Obj.mk Value.none none (Data.func (FuncData.mk (Str.ofString "values") (Str.ofString "Headers.values") (fa (me 19 10)) (FuncBody.stmts (fb (me 19 10))) (fs (me 19 9)) 0 [] Value.none Value.none Value.none Value.none none Value.none Value.none 0)) #[]
noncomputable def o182 (P : Params) : Obj := ob "code" (Data.fields #[vs "values" 591, vs "Headers.values" 592, vs "/claim/cut.py" 593, vi 183 0, vi 1 0, vi 0 0, vi 0 0, vi 3 0, vr 179, Value.bool true, vi 276 0, vr 180, Value.none, Value.none, Value.none, vr 181, vi 594 0, vi 183 0, vs "/claim/cut.py" 595]) #[]
noncomputable def o183 (P : Params) : Obj := ob "function" (Data.func (FuncData.mk (Str.ofString "values") (Str.ofString "Headers.values") (fa (me 19 10)) (FuncBody.stmts (fb (me 19 10))) (fs (me 19 9)) 3 [] Value.none Value.none Value.none (vs "cpy313.wsgiref.headers" 390) none (vr 182) Value.none 0)) #[]
noncomputable def o186 (P : Params) : Obj := ob "tuple" (Data.seq #[vs "self" 600]) #[]
noncomputable def o188 (P : Params) : Obj := Obj.mk Value.none none (Data.func (FuncData.mk (Str.ofString "items") (Str.ofString "Headers.items") (fa (me 19 11)) (FuncBody.stmts (fb (me 19 11))) (fs (me 19 11)) 0 [] Value.none Value.none Value.none Value.none none Value.none Value.none 0)) #[]
noncomputable def o189 (P : Params) : Obj := ob "code" (Data.fields #[vs "items" 597, vs "Headers.items" 598, vs "/claim/cut.py" 599, vi 186 0, vi 1 0, vi 0 0, vi 0 0, vi 3 0, vr 184, Value.bool true, vi 276 0, vr 185, Value.none, vr 186, vr 187, vr 188, vi 601 0, vi 186 0, vs "/claim/cut.py" 602]) #[]
noncomputable def o190 (P : Params) : Obj := ob "function" (Data.func (FuncData.mk (Str.ofString "items") (Str.ofString "Headers.items") (fa (me 19 11)) (FuncBody.stmts (fb (me 19 11))) (fs (me 19 11)) 3 [] Value.none Value.none Value.none (vs "cpy313.wsgiref.headers" 390) none (vr 189) Value.none 0)) #[]
noncomputable def o193 (P : Params) : Obj := ob "tuple" (Data.seq #[vs "self" 607]) #[]
noncomputable def o195 (P : Params) : Obj := Obj.mk Value.none none (Data.func (FuncData.mk (Str.ofString "__repr__") (Str.ofString "Headers.__repr__") (fa (me 19 12)) (FuncBody.stmts (fb (me 19 12))) (fs (me 19 11)) 0 [] Value.none Value.none Value.none Value.none none Value.none Value.none 0)) #[]
noncomputable def o196 (P : Params) : Obj := ob "code" (Data.fields #[vs "__repr__" 604, vs "Headers.__repr__" 605, vs "/claim/cut.py" 606, vi 189 0, vi 1 0, vi 0 0, vi 0 0, vi 3 0, vr 191, Value.bool true, vi 276 0, vr 192, Value.none, vr 193, vr 194, vr 195, vi 608 0, vi 189 0, vs "/claim/cut.py" 609]) #[]
noncomputable def o197 (P : Params) : Obj := ob "function" (Data.func (FuncData.mk (Str.ofString "__repr__") (Str.ofString "Headers.__repr__") (fa (me 19 12)) (FuncBody.stmts (fb (me 19 12))) (fs (me 19 11)) 3 [] Value.none Value.none Value.none (vs "cpy313.wsgiref.headers" 390) none (vr 196) Value.none 0)) #[]
noncomputable def o200 (P : Params) : Obj := Obj.mk Value.none none (Data.func (FuncData.mk (Str.ofString "__str__") (Str.ofString "Headers.__str__") (fa (me 19 13)) (FuncBody.stmts (fb (me 19 13))) (fs (me 19 13)) 0 [] Value.none Value.none Value.none Value.none none Value.none Value.none 0)) #[]
noncomputable def o201 (P : Params) : Obj := ob "code" (Data.fields #[vs "__str__" 611, vs "Headers.__str__" 612, vs "/claim/cut.py" 613, vi 192 0, vi 1 0, vi 0 0, vi 0 0, vi 3 0, vr 198, Value.bool true, vi 276 0, vr 199, Value.none, Value.none, Value.none, vr 200, vi 614 0, vi 192 0, vs "/claim/cut.py" 615]) #[]
noncomputable def o202 (P : Params) : Obj := ob "function" (Data.func (FuncData.mk (Str.ofString "__str__") (Str.ofString "Headers.__str__") (fa (me 19 13)) (FuncBody.stmts (fb (me 19 13))) (fs (me 19 13)) 3 [] Value.none Value.none Value.none (vs "cpy313.wsgiref.headers" 390) none (vr 201) Value.none 0)) #[]
noncomputable def o205 (P : Params) : Obj := ob "tuple" (Data.seq #[vs "self" 620]) #[]
noncomputable def o207 (P : Params) : Obj := Obj.mk Value.none none (Data.func (FuncData.mk (Str.ofString "__bytes__") (Str.ofString "Headers.__bytes__") (fa (me 19 14)) (FuncBody.stmts (fb (me 19 14))) (fs (me 19 14)) 0 [] Value.none Value.none Value.none Value.none none Value.none Value.none 0)) #[]
noncomputable def o208 (P : Params) : Obj := ob "code" (Data.fields #[vs "__bytes__" 617, vs "Headers.__bytes__" 618, vs "/claim/cut.py" 619, vi 195 0, vi 1 0, vi 0 0, vi 0 0, vi 3 0, vr 203, Value.bool true, vi 276 0, vr 204, Value.none, vr 205, vr 206, vr 207, vi 621 0, vi 195 0, vs "/claim/cut.py" 622]) #[]
noncomputable def o209 (P : Params) : Obj := ob "function" (Data.func (FuncData.mk (Str.ofString "__bytes__") (Str.ofString "Headers.__bytes__") (fa (me 19 14)) (FuncBody.stmts (fb (me 19 14))) (fs (me 19 14)) 3 [] Value.none Value.none Value.none (vs "cpy313.wsgiref.headers" 390) none (vr 208) Value.none 0)) #[]
noncomputable def o212 (P : Params) : Obj := ob "tuple" (Data.seq #[vs "self" 627, vs "name" 628, vs "value" 629]) #[]
noncomputable def o214 (P : Params) : Obj := Obj.mk Value.none none (Data.func (FuncData.mk (Str.ofString "setdefault") (Str.ofString "Headers.setdefault") (fa (me 19 15)) (FuncBody.stmts (fb (me 19 15))) (fs (me 19 15)) 0 [] Value.none Value.none Value.none Value.none none Value.none Value.none 0)) #[]
noncomputable def o215 (P : Params) : Obj := ob "code" (Data.fields #[vs "setdefault" 624, vs "Headers.setdefault" 625, vs "/claim/cut.py" 626, vi 198 0, vi 3 0, vi 0 0, vi 0 0, vi 3 0, vr 210, Value.bool true, vi 276 0, vr 211, Value.none, vr 212, vr 213, vr 214, vi 630 0, vi 198 0, vs "/claim/cut.py" 631]) #[]
noncomputable def o216 (P : Params) : Obj := ob "function" (Data.func (FuncData.mk (Str.ofString "setdefault") (Str.ofString "Headers.setdefault") (fa (me 19 15)) (FuncBody.stmts (fb (me 19 15))) (fs (me 19 15)) 3 [] Value.none Value.none Value.none (vs "cpy313.wsgiref.headers" 390) none (vr 215) Value.none 0)) #[]
noncomputable def o219 (P : Params) : Obj := ob "tuple" (Data.seq #[vs "self" 636, vs "_name" 637, vs "_value" 638, vs "_params" 639, vs "parts" 640, vs "k" 641, vs "v" 642]) #[]
noncomputable def o221 (P : Params) : Obj := Obj.mk Value.none none (Data.func (FuncData.mk (Str.ofString "add_header") (Str.ofString "Headers.add_header") (fa (me 19 16)) (FuncBody.stmts (fb (me 19 16))) (fs (me 19 16)) 0 [] Value.none Value.none Value.none Value.none none Value.none Value.none 0)) #[]
noncomputable def o222 (P : Params) : Obj := ob "code" (Data.fields #[vs "add_header" 633, vs "Headers.add_header" 634, vs "/claim/cut.py" 635, vi 201 0, vi 3 0, vi 0 0, vi 0 0, vi 11 0, vr 217, Value.bool true, vi 276 0, vr 218, Value.none, vr 219, vr 220, vr 221, vi 643 0, vi 201 0, vs "/claim/cut.py" 644]) #[]
noncomputable def o223 (P : Params) : Obj := ob "function" (Data.func (FuncData.mk (Str.ofString "add_header") (Str.ofString "Headers.add_header") (fa (me 19 16)) (FuncBody.stmts (fb (me 19 16))) (fs (me 19 16)) 3 [] Value.none Value.none Value.none (vs "cpy313.wsgiref.headers" 390) none (vr 222) Value.none 0)) #[]
noncomputable def o224 (P : Params) : Obj := ob "tuple" (Data.seq #[vs "_headers" 646]) #[]
noncomputable def o225 (P : Params) : Obj := ob "dict" (Data.dict #[en P "__module__" 503 (vs "cpy313.wsgiref.headers" 390), en P "__firstlineno__" 507 (vi 133 506), en P "__init__" 517 (vr 118), en P "_convert_string_type" 527 (vr 125), en P "__len__" 534 (vr 132), en P "__setitem__" 543 (vr 139), en P "__delitem__" 549 (vr 144), en P "__getitem__" 557 (vr 151), en P "__contains__" 565 (vr 158), en P "get_all" 573 (vr 165), en P "get" 584 (vr 173), en P "keys" 590 (vr 178), en P "values" 596 (vr 183), en P "items" 603 (vr 190), en P "__repr__" 610 (vr 197), en P "__str__" 616 (vr 202), en P "__bytes__" 623 (vr 209), en P "setdefault" 632 (vr 216), en P "add_header" 645 (vr 223), en P "__static_attributes__" 647 (vr 224), en P "__dict__" 649 (vr 227), en P "__weakref__" 651 (vr 228), en P "__doc__" 652 Value.none] 4) #[]
noncomputable def o226 (P : Params) : Obj := ob "type" (Data.cls (ClassData.mk (Str.ofString "Headers") [Value.type "object"] [vr 226, Value.type "object"] 225 (Str.ofString "Headers") true [] [] false none false)) #[none, none, some (vs "Headers" 496), some (vs "Headers" 504), some (Value.builtin "object.__new__"), some (Value.bool true)]
noncomputable def o227 (P : Params) : Obj := Obj.mk (Value.type "getset_descriptor") none (Data.fields #[vs "__dict__" 648, vr 226, Value.builtin "function.__dict__", Value.builtin "function.__dict__#set"]) #[]
noncomputable def o228 (P : Params) : Obj := Obj.mk (Value.type "getset_descriptor") none (Data.fields #[vs "__weakref__" 650, vr 226, Value.builtin "ExceptionGroup.__weakref__", Value.none]) #[]
noncomputable def o229 (P : Params) : Obj := ob "super" (Data.fields #[vr 226, vr 226, vr 226]) #[]
noncomputable def o230 (P : Params) : Obj := Obj.mk (Value.type "builtin_function_or_method") none (Data.fields #[Value.builtin "object.__init_subclass__", vr 226]) #[]
noncomputable def o3qSd (P : Params) : Obj := ob "dict" (Data.dict #[en P "__name__" 165 (vs "law_pg0299_01" 655), en P "__doc__" 166 Value.none, en P "__package__" 167 Value.none, en P "__loader__" 168 (Value.builtin "__main__.__loader__#opaque"), en P "__spec__" 169 Value.none, en P "__annotations__" 170 (vr 6), en P "__builtins__" 171 (vr 4), en P "__file__" 173 (vs "/claim/cut.py" 172), en P "__cached__" 174 Value.none, en P "_sre" 275 (vr 12), en P "_wall" 288 (vr 38), en P "ELLIPSIS_MARKER" 292 (vs "..." 291), en P "_ellipsis_match" 304 (vr 45), en P "ONE_THIRD" 310 (Value.float 4599676419421066581 309), en P "ONE_SIXTH" 314 (Value.float 4595172819793696085 313), en P "TWO_THIRD" 318 (Value.float 4604180019048437077 317), en P "rgb_to_hls" 337 (vr 52), en P "hls_to_rgb" 348 (vr 59), en P "_v" 357 (vr 66), en P "rgb_to_hsv" 375 (vr 73), en P "hsv_to_rgb" 389 (vr 80), en P "tspecials" 425 (vr 85), en P "_name_disallowed_re" 451 (vr 90), en P "_value_disallowed_re" 485 (vr 95), en P "_formatparam" 495 (vr 103), en P "Headers" 654 (vr 226), en P "_law_rows" 670 (vr 237), en P "_law_sign" 678 (vr 244), en P "_law_read" 688 (vr 251), en P "_law_pattern" 704 (vr 258), en P "_law_page" 720 (vr 265), en P "_law_wrapped" 732 (vr 272), en P "_law_written" 738 (vr 277), en P "_law_fits" 744 (vr 282), en P "_law_due" 750 (vr 287), en P "law" 756 (vr 292)] 36) #[]
noncomputable def o29qSd (P : Params) : Obj := Obj.mk Value.none none (Data.fields #[vi 2 0, vi 0 0, vr 37, vi 7 0, vi 0 0, vr 44, vi 39 0, vi 0 0, vr 51, vi 62 0, vi 0 0, vr 58, vi 71 0, vi 0 0, vr 65, vi 80 0, vi 0 0, vr 72, vi 99 0, vi 0 0, vr 79, vi 124 0, vi 0 0, vr 102, vi 133 0, vi 0 0, vr 109, vi 215 0, vi 0 0, vr 236, vi 231 0, vi 0 0, vr 243, vi 235 0, vi 0 0, vr 250, vi 241 0, vi 0 0, vr 257, vi 253 0, vi 0 0, vr 264, vi 265 0, vi 0 0, vr 271, vi 277 0, vi 0 0, vr 276, vi 290 0, vi 0 0, vr 281, vi 298 0, vi 0 0, vr 286, vi 308 0, vi 0 0, vr 291]) #[]
noncomputable def o233 (P : Params) : Obj := ob "tuple" (Data.seq #[vs "script" 660, vs "odd" 661, vs "want" 662, vs "got" 663, vs "x" 664, vs "part" 665, vs "kind" 666, vs "how" 667]) #[]
noncomputable def o235 (P : Params) : Obj := Obj.mk Value.none none (Data.func (FuncData.mk (Str.ofString "_law_rows") (Str.ofString "_law_rows") (fa (tp 21)) (FuncBody.stmts (fb (tp 21))) (fs (tp 21)) 0 [] Value.none Value.none Value.none Value.none none Value.none Value.none 0)) #[]
noncomputable def o236 (P : Params) : Obj := ob "code" (Data.fields #[vs "_law_rows" 657, vs "_law_rows" 658, vs "/claim/cut.py" 659, vi 215 0, vi 2 0, vi 0 0, vi 0 0, vi 3 0, vr 231, Value.bool true, vi 276 0, vr 232, Value.none, vr 233, vr 234, vr 235, vi 668 0, vi 215 0, vs "/claim/cut.py" 669]) #[]
noncomputable def o237 (P : Params) : Obj := ob "function" (Data.func (FuncData.mk (Str.ofString "_law_rows") (Str.ofString "_law_rows") (fa (tp 21)) (FuncBody.stmts (fb (tp 21))) (fs (tp 21)) 3 [] Value.none Value.none Value.none (vs "law_pg0299_01" 655) none (vr 236) Value.none 0)) #[]
noncomputable def o240 (P : Params) : Obj := ob "tuple" (Data.seq #[vs "kind" 674, vs "gap" 675]) #[]
noncomputable def o242 (P : Params) : Obj := Obj.mk Value.none none (Data.func (FuncData.mk (Str.ofString "_law_sign") (Str.ofString "_law_sign") (fa (tp 22)) (FuncBody.stmts (fb (tp 22))) (fs (tp 22)) 0 [] Value.none Value.none Value.none Value.none none Value.none Value.none 0)) #[]
noncomputable def o243 (P : Params) : Obj := ob "code" (Data.fields #[vs "_law_sign" 671, vs "_law_sign" 672, vs "/claim/cut.py" 673, vi 231 0, vi 2 0, vi 0 0, vi 0 0, vi 3 0, vr 238, Value.bool true, vi 276 0, vr 239, Value.none, vr 240, vr 241, vr 242, vi 676 0, vi 231 0, vs "/claim/cut.py" 677]) #[]
noncomputable def o244 (P : Params) : Obj := ob "function" (Data.func (FuncData.mk (Str.ofString "_law_sign") (Str.ofString "_law_sign") (fa (tp 22)) (FuncBody.stmts (fb (tp 22))) (fs (tp 22)) 3 [] Value.none Value.none Value.none (vs "law_pg0299_01" 655) none (vr 243) Value.none 0)) #[]
noncomputable def o247 (P : Params) : Obj := ob "tuple" (Data.seq #[vs "hue" 682, vs "share" 683, vs "level" 684, vs "gap" 685]) #[]
noncomputable def o249 (P : Params) : Obj := Obj.mk Value.none none (Data.func (FuncData.mk (Str.ofString "_law_read") (Str.ofString "_law_read") (fa (tp 23)) (FuncBody.stmts (fb (tp 23))) (fs (tp 23)) 0 [] Value.none Value.none Value.none Value.none none Value.none Value.none 0)) #[]
noncomputable def o250 (P : Params) : Obj := ob "code" (Data.fields #[vs "_law_read" 679, vs "_law_read" 680, vs "/claim/cut.py" 681, vi 235 0, vi 4 0, vi 0 0, vi 0 0, vi 3 0, vr 245, Value.bool true, vi 276 0, vr 246, Value.none, vr 247, vr 248, vr 249, vi 686 0, vi 235 0, vs "/claim/cut.py" 687]) #[]
noncomputable def o251 (P : Params) : Obj := ob "function" (Data.func (FuncData.mk (Str.ofString "_law_read") (Str.ofString "_law_read") (fa (tp 23)) (FuncBody.stmts (fb (tp 23))) (fs (tp 23)) 3 [] Value.none Value.none Value.none (vs "law_pg0299_01" 655) none (vr 250) Value.none 0)) #[]
noncomputable def o254 (P : Params) : Obj := ob "tuple" (Data.seq #[vs "kind" 692, vs "part" 693, vs "turn" 694, vs "share" 695, vs "value" 696, vs "red" 697, vs "green" 698, vs "blue" 699, vs "hue" 700, vs "light" 701]) #[]
noncomputable def o256 (P : Params) : Obj := Obj.mk Value.none none (Data.func (FuncData.mk (Str.ofString "_law_pattern") (Str.ofString "_law_pattern") (fa (tp 24)) (FuncBody.stmts (fb (tp 24))) (fs (tp 24)) 0 [] Value.none Value.none Value.none Value.none none Value.none Value.none 0)) #[]
noncomputable def o257 (P : Params) : Obj := ob "code" (Data.fields #[vs "_law_pattern" 689, vs "_law_pattern" 690, vs "/claim/cut.py" 691, vi 241 0, vi 3 0, vi 0 0, vi 0 0, vi 3 0, vr 252, Value.bool true, vi 276 0, vr 253, Value.none, vr 254, vr 255, vr 256, vi 702 0, vi 241 0, vs "/claim/cut.py" 703]) #[]
noncomputable def o258 (P : Params) : Obj := ob "function" (Data.func (FuncData.mk (Str.ofString "_law_pattern") (Str.ofString "_law_pattern") (fa (tp 24)) (FuncBody.stmts (fb (tp 24))) (fs (tp 24)) 3 [] Value.none Value.none Value.none (vs "law_pg0299_01" 655) none (vr 257) Value.none 0)) #[]
noncomputable def o261 (P : Params) : Obj := ob "tuple" (Data.seq #[vs "kind" 708, vs "part" 709, vs "turn" 710, vs "share" 711, vs "light" 712, vs "red" 713, vs "green" 714, vs "blue" 715, vs "hue" 716, vs "value" 717]) #[]
noncomputable def o263 (P : Params) : Obj := Obj.mk Value.none none (Data.func (FuncData.mk (Str.ofString "_law_page") (Str.ofString "_law_page") (fa (tp 25)) (FuncBody.stmts (fb (tp 25))) (fs (tp 25)) 0 [] Value.none Value.none Value.none Value.none none Value.none Value.none 0)) #[]
noncomputable def o264 (P : Params) : Obj := ob "code" (Data.fields #[vs "_law_page" 705, vs "_law_page" 706, vs "/claim/cut.py" 707, vi 253 0, vi 3 0, vi 0 0, vi 0 0, vi 3 0, vr 259, Value.bool true, vi 276 0, vr 260, Value.none, vr 261, vr 262, vr 263, vi 718 0, vi 253 0, vs "/claim/cut.py" 719]) #[]
noncomputable def o265 (P : Params) : Obj := ob "function" (Data.func (FuncData.mk (Str.ofString "_law_page") (Str.ofString "_law_page") (fa (tp 25)) (FuncBody.stmts (fb (tp 25))) (fs (tp 25)) 3 [] Value.none Value.none Value.none (vs "law_pg0299_01" 655) none (vr 264) Value.none 0)) #[]
noncomputable def o268 (P : Params) : Obj := ob "tuple" (Data.seq #[vs "table" 724, vs "want" 725, vs "got" 726, vs "depth" 727, vs "answers" 728, vs "level" 729]) #[]
noncomputable def o270 (P : Params) : Obj := Obj.mk Value.none none (Data.func (FuncData.mk (Str.ofString "_law_wrapped") (Str.ofString "_law_wrapped") (fa (tp 26)) (FuncBody.stmts (fb (tp 26))) (fs (tp 26)) 0 [] Value.none Value.none Value.none Value.none none Value.none Value.none 0)) #[]
noncomputable def o271 (P : Params) : Obj := ob "code" (Data.fields #[vs "_law_wrapped" 721, vs "_law_wrapped" 722, vs "/claim/cut.py" 723, vi 265 0, vi 4 0, vi 0 0, vi 0 0, vi 3 0, vr 266, Value.bool true, vi 276 0, vr 267, Value.none, vr 268, vr 269, vr 270, vi 730 0, vi 265 0, vs "/claim/cut.py" 731]) #[]
noncomputable def o272 (P : Params) : Obj := ob "function" (Data.func (FuncData.mk (Str.ofString "_law_wrapped") (Str.ofString "_law_wrapped") (fa (tp 26)) (FuncBody.stmts (fb (tp 26))) (fs (tp 26)) 3 [] Value.none Value.none Value.none (vs "law_pg0299_01" 655) none (vr 271) Value.none 0)) #[]
noncomputable def o275 (P : Params) : Obj := Obj.mk Value.none none (Data.func (FuncData.mk (Str.ofString "_law_written") (Str.ofString "_law_written") (fa (tp 27)) (FuncBody.stmts (fb (tp 27))) (fs (tp 27)) 0 [] Value.none Value.none Value.none Value.none none Value.none Value.none 0)) #[]
noncomputable def o276 (P : Params) : Obj := ob "code" (Data.fields #[vs "_law_written" 733, vs "_law_written" 734, vs "/claim/cut.py" 735, vi 277 0, vi 4 0, vi 0 0, vi 0 0, vi 3 0, vr 273, Value.bool true, vi 276 0, vr 274, Value.none, Value.none, Value.none, vr 275, vi 736 0, vi 277 0, vs "/claim/cut.py" 737]) #[]
noncomputable def o277 (P : Params) : Obj := ob "function" (Data.func (FuncData.mk (Str.ofString "_law_written") (Str.ofString "_law_written") (fa (tp 27)) (FuncBody.stmts (fb (tp 27))) (fs (tp 27)) 3 [] Value.none Value.none Value.none (vs "law_pg0299_01" 655) none (vr 276) Value.none 0)) #[]
noncomputable def o280 (P : Params) : Obj := Obj.mk Value.none none (Data.func (FuncData.mk (Str.ofString "_law_fits") (Str.ofString "_law_fits") (fa (tp 28)) (FuncBody.stmts (fb (tp 28))) (fs (tp 28)) 0 [] Value.none Value.none Value.none Value.none none Value.none Value.none 0)) #[]
noncomputable def o281 (P : Params) : Obj := ob "code" (Data.fields #[vs "_law_fits" 739, vs "_law_fits" 740, vs "/claim/cut.py" 741, vi 290 0, vi 2 0, vi 0 0, vi 0 0, vi 3 0, vr 278, Value.bool true, vi 276 0, vr 279, Value.none, Value.none, Value.none, vr 280, vi 742 0, vi 290 0, vs "/claim/cut.py" 743]) #[]
noncomputable def o282 (P : Params) : Obj := ob "function" (Data.func (FuncData.mk (Str.ofString "_law_fits") (Str.ofString "_law_fits") (fa (tp 28)) (FuncBody.stmts (fb (tp 28))) (fs (tp 28)) 3 [] Value.none Value.none Value.none (vs "law_pg0299_01" 655) none (vr 281) Value.none 0)) #[]
noncomputable def o285 (P : Params) : Obj := Obj.mk Value.none none (Data.func (FuncData.mk (Str.ofString "_law_due") (Str.ofString "_law_due") (fa (tp 29)) (FuncBody.stmts (fb (tp 29))) (fs (tp 29)) 0 [] Value.none Value.none Value.none Value.none none Value.none Value.none 0)) #[]
noncomputable def o286 (P : Params) : Obj := ob "code" (Data.fields #[vs "_law_due" 745, vs "_law_due" 746, vs "/claim/cut.py" 747, vi 298 0, vi 4 0, vi 0 0, vi 0 0, vi 3 0, vr 283, Value.bool true, vi 276 0, vr 284, Value.none, Value.none, Value.none, vr 285, vi 748 0, vi 298 0, vs "/claim/cut.py" 749]) #[]
noncomputable def o287 (P : Params) : Obj := ob "function" (Data.func (FuncData.mk (Str.ofString "_law_due") (Str.ofString "_law_due") (fa (tp 29)) (FuncBody.stmts (fb (tp 29))) (fs (tp 29)) 3 [] Value.none Value.none Value.none (vs "law_pg0299_01" 655) none (vr 286) Value.none 0)) #[]
noncomputable def o290 (P : Params) : Obj := Obj.mk Value.none none (Data.func (FuncData.mk (Str.ofString "law") (Str.ofString "law") (fa (tp 30)) (FuncBody.stmts (fb (tp 30))) (fs (tp 30)) 0 [] Value.none Value.none Value.none Value.none none Value.none Value.none 0)) #[]
noncomputable def o291 (P : Params) : Obj := ob "code" (Data.fields #[vs "law" 751, vs "law" 752, vs "/claim/cut.py" 753, vi 308 0, vi 1 0, vi 0 0, vi 0 0, vi 3 0, vr 288, Value.bool true, vi 276 0, vr 289, Value.none, Value.none, Value.none, vr 290, vi 754 0, vi 308 0, vs "/claim/cut.py" 755]) #[]
noncomputable def o292 (P : Params) : Obj := ob "function" (Data.func (FuncData.mk (Str.ofString "law") (Str.ofString "law") (fa (tp 30)) (FuncBody.stmts (fb (tp 30))) (fs (tp 30)) 3 [] Value.none Value.none Value.none (vs "law_pg0299_01" 655) none (vr 291) Value.none 0)) #[]
noncomputable def life : Life := {}
noncomputable def h0 (P : Params) : Heap := ⟨⟨[boot_o_0 P, o1 P, o2 P, o3 P, boot_o_4 P, boot_o_5 P, boot_o_6 P, boot_o_7 P, boot_o_8 P, boot_o_9 P, boot_o_10 P, o11 P, o12 P, o13 P, o14 P, boot_o_7 P, o16 P, o17 P, o18 P, o19 P, o20 P, o21 P, o22 P, o23 P, o24 P, o25 P, o26 P, o27 P]⟩, life⟩
noncomputable def ha (P : Params) : Heap := ⟨⟨[boot_o_0 P, o1 P, o2 P, o3 P, boot_o_4 P, boot_o_5 P, boot_o_6 P, boot_o_7 P, boot_o_8 P, boot_o_9 P, boot_o_10 P, o11 P, o12 P, o13 P, o14 P, boot_o_7 P, o16 P, o17 P, o18 P, o19 P, o20 P, o21 P, o22 P, o23 P, o24 P, o25 P, o26 P, o27 P, boot_o_7 P, boot_o_8 P, o30 P, o31 P]⟩, life⟩
noncomputable def hb (P : Params) : Heap := ⟨⟨[boot_o_0 P, o1 P, o2 P, o3qSb P, boot_o_4 P, boot_o_5 P, boot_o_6 P, boot_o_7 P, boot_o_8 P, boot_o_9 P, boot_o_10 P, o11 P, o12 P, o13 P, o14 P, boot_o_7 P, o16 P, o17 P, o18 P, o19 P, o20 P, o21 P, o22 P, o23 P, o24 P, o25 P, o26 P, o27 P, boot_o_7 P, o29qSb P, o30 P, o31 P, boot_o_7 P, boot_o_8 P, o34 P, boot_o_7 P, o36 P, o37 P, o38 P, boot_o_7 P, boot_o_8 P, o41 P, boot_o_7 P, o43 P, o44 P, o45 P, boot_o_7 P, boot_o_8 P, o48 P, boot_o_7 P, o50 P, o51 P, o52 P, boot_o_7 P, boot_o_8 P, o55 P, boot_o_7 P, o57 P, o58 P, o59 P, boot_o_7 P, boot_o_8 P, o62 P, boot_o_7 P, o64 P, o65 P, o66 P, boot_o_7 P, boot_o_8 P, o69 P, boot_o_7 P, o71 P, o72 P, o73 P, boot_o_7 P, boot_o_8 P, o76 P, boot_o_7 P, o78 P, o79 P, o80 P, o81 P, boot_o_6 P, o83 P, o84 P, o85 P, o86 P, boot_o_6 P, o83 P, o89 P, o90 P, o91 P, boot_o_6 P, o83 P, o94 P, o95 P, o96 P, boot_o_7 P, boot_o_8 P, o99 P, boot_o_7 P, o101 P, o102 P, o103 P]⟩, life⟩
noncomputable def hc (P : Params) : Heap := ⟨⟨[boot_o_0 P, o1 P, o2 P, o3qSc P, boot_o_4 P, boot_o_5 P, boot_o_6 P, boot_o_7 P, boot_o_8 P, boot_o_9 P, boot_o_10 P, o11 P, o12 P, o13 P, o14 P, boot_o_7 P, o16 P, o17 P, o18 P, o19 P, o20 P, o21 P, o22 P, o23 P, o24 P, o25 P, o26 P, o27 P, boot_o_7 P, o29qSc P, o30 P, o31 P, boot_o_7 P, boot_o_8 P, o34 P, boot_o_7 P, o36 P, o37 P, o38 P, boot_o_7 P, boot_o_8 P, o41 P, boot_o_7 P, o43 P, o44 P, o45 P, boot_o_7 P, boot_o_8 P, o48 P, boot_o_7 P, o50 P, o51 P, o52 P, boot_o_7 P, boot_o_8 P, o55 P, boot_o_7 P, o57 P, o58 P, o59 P, boot_o_7 P, boot_o_8 P, o62 P, boot_o_7 P, o64 P, o65 P, o66 P, boot_o_7 P, boot_o_8 P, o69 P, boot_o_7 P, o71 P, o72 P, o73 P, boot_o_7 P, boot_o_8 P, o76 P, boot_o_7 P, o78 P, o79 P, o80 P, o81 P, boot_o_6 P, o83 P, o84 P, o85 P, o86 P, boot_o_6 P, o83 P, o89 P, o90 P, o91 P, boot_o_6 P, o83 P, o94 P, o95 P, o96 P, boot_o_7 P, boot_o_8 P, o99 P, boot_o_7 P, o101 P, o102 P, o103 P, boot_o_7 P, o105 P, o106 P, boot_o_7 P, o108 P, o109 P, o110 P, o83 P, boot_o_7 P, boot_o_8 P, o114 P, boot_o_7 P, o116 P, o117 P, o118 P, boot_o_7 P, boot_o_8 P, o121 P, boot_o_7 P, o123 P, o124 P, o125 P, boot_o_7 P, boot_o_8 P, o128 P, boot_o_7 P, o130 P, o131 P, o132 P, boot_o_7 P, boot_o_8 P, o135 P, boot_o_7 P, o137 P, o138 P, o139 P, boot_o_7 P, boot_o_8 P, o142 P, o143 P, o144 P, boot_o_7 P, boot_o_8 P, o147 P, boot_o_7 P, o149 P, o150 P, o151 P, boot_o_7 P, boot_o_8 P, o154 P, boot_o_7 P, o156 P, o157 P, o158 P, boot_o_7 P, boot_o_8 P, o161 P, boot_o_7 P, o163 P, o164 P, o165 P, o83 P, boot_o_7 P, boot_o_8 P, o169 P, boot_o_7 P, o171 P, o172 P, o173 P, boot_o_7 P, boot_o_8 P, o176 P, o177 P, o178 P, boot_o_7 P, boot_o_8 P, o181 P, o182 P, o183 P, boot_o_7 P, boot_o_8 P, o186 P, boot_o_7 P, o188 P, o189 P, o190 P, boot_o_7 P, boot_o_8 P, o193 P, boot_o_7 P, o195 P, o196 P, o197 P, boot_o_7 P, boot_o_8 P, o200 P, o201 P, o202 P, boot_o_7 P, boot_o_8 P, o205 P, boot_o_7 P, o207 P, o208 P, o209 P, boot_o_7 P, boot_o_8 P, o212 P, boot_o_7 P, o214 P, o215 P, o216 P, boot_o_7 P, boot_o_8 P, o219 P, boot_o_7 P, o221 P, o222 P, o223 P, o224 P, o225 P, o226 P, o227 P, o228 P, o229 P, o230 P]⟩, life⟩
noncomputable def hd (P : Params) : Heap := ⟨⟨[boot_o_0 P, o1 P, o2 P, o3qSd P, boot_o_4 P, boot_o_5 P, boot_o_6 P, boot_o_7 P, boot_o_8 P, boot_o_9 P, boot_o_10 P, o11 P, o12 P, o13 P, o14 P, boot_o_7 P, o16 P, o17 P, o18 P, o19 P, o20 P, o21 P, o22 P, o23 P, o24 P, o25 P, o26 P, o27 P, boot_o_7 P, o29qSd P, o30 P, o31 P, boot_o_7 P, boot_o_8 P, o34 P, boot_o_7 P, o36 P, o37 P, o38 P, boot_o_7 P, boot_o_8 P, o41 P, boot_o_7 P, o43 P, o44 P, o45 P, boot_o_7 P, boot_o_8 P, o48 P, boot_o_7 P, o50 P, o51 P, o52 P, boot_o_7 P, boot_o_8 P, o55 P, boot_o_7 P, o57 P, o58 P, o59 P, boot_o_7 P, boot_o_8 P, o62 P, boot_o_7 P, o64 P, o65 P, o66 P, boot_o_7 P, boot_o_8 P, o69 P, boot_o_7 P, o71 P, o72 P, o73 P, boot_o_7 P, boot_o_8 P, o76 P, boot_o_7 P, o78 P, o79 P, o80 P, o81 P, boot_o_6 P, o83 P, o84 P, o85 P, o86 P, boot_o_6 P, o83 P, o89 P, o90 P, o91 P, boot_o_6 P, o83 P, o94 P, o95 P, o96 P, boot_o_7 P, boot_o_8 P, o99 P, boot_o_7 P, o101 P, o102 P, o103 P, boot_o_7 P, o105 P, o106 P, boot_o_7 P, o108 P, o109 P, o110 P, o83 P, boot_o_7 P, boot_o_8 P, o114 P, boot_o_7 P, o116 P, o117 P, o118 P, boot_o_7 P, boot_o_8 P, o121 P, boot_o_7 P, o123 P, o124 P, o125 P, boot_o_7 P, boot_o_8 P, o128 P, boot_o_7 P, o130 P, o131 P, o132 P, boot_o_7 P, boot_o_8 P, o135 P, boot_o_7 P, o137 P, o138 P, o139 P, boot_o_7 P, boot_o_8 P, o142 P, o143 P, o144 P, boot_o_7 P, boot_o_8 P, o147 P, boot_o_7 P, o149 P, o150 P, o151 P, boot_o_7 P, boot_o_8 P, o154 P, boot_o_7 P, o156 P, o157 P, o158 P, boot_o_7 P, boot_o_8 P, o161 P, boot_o_7 P, o163 P, o164 P, o165 P, o83 P, boot_o_7 P, boot_o_8 P, o169 P, boot_o_7 P, o171 P, o172 P, o173 P, boot_o_7 P, boot_o_8 P, o176 P, o177 P, o178 P, boot_o_7 P, boot_o_8 P, o181 P, o182 P, o183 P, boot_o_7 P, boot_o_8 P, o186 P, boot_o_7 P, o188 P, o189 P, o190 P, boot_o_7 P, boot_o_8 P, o193 P, boot_o_7 P, o195 P, o196 P, o197 P, boot_o_7 P, boot_o_8 P, o200 P, o201 P, o202 P, boot_o_7 P, boot_o_8 P, o205 P, boot_o_7 P, o207 P, o208 P, o209 P, boot_o_7 P, boot_o_8 P, o212 P, boot_o_7 P, o214 P, o215 P, o216 P, boot_o_7 P, boot_o_8 P, o219 P, boot_o_7 P, o221 P, o222 P, o223 P, o224 P, o225 P, o226 P, o227 P, o228 P, o229 P, o230 P, boot_o_7 P, boot_o_8 P, o233 P, boot_o_7 P, o235 P, o236 P, o237 P, boot_o_7 P, boot_o_8 P, o240 P, boot_o_7 P, o242 P, o243 P, o244 P, boot_o_7 P, boot_o_8 P, o247 P, boot_o_7 P, o249 P, o250 P, o251 P, boot_o_7 P, boot_o_8 P, o254 P, boot_o_7 P, o256 P, o257 P, o258 P, boot_o_7 P, boot_o_8 P, o261 P, boot_o_7 P, o263 P, o264 P, o265 P, boot_o_7 P, boot_o_8 P, o268 P, boot_o_7 P, o270 P, o271 P, o272 P, boot_o_7 P, boot_o_8 P, o275 P, o276 P, o277 P, boot_o_7 P, boot_o_8 P, o280 P, o281 P, o282 P, boot_o_7 P, boot_o_8 P, o285 P, o286 P, o287 P, boot_o_7 P, boot_o_8 P, o290 P, o291 P, o292 P]⟩, life⟩
noncomputable abbrev nl : BT := .nil
noncomputable abbrev nd (o : Obj) (l r : BT) : BT := .node o l r
noncomputable abbrev lf (o : Obj) : BT := .node o .nil .nil
noncomputable def ta (P : Params) : BT := (nd (boot_o_0 P) (nd (o1 P) (nd (o3 P) (nd (boot_o_7 P) (nd (boot_o_7 P) (lf (o31 P)) nl) (lf (o23 P))) (nd (o11 P) (lf (o19 P)) (lf (o27 P)))) (nd (boot_o_5 P) (nd (boot_o_9 P) (lf (o17 P)) (lf (o25 P))) (nd (o13 P) (lf (o21 P)) (lf (boot_o_8 P))))) (nd (o2 P) (nd (boot_o_4 P) (nd (boot_o_8 P) (lf (o16 P)) (lf (o24 P))) (nd (o12 P) (lf (o20 P)) (lf (boot_o_7 P)))) (nd (boot_o_6 P) (nd (boot_o_10 P) (lf (o18 P)) (lf (o26 P))) (nd (o14 P) (lf (o22 P)) (lf (o30 P))))))
theorem ea (P : Params) : ha P = absHeap (ta P) 32 life := by kernel_rfl
noncomputable def tb (P : Params) : BT := (nd (boot_o_0 P) (nd (o1 P) (nd (o3qSb P) (nd (boot_o_7 P) (nd (boot_o_7 P) (nd (o31 P) (lf (boot_o_7 P)) (lf (o95 P))) (nd (boot_o_8 P) (lf (o79 P)) nl)) (nd (o23 P) (nd (boot_o_7 P) (lf (o71 P)) (lf (o103 P))) (nd (o55 P) (lf (boot_o_6 P)) nl))) (nd (o11 P) (nd (o19 P) (nd (boot_o_7 P) (lf (boot_o_7 P)) (lf (o99 P))) (nd (o51 P) (lf (o83 P)) nl)) (nd (o27 P) (nd (o43 P) (lf (boot_o_8 P)) nl) (nd (o59 P) (lf (o91 P)) nl)))) (nd (boot_o_5 P) (nd (boot_o_9 P) (nd (o17 P) (nd (boot_o_8 P) (lf (o65 P)) (lf (boot_o_7 P))) (nd (boot_o_7 P) (lf (o81 P)) nl)) (nd (o25 P) (nd (o41 P) (lf (o73 P)) nl) (nd (o57 P) (lf (o89 P)) nl))) (nd (o13 P) (nd (o21 P) (nd (o37 P) (lf (o69 P)) (lf (o101 P))) (nd (boot_o_7 P) (lf (o85 P)) nl)) (nd (o29qSb P) (nd (o45 P) (lf (boot_o_7 P)) nl) (nd (boot_o_8 P) (lf (o83 P)) nl))))) (nd (o2 P) (nd (boot_o_4 P) (nd (boot_o_8 P) (nd (o16 P) (nd (boot_o_7 P) (lf (o64 P)) (lf (o96 P))) (nd (o48 P) (lf (o80 P)) nl)) (nd (o24 P) (nd (boot_o_8 P) (lf (o72 P)) nl) (nd (boot_o_7 P) (lf (o83 P)) nl))) (nd (o12 P) (nd (o20 P) (nd (o36 P) (lf (boot_o_8 P)) (lf (boot_o_7 P))) (nd (o52 P) (lf (o84 P)) nl)) (nd (boot_o_7 P) (nd (o44 P) (lf (o76 P)) nl) (nd (boot_o_7 P) (lf (boot_o_6 P)) nl)))) (nd (boot_o_6 P) (nd (boot_o_10 P) (nd (o18 P) (nd (o34 P) (lf (o66 P)) (lf (boot_o_8 P))) (nd (o50 P) (lf (boot_o_6 P)) nl)) (nd (o26 P) (nd (boot_o_7 P) (lf (boot_o_7 P)) nl) (nd (o58 P) (lf (o90 P)) nl))) (nd (o14 P) (nd (o22 P) (nd (o38 P) (lf (boot_o_7 P)) (lf (o102 P))) (nd (boot_o_8 P) (lf (o86 P)) nl)) (nd (o30 P) (nd (boot_o_7 P) (lf (o78 P)) nl) (nd (o62 P) (lf (o94 P)) nl))))))
theorem eb (P : Params) : hb P = absHeap (tb P) 104 life := by kernel_rfl
noncomputable def tc (P : Params) : BT := (nd (boot_o_0 P) (nd (o1 P) (nd (o3qSc P) (nd (boot_o_7 P) (nd (boot_o_7 P) (nd (o31 P) (nd (boot_o_7 P) (lf (boot_o_8 P)) (lf (boot_o_7 P))) (nd (o95 P) (lf (boot_o_7 P)) (lf (o223 P)))) (nd (boot_o_8 P) (nd (o79 P) (lf (o143 P)) (lf (o207 P))) (nd (o83 P) (lf (boot_o_8 P)) nl))) (nd (o23 P) (nd (boot_o_7 P) (nd (o71 P) (lf (o135 P)) (lf (boot_o_8 P))) (nd (o103 P) (lf (boot_o_7 P)) nl)) (nd (o55 P) (nd (boot_o_6 P) (lf (o151 P)) (lf (o215 P))) (nd (boot_o_7 P) (lf (o183 P)) nl)))) (nd (o11 P) (nd (o19 P) (nd (boot_o_7 P) (nd (boot_o_7 P) (lf (o131 P)) (lf (o195 P))) (nd (o99 P) (lf (o163 P)) (lf (o227 P)))) (nd (o51 P) (nd (o83 P) (lf (o147 P)) (lf (boot_o_8 P))) (nd (boot_o_7 P) (lf (boot_o_7 P)) nl))) (nd (o27 P) (nd (o43 P) (nd (boot_o_8 P) (lf (o139 P)) (lf (boot_o_7 P))) (nd (boot_o_7 P) (lf (o171 P)) nl)) (nd (o59 P) (nd (o91 P) (lf (boot_o_7 P)) (lf (o219 P))) (nd (o123 P) (lf (boot_o_7 P)) nl))))) (nd (boot_o_5 P) (nd (boot_o_9 P) (nd (o17 P) (nd (boot_o_8 P) (nd (o65 P) (lf (boot_o_7 P)) (lf (o193 P))) (nd (boot_o_7 P) (lf (o161 P)) (lf (o225 P)))) (nd (boot_o_7 P) (nd (o81 P) (lf (boot_o_7 P)) (lf (o209 P))) (nd (boot_o_8 P) (lf (o177 P)) nl))) (nd (o25 P) (nd (o41 P) (nd (o73 P) (lf (o137 P)) (lf (o201 P))) (nd (o105 P) (lf (o169 P)) nl)) (nd (o57 P) (nd (o89 P) (lf (boot_o_8 P)) (lf (boot_o_7 P))) (nd (o121 P) (lf (boot_o_8 P)) nl)))) (nd (o13 P) (nd (o21 P) (nd (o37 P) (nd (o69 P) (lf (boot_o_7 P)) (lf (o197 P))) (nd (o101 P) (lf (o165 P)) (lf (o229 P)))) (nd (boot_o_7 P) (nd (o85 P) (lf (o149 P)) (lf (boot_o_7 P))) (nd (o117 P) (lf (o181 P)) nl))) (nd (o29qSc P) (nd (o45 P) (nd (boot_o_7 P) (lf (boot_o_8 P)) (lf (o205 P))) (nd (o109 P) (lf (o173 P)) nl)) (nd (boot_o_8 P) (nd (o83 P) (lf (o157 P)) (lf (o221 P))) (nd (o125 P) (lf (o189 P)) nl)))))) (nd (o2 P) (nd (boot_o_4 P) (nd (boot_o_8 P) (nd (o16 P) (nd (boot_o_7 P) (nd (o64 P) (lf (o128 P)) (lf (boot_o_8 P))) (nd (o96 P) (lf (boot_o_8 P)) (lf (o224 P)))) (nd (o48 P) (nd (o80 P) (lf (o144 P)) (lf (o208 P))) (nd (boot_o_7 P) (lf (o176 P)) nl))) (nd (o24 P) (nd (boot_o_8 P) (nd (o72 P) (lf (boot_o_7 P)) (lf (o200 P))) (nd (boot_o_7 P) (lf (boot_o_8 P)) nl)) (nd (boot_o_7 P) (nd (o83 P) (lf (boot_o_7 P)) (lf (o216 P))) (nd (boot_o_8 P) (lf (boot_o_7 P)) nl)))) (nd (o12 P) (nd (o20 P) (nd (o36 P) (nd (boot_o_8 P) (lf (o132 P)) (lf (o196 P))) (nd (boot_o_7 P) (lf (o164 P)) (lf (o228 P)))) (nd (o52 P) (nd (o84 P) (lf (boot_o_7 P)) (lf (o212 P))) (nd (o116 P) (lf (boot_o_8 P)) nl))) (nd (boot_o_7 P) (nd (o44 P) (nd (o76 P) (lf (boot_o_7 P)) (lf (boot_o_8 P))) (nd (o108 P) (lf (o172 P)) nl)) (nd (boot_o_7 P) (nd (boot_o_6 P) (lf (o156 P)) (lf (boot_o_7 P))) (nd (o124 P) (lf (o188 P)) nl))))) (nd (boot_o_6 P) (nd (boot_o_10 P) (nd (o18 P) (nd (o34 P) (nd (o66 P) (lf (o130 P)) (lf (boot_o_7 P))) (nd (boot_o_8 P) (lf (boot_o_7 P)) (lf (o226 P)))) (nd (o50 P) (nd (boot_o_6 P) (lf (boot_o_8 P)) (lf (boot_o_7 P))) (nd (o114 P) (lf (o178 P)) nl))) (nd (o26 P) (nd (boot_o_7 P) (nd (boot_o_7 P) (lf (o138 P)) (lf (o202 P))) (nd (o106 P) (lf (boot_o_7 P)) nl)) (nd (o58 P) (nd (o90 P) (lf (o154 P)) (lf (boot_o_8 P))) (nd (boot_o_7 P) (lf (o186 P)) nl)))) (nd (o14 P) (nd (o22 P) (nd (o38 P) (nd (boot_o_7 P) (lf (boot_o_8 P)) (lf (boot_o_7 P))) (nd (o102 P) (lf (o83 P)) (lf (o230 P)))) (nd (boot_o_8 P) (nd (o86 P) (lf (o150 P)) (lf (o214 P))) (nd (o118 P) (lf (o182 P)) nl))) (nd (o30 P) (nd (boot_o_7 P) (nd (o78 P) (lf (o142 P)) (lf (boot_o_7 P))) (nd (o110 P) (lf (boot_o_7 P)) nl)) (nd (o62 P) (nd (o94 P) (lf (o158 P)) (lf (o222 P))) (nd (boot_o_7 P) (lf (o190 P)) nl)))))))
theorem ec (P : Params) : hc P = absHeap (tc P) 231 life := by kernel_rfl
noncomputable def td (P : Params) : BT := (nd (boot_o_0 P) (nd (o1 P) (nd (o3qSd P) (nd (boot_o_7 P) (nd (boot_o_7 P) (nd (o31 P) (nd (boot_o_7 P) (nd (boot_o_8 P) (lf (boot_o_7 P)) nl) (lf (boot_o_7 P))) (nd (o95 P) (nd (boot_o_7 P) (lf (o287 P)) nl) (lf (o223 P)))) (nd (boot_o_8 P) (nd (o79 P) (nd (o143 P) (lf (o271 P)) nl) (lf (o207 P))) (nd (o83 P) (lf (boot_o_8 P)) (lf (boot_o_8 P))))) (nd (o23 P) (nd (boot_o_7 P) (nd (o71 P) (nd (o135 P) (lf (o263 P)) nl) (lf (boot_o_8 P))) (nd (o103 P) (lf (boot_o_7 P)) (lf (boot_o_7 P)))) (nd (o55 P) (nd (boot_o_6 P) (nd (o151 P) (lf (boot_o_8 P)) nl) (lf (o215 P))) (nd (boot_o_7 P) (lf (o183 P)) (lf (o247 P)))))) (nd (o11 P) (nd (o19 P) (nd (boot_o_7 P) (nd (boot_o_7 P) (nd (o131 P) (lf (boot_o_7 P)) nl) (lf (o195 P))) (nd (o99 P) (nd (o163 P) (lf (o291 P)) nl) (lf (o227 P)))) (nd (o51 P) (nd (o83 P) (nd (o147 P) (lf (o275 P)) nl) (lf (boot_o_8 P))) (nd (boot_o_7 P) (lf (boot_o_7 P)) (lf (o243 P))))) (nd (o27 P) (nd (o43 P) (nd (boot_o_8 P) (nd (o139 P) (lf (boot_o_8 P)) nl) (lf (boot_o_7 P))) (nd (boot_o_7 P) (lf (o171 P)) (lf (o235 P)))) (nd (o59 P) (nd (o91 P) (nd (boot_o_7 P) (lf (boot_o_7 P)) nl) (lf (o219 P))) (nd (o123 P) (lf (boot_o_7 P)) (lf (o251 P))))))) (nd (boot_o_5 P) (nd (boot_o_9 P) (nd (o17 P) (nd (boot_o_8 P) (nd (o65 P) (nd (boot_o_7 P) (lf (o257 P)) nl) (lf (o193 P))) (nd (boot_o_7 P) (nd (o161 P) (lf (boot_o_8 P)) nl) (lf (o225 P)))) (nd (boot_o_7 P) (nd (o81 P) (nd (boot_o_7 P) (lf (boot_o_7 P)) nl) (lf (o209 P))) (nd (boot_o_8 P) (lf (o177 P)) (lf (boot_o_7 P))))) (nd (o25 P) (nd (o41 P) (nd (o73 P) (nd (o137 P) (lf (o265 P)) nl) (lf (o201 P))) (nd (o105 P) (lf (o169 P)) (lf (o233 P)))) (nd (o57 P) (nd (o89 P) (nd (boot_o_8 P) (lf (o281 P)) nl) (lf (boot_o_7 P))) (nd (o121 P) (lf (boot_o_8 P)) (lf (o249 P)))))) (nd (o13 P) (nd (o21 P) (nd (o37 P) (nd (o69 P) (nd (boot_o_7 P) (lf (o261 P)) nl) (lf (o197 P))) (nd (o101 P) (lf (o165 P)) (lf (o229 P)))) (nd (boot_o_7 P) (nd (o85 P) (nd (o149 P) (lf (o277 P)) nl) (lf (boot_o_7 P))) (nd (o117 P) (lf (o181 P)) (lf (boot_o_7 P))))) (nd (o29qSd P) (nd (o45 P) (nd (boot_o_7 P) (nd (boot_o_8 P) (lf (boot_o_7 P)) nl) (lf (o205 P))) (nd (o109 P) (lf (o173 P)) (lf (o237 P)))) (nd (boot_o_8 P) (nd (o83 P) (nd (o157 P) (lf (o285 P)) nl) (lf (o221 P))) (nd (o125 P) (lf (o189 P)) (lf (boot_o_8 P)))))))) (nd (o2 P) (nd (boot_o_4 P) (nd (boot_o_8 P) (nd (o16 P) (nd (boot_o_7 P) (nd (o64 P) (nd (o128 P) (lf (o256 P)) nl) (lf (boot_o_8 P))) (nd (o96 P) (nd (boot_o_8 P) (lf (boot_o_7 P)) nl) (lf (o224 P)))) (nd (o48 P) (nd (o80 P) (nd (o144 P) (lf (o272 P)) nl) (lf (o208 P))) (nd (boot_o_7 P) (lf (o176 P)) (lf (o240 P))))) (nd (o24 P) (nd (boot_o_8 P) (nd (o72 P) (nd (boot_o_7 P) (lf (o264 P)) nl) (lf (o200 P))) (nd (boot_o_7 P) (lf (boot_o_8 P)) (lf (boot_o_8 P)))) (nd (boot_o_7 P) (nd (o83 P) (nd (boot_o_7 P) (lf (o280 P)) nl) (lf (o216 P))) (nd (boot_o_8 P) (lf (boot_o_7 P)) (lf (boot_o_7 P)))))) (nd (o12 P) (nd (o20 P) (nd (o36 P) (nd (boot_o_8 P) (nd (o132 P) (lf (boot_o_8 P)) nl) (lf (o196 P))) (nd (boot_o_7 P) (nd (o164 P) (lf (o292 P)) nl) (lf (o228 P)))) (nd (o52 P) (nd (o84 P) (nd (boot_o_7 P) (lf (o276 P)) nl) (lf (o212 P))) (nd (o116 P) (lf (boot_o_8 P)) (lf (o244 P))))) (nd (boot_o_7 P) (nd (o44 P) (nd (o76 P) (nd (boot_o_7 P) (lf (o268 P)) nl) (lf (boot_o_8 P))) (nd (o108 P) (lf (o172 P)) (lf (o236 P)))) (nd (boot_o_7 P) (nd (boot_o_6 P) (nd (o156 P) (lf (boot_o_8 P)) nl) (lf (boot_o_7 P))) (nd (o124 P) (lf (o188 P)) (lf (boot_o_7 P))))))) (nd (boot_o_6 P) (nd (boot_o_10 P) (nd (o18 P) (nd (o34 P) (nd (o66 P) (nd (o130 P) (lf (o258 P)) nl) (lf (boot_o_7 P))) (nd (boot_o_8 P) (nd (boot_o_7 P) (lf (o290 P)) nl) (lf (o226 P)))) (nd (o50 P) (nd (boot_o_6 P) (nd (boot_o_8 P) (lf (boot_o_8 P)) nl) (lf (boot_o_7 P))) (nd (o114 P) (lf (o178 P)) (lf (o242 P))))) (nd (o26 P) (nd (boot_o_7 P) (nd (boot_o_7 P) (nd (o138 P) (lf (boot_o_7 P)) nl) (lf (o202 P))) (nd (o106 P) (lf (boot_o_7 P)) (lf (boot_o_7 P)))) (nd (o58 P) (nd (o90 P) (nd (o154 P) (lf (o282 P)) nl) (lf (boot_o_8 P))) (nd (boot_o_7 P) (lf (o186 P)) (lf (o250 P)))))) (nd (o14 P) (nd (o22 P) (nd (o38 P) (nd (boot_o_7 P) (nd (boot_o_8 P) (lf (boot_o_7 P)) nl) (lf (boot_o_7 P))) (nd (o102 P) (lf (o83 P)) (lf (o230 P)))) (nd (boot_o_8 P) (nd (o86 P) (nd (o150 P) (lf (boot_o_7 P)) nl) (lf (o214 P))) (nd (o118 P) (lf (o182 P)) (lf (boot_o_8 P))))) (nd (o30 P) (nd (boot_o_7 P) (nd (o78 P) (nd (o142 P) (lf (o270 P)) nl) (lf (boot_o_7 P))) (nd (o110 P) (lf (boot_o_7 P)) (lf (boot_o_7 P)))) (nd (o62 P) (nd (o94 P) (nd (o158 P) (lf (o286 P)) nl) (lf (o222 P))) (nd (boot_o_7 P) (lf (o190 P)) (lf (o254 P)))))))))
theorem ed (P : Params) : hd P = absHeap (td P) 293 life := by kernel_rfl
noncomputable def env : Env := { scope := PySem.Challenge.pw_pg0299_01.main.scope, locals := mainNs, globals := mainNs, cells := [], code := .ref 30, frame := some 31 }
noncomputable def cd : Code := .body (behindTheImports pg) env
noncomputable abbrev ann : Option Value := some (.ref 6)
noncomputable def l1 : List Stmt := (behindTheImports pg).take 18
noncomputable def l2 : List Stmt := ((behindTheImports pg).drop 18).take 1
noncomputable def l3 : List Stmt := (behindTheImports pg).drop 19
theorem opens (w : World) : (fencedOpening treeTable pg w 3390).map (fun s => (s.heap, s.gens, s.drawn, s.toks)) = some (h0 w.params, #[], {}, 276) := by kernel_rfl
theorem size (w : World) : ((h0 w.params).isNs mainGlobals && (#[] : Array GenState).size == 0, (h0 w.params).objs.size, (h0 w.params).nsMap mainGlobals "__annotations__") = (true, 28, ann) := by kernel_rfl
theorem pre (w : World) (os : OsState) : topGo treeTable pg w 28 ann 12 ⟨h0 w.params, #[], {}, 276, os⟩ (topStub pg) = some (⟨ha w.params, #[], {}, 282, os⟩, ⟨denote treeTable cd, cd, default, [topFrame default]⟩) := by kernel_rfl
theorem blk (w : World) (os : OsState) : segRun treeTable pg w 28 ann 1 1 ⟨ha w.params, #[], {}, 282, os⟩ (blockOf (behindTheImports pg) env cd default [topFrame default]) = some (.next, ⟨ha w.params, #[], {}, 282, os⟩, cd, default) := by kernel_rfl
theorem tree1 (w : World) (os : OsState) : segRunT treeTable pg w 28 ann 1 700 ⟨ta w.params, 32, life, #[], {}, 282, os⟩ (piecesOf l1 env cd default [topFrame default]) = some (.next, ⟨tb w.params, 104, life, #[], {}, 496, os⟩, cd, ⟨124, 0, 132, 20⟩) := by kernel_rfl
theorem run1 (w : World) (os : OsState) : segRun treeTable pg w 28 ann 1 700 ⟨ha w.params, #[], {}, 282, os⟩ (piecesOf l1 env cd default [topFrame default]) = some (.next, ⟨hb w.params, #[], {}, 496, os⟩, cd, ⟨124, 0, 132, 20⟩) := by rw [ea, eb]; exact segRun_of (tree1 w os)
theorem tree2 (w : World) (os : OsState) : segRunT treeTable pg w 28 ann 1 800 ⟨tb w.params, 104, life, #[], {}, 496, os⟩ (piecesOf l2 env cd ⟨124, 0, 132, 20⟩ [topFrame default]) = some (.next, ⟨tc w.params, 231, life, #[], {}, 655, os⟩, cd, ⟨133, 0, 213, 93⟩) := by kernel_rfl
theorem run2 (w : World) (os : OsState) : segRun treeTable pg w 28 ann 1 800 ⟨hb w.params, #[], {}, 496, os⟩ (piecesOf l2 env cd ⟨124, 0, 132, 20⟩ [topFrame default]) = some (.next, ⟨hc w.params, #[], {}, 655, os⟩, cd, ⟨133, 0, 213, 93⟩) := by rw [eb, ec]; exact segRun_of (tree2 w os)
theorem tree3 (w : World) (os : OsState) : segRunT treeTable pg w 28 ann 1 500 ⟨tc w.params, 231, life, #[], {}, 655, os⟩ (piecesOf l3 env cd ⟨133, 0, 213, 93⟩ [topFrame default]) = some (.next, ⟨td w.params, 293, life, #[], {}, 757, os⟩, cd, ⟨308, 0, 319, 15⟩) := by kernel_rfl
theorem run3 (w : World) (os : OsState) : segRun treeTable pg w 28 ann 1 500 ⟨hc w.params, #[], {}, 655, os⟩ (piecesOf l3 env cd ⟨133, 0, 213, 93⟩ [topFrame default]) = some (.next, ⟨hd w.params, #[], {}, 757, os⟩, cd, ⟨308, 0, 319, 15⟩) := by rw [ec, ed]; exact segRun_of (tree3 w os)
theorem fin (w : World) (os : OsState) : topRun treeTable pg w 28 ann 9 ⟨hd w.params, #[], {}, 757, os⟩ ⟨doneF .next, cd, ⟨308, 0, 319, 15⟩, [topFrame default]⟩ = some ⟨hd w.params, #[], {}, 757, os⟩ := by kernel_rfl
theorem parts : behindTheImports pg = l1 ++ (l2 ++ (l3 ++ [])) := by kernel_rfl
theorem run (w : World) (os : OsState) : topRun treeTable pg w 28 ann (12 + (1 + (700 + (800 + (500 + 9))))) ⟨h0 w.params, #[], {}, 276, os⟩ (topStub pg) = some ⟨hd w.params, #[], {}, 757, os⟩ := by
  refine go_top (pre w os) (piece_block (blk w os) ?_)
  rw [parts]
  exact piece_app (run1 w os) (piece_app (run2 w os) (piece_app (run3 w os) (piece_nil (fin w os))))
end Mine.Pc
end PartHP
section PartHE
open PySem PySem.W PyProof.Rows
namespace Mine
/-- the top's statements that the law's frame reads -/
noncomputable def view : Program := { PySem.Challenge.pw_pg0299_01 with main := { PySem.Challenge.pw_pg0299_01.main with body := [0, 1, 3, 4, 6, 7, 8, 9, 10, 11, 12, 13, 15, 16, 17, 19, 21, 22, 23, 24, 25, 26, 27, 28, 29, 30].filterMap fun i => PySem.Challenge.pw_pg0299_01.main.body[i]? } }
noncomputable abbrev looseN : List Str := [Str.ofString "ONE_THIRD", Str.ofString "ONE_SIXTH", Str.ofString "TWO_THIRD", Str.ofString "tspecials", Str.ofString "_name_disallowed_re", Str.ofString "_value_disallowed_re", Str.ofString "_formatparam"]
noncomputable abbrev readN : List (Str × WData) := [(Str.ofString "ONE_THIRD", .float 4599676419421066581), (Str.ofString "ONE_SIXTH", .float 4595172819793696085), (Str.ofString "TWO_THIRD", .float 4604180019048437077)]
noncomputable abbrev rowN : RowW := OpenRow.toRowW PySem.Challenge.rw_pg0299_01.row
theorem wellLaw : OpenLaw.wellSaid PySem.Challenge.rw_pg0299_01 = true := by
  unfold OpenLaw.wellSaid OpenRow.wellSaid OpenRow.partSaid looksOpen
  (repeat' with_reducible refine look_both ?_ ?_) <;> decide +kernel
local macro_rules | `(tactic| o_law) => `(tactic| refine holds_law Mine.wellLaw fun said => ?_)
local macro_rules | `(tactic| o_head $H) => `(tactic| (refine holds_open (q := Mine.view) (loose := Mine.looseN) (Xt := fun s => xlAt Mine.view Mine.readN s && recOk (RowW.records Mine.rowN) s) (XP := XL Mine.view Mine.readN) (Yf := Hook.obs $H) (Ya := Hook.val $H) (YP := Hook.says $H) (N := 3390) ?hl (Hook.of $H) (Hook.keeps $H) (fun s e => xl_of s (Bool.and_eq_true_iff.mp e).1) XL.keeps (by rfl) (by rfl) (by rfl) (fun s e => recFacts_of (Bool.and_eq_true_iff.mp e).2) (by rfl) (by first | assumption | decide +kernel) (by decide +kernel) ⟨rfl, rfl, rfl, rfl, rfl, by decide +kernel⟩ ?hw ?hc; (case hl => exact LeftO.of_pieces Mine.Pc.opens Mine.Pc.size Mine.Pc.run (by decide +kernel) (fun w => by as_aux_lemma => kernel_rfl))))
open_top hd for PySem.Challenge.rw_pg0299_01
set_option pp.deepTerms false
set_option pp.maxSteps 3000
end Mine
end PartHE
section PartLB
open PySem PySem.W PyProof.Rows
namespace Mine
theorem offLB : True := by w_top off; trivial
noncomputable abbrev lawLoose : List Str := looseW Mine.view
      [Str.ofString "ONE_THIRD", Str.ofString "ONE_SIXTH", Str.ofString "TWO_THIRD", Str.ofString "tspecials",
        Str.ofString "_name_disallowed_re", Str.ofString "_value_disallowed_re", Str.ofString "_formatparam"]
noncomputable abbrev lawProg : Program := PySem.Challenge.rw_pg0299_01.row.prog
noncomputable abbrev Led := List (Addr × Obj)
noncomputable abbrev Ctr (w : World) (mean : ExcName → Option Value) (mg mb : Str → Option Value) (f : Addr) (vs : List Value) (news : Led) (D U : Nat) (Ret : Value → Led → Prop) : Prop :=
  ∀ (dp un : Nat) (gd : Option (List Code)) (cn : Str) (cs : Scope) (a : Addr) (ccd : Value) (cl : List (Str × Addr)) (outer : List Env) (A₀ : Around) (base h₀ : Heap) (L : Addr) (m : Str → Option Value) (s : Shared) (Q E : Value → Shared → Prop),
    Below A₀ base outer h₀ → Fr h₀ L s.heap m → (Mine.hd.heap_1 w.params).In h₀ → News h₀ L s.heap news → Top Mine.view lawLoose mean mg mb h₀ → cs.kind = .function →
    dp + D < recursionLimit → un + U < cLine →
    (∀ v news' h' tk', Ret v news' → Fr h₀ L h' m → News h₀ L h' news' → Q v { s with heap := h', toks := tk' }) →
    wpAny (model lawProg w) (ktrTop dp un gd cn cs L a ccd cl outer) (call (.ref f) vs) Q E s
/-! the slimming of the walks' terms: the frame's map is a local name, the tokens are forgotten -/
section
variable {M : Model} {A : Around} {E : Value → Shared → Prop} {s : Shared} {h₀ : Heap} {L a : Addr} {m : Str → Option Value} {cn : Str} {cs : Scope} {ccd : Value} {cl : List (Str × Addr)} {news : Led} {x : Str} {v : Value}
theorem store_let {Q : Unit → Shared → Prop} (F : Fr h₀ L s.heap m) (N : News h₀ L s.heap news)
    (h : let m' := (fun y => if y = x then some v else m y); ∀ h' tk, Fr h₀ L h' m' → News h₀ L h' news → Q () { s with heap := h', toks := tk })
    (hk : cs.kind = .function := by rfl) (hx : (envX cn cs L a ccd cl).kindOf x = some .local := by rfl) : wpAny M A (storeName (envX cn cs L a ccd cl) x v) Q E s :=
  storeX_L F N (fun h' F' N' => h h' _ F' N') hk hx
theorem upd_same (h : m x = some v) : (fun y => if y = x then some v else m y) = m := by
  funext y
  by_cases e : y = x
  · rw [if_pos e, e, h]
  · rw [if_neg e]
theorem fr_same {h : Heap} (F : Fr h₀ L h m) (e : m x = some v) : Fr h₀ L h (fun y => if y = x then some v else m y) := by rw [upd_same e]; exact F
/-- the end of a statement that leaves one name anew -/
noncomputable def CutEnd (h₀ : Heap) (L : Addr) (m : Str → Option Value) (x : Str) (news : Led) (W : Value → Prop) (s : Shared) (f : Flow) (s' : Shared) : Prop :=
  f = .next ∧ ∃ v h' tk', s' = { s with heap := h', toks := tk' } ∧ W v ∧ Fr h₀ L h' (fun y => if y = x then some v else m y) ∧ News h₀ L h' news
/-- its roads are joined behind it -/
theorem cut_store {st : Stmt} {rest : List Stmt} {env : Env} {Q : Flow → Shared → Prop} (x : Str) (news : Led) (W : Value → Prop) (_ : Fr h₀ L s.heap m)
    (h1 : wpAny M A (exec st env) (fun f s' => CutEnd h₀ L m x news W s f s') E s)
    (h2 : ∀ v, W v → let m' := (fun y => if y = x then some v else m y); ∀ h' tk', Fr h₀ L h' m' → News h₀ L h' news → wpAny M A (execs rest env) Q E { s with heap := h', toks := tk' }) :
    wpAny M A (execs (st :: rest) env) Q E s := by
  refine wpAny_execs_cons (wpAny_mono h1 (fun f s' h => ?_) fun _ _ h => h)
  obtain ⟨rfl, v, h', tk', rfl, w, F, N⟩ := h
  exact h2 v w h' tk' F N
theorem upd_skip {ks : List Str} {x y : Str} {v r : Option Value} (hy : y ∉ ks) (hx : x ∈ ks) : (if y = x then v else r) = r := if_neg fun e => hy (by rw [e]; exact hx)
theorem frame_let {body : List Stmt} {env : Env} {Q : Flow → Shared → Prop} (H : let A' := A; let env' := env; wpAny M A' (execs body env') Q E s) : wpAny M A (execs body env) Q E s := H
theorem map_let {P : Prop} {h : Heap} (F : Fr h₀ L h m) (H : let m' := m; Fr h₀ L h m' → P) : P := H F
end
theorem room {d a b c R : Nat} (h : d + c < R) (k : a + b ≤ c) : d + a + b < R := by omega
theorem room0 {d b c R : Nat} (h : d + c < R) (k : b ≤ c) : d + b < R := by omega
noncomputable def Halt (p : Prop) : Prop := p
theorem halt {p : Prop} (h : Halt p) : p := h
end Mine
end PartLB
section PartF0
open PySem PySem.W PyProof.Rows
namespace Mine
theorem offF0 : True := by w_top off; trivial
section
variable {prog : Program} {w : World} {A : Around} {E : Value → Shared → Prop} {s : Shared}
theorem cmpF_gt {P : Nat → Value → Prop} (val : Nat → UInt64) (hval : ∀ i v, P i v → ∃ t, v = .float (val i) t) :
    CmpOf prog w A .Gt P (fun i j => Float64.cmp (val i) (val j) == some Ordering.gt) := fun i j vi vj s Q E hi hj h => by
  obtain ⟨t, rfl⟩ := hval i vi hi
  obtain ⟨u, rfl⟩ := hval j vj hj
  exact AutoFloatOps.gt_0 h
theorem cmpF_lt {P : Nat → Value → Prop} (val : Nat → UInt64) (hval : ∀ i v, P i v → ∃ t, v = .float (val i) t) :
    CmpOf prog w A .Lt P (fun i j => Float64.cmp (val i) (val j) == some Ordering.lt) := fun i j vi vj s Q E hi hj h => by
  obtain ⟨t, rfl⟩ := hval i vi hi
  obtain ⟨u, rfl⟩ := hval j vj hj
  exact AutoFloatOps.lt_0 h
noncomputable def gtF (a b : UInt64) : Bool := Float64.cmp a b == some Ordering.gt
noncomputable def ltF (a b : UInt64) : Bool := Float64.cmp a b == some Ordering.lt
noncomputable def eqF (a b : UInt64) : Bool := Float64.cmp a b == some Ordering.eq
noncomputable def maxF (a b c : UInt64) : UInt64 := if gtF b a then (if gtF c b then c else b) else (if gtF c a then c else a)
noncomputable def minF (a b c : UInt64) : UInt64 := if ltF b a then (if ltF c b then c else b) else (if ltF c a then c else a)
noncomputable def fAt (a b c : UInt64) : Nat → UInt64 | 0 => a | 1 => b | _ => c
theorem fAt_at {a b c : UInt64} {t u x : Tok} : ∀ (i : Nat) (v : Value), (#[Value.float a t, Value.float b u, Value.float c x] : Array Value)[i]? = some v → ∃ t, v = .float (fAt a b c i) t
  | 0, v, h => ⟨t, by simpa [fAt] using h.symm⟩
  | 1, v, h => ⟨u, by simpa [fAt] using h.symm⟩
  | 2, v, h => ⟨x, by simpa [fAt] using h.symm⟩
  | n + 3, v, h => by simp at h
theorem maxF_call {a b c : UInt64} {t u x : Tok} {Q : Value → Shared → Prop} {h₀ : Heap} {L : Addr} {m : Str → Option Value} {news : List (Addr × Obj)} (hh : A.handled = none) (F : Fr h₀ L s.heap m) (N : News h₀ L s.heap news)
    (h : ∀ h' tk tok, Fr h₀ L h' m → News h₀ L h' news → Q (.float (maxF a b c) tok) { s with heap := h', toks := tk }) :
    wpAny (model prog w) A (call (.builtin "max") [.float a t, .float b u, .float c x]) Q E s := by
  have hT : (s.heap.push { cls := .type "tuple", data := .seq #[.float a t, .float b u, .float c x] }).IsTuple s.heap.objs.size #[.float a t, .float b u, .float c x] := ⟨_, Heap.get?_push_size _ rfl, rfl, 0, rfl⟩
  refine call_max_three (wpAny_pyIter_tuple hT ?_)
  have hsz : (s.heap.push { cls := .type "tuple", data := .seq #[.float a t, .float b u, .float c x] }).objs.size = s.heap.objs.size + 1 := Heap.size_push ..
  refine ⟨_, [_, s.heap.objs.size], [_], _, _, _, _, rfl, Walks.tuple (A := A.in1) hh _ s.heap.objs.size (by rw [hsz]; exact Nat.ne_of_lt (Nat.lt_succ_self _)) #[.float a t, .float b u, .float c x],
    ⟨⟨_, Heap.get?_push_size _ rfl, rfl, rfl⟩, hT.push _⟩, fun d hd => ?_, by simp, cmpF_gt (fAt a b c) fAt_at, fun v h' tk hP hk => ?_⟩
  · show d < ((s.heap.push _).push _).objs.size
    rw [Heap.size_push, hsz]
    rcases List.mem_cons.mp hd with rfl | hd
    · rw [hsz]; exact Nat.lt_succ_self _
    · rcases List.mem_cons.mp hd with rfl | hd
      · exact Nat.lt_succ_of_lt (Nat.lt_succ_self _)
      · cases hd
  · have hold : ∀ d o, s.heap.get? d = some o → h'.get? d = some o := fun d o e => by
      refine hk d o (fun hm => ?_) (Heap.get?_push_of_some _ (Heap.get?_push_of_some _ e))
      rcases List.mem_cons.mp hm with e1 | hm
      · have := Heap.lt_size e; rw [e1, hsz] at this; exact Nat.lt_irrefl _ (Nat.lt_of_succ_lt this)
      · cases hm
    have hv : ∃ tok, v = .float (maxF a b c) tok := by
      have hP' : (#[Value.float a t, Value.float b u, Value.float c x] : Array Value)[argBest (fun i j => Float64.cmp (fAt a b c i) (fAt a b c j) == some Ordering.gt) 2]? = some v := hP
      have key : argBest (fun i j => Float64.cmp (fAt a b c i) (fAt a b c j) == some Ordering.gt) 2 = if gtF b a then (if gtF c b then 2 else 1) else (if gtF c a then 2 else 0) := by
        unfold argBest argBest argBest
        unfold gtF
        by_cases h1 : (Float64.cmp b a == some Ordering.gt) = true
        · simp only [fAt, h1, if_true]
        · by_cases h2 : (Float64.cmp c a == some Ordering.gt) = true <;> simp [fAt, h1, h2]
      rw [key] at hP'
      unfold maxF
      by_cases h1 : gtF b a = true
      · simp only [h1, if_true] at hP' ⊢
        by_cases h2 : gtF c b = true
        · simp only [h2, if_true] at hP' ⊢; exact ⟨x, by simpa using hP'.symm⟩
        · simp only [h2] at hP' ⊢; exact ⟨u, by simpa using hP'.symm⟩
      · simp only [h1] at hP' ⊢
        by_cases h2 : gtF c a = true
        · simp only [h2, if_true] at hP' ⊢; exact ⟨x, by simpa using hP'.symm⟩
        · simp only [h2] at hP' ⊢; exact ⟨t, by simpa using hP'.symm⟩
    obtain ⟨tok, rfl⟩ := hv
    obtain ⟨oL, a1, a2, hoL, a3⟩ := F.ns
    exact h h' tk tok ⟨⟨oL, a1, a2, hold _ _ hoL, a3⟩, fun b o e => hold _ _ (F.keep b o e), F.above⟩ fun p hp => ⟨hold _ _ (N p hp).1, (N p hp).2⟩
theorem minF_call {a b c : UInt64} {t u x : Tok} {Q : Value → Shared → Prop} {h₀ : Heap} {L : Addr} {m : Str → Option Value} {news : List (Addr × Obj)} (hh : A.handled = none) (F : Fr h₀ L s.heap m) (N : News h₀ L s.heap news)
    (h : ∀ h' tk tok, Fr h₀ L h' m → News h₀ L h' news → Q (.float (minF a b c) tok) { s with heap := h', toks := tk }) :
    wpAny (model prog w) A (call (.builtin "min") [.float a t, .float b u, .float c x]) Q E s := by
  have hT : (s.heap.push { cls := .type "tuple", data := .seq #[.float a t, .float b u, .float c x] }).IsTuple s.heap.objs.size #[.float a t, .float b u, .float c x] := ⟨_, Heap.get?_push_size _ rfl, rfl, 0, rfl⟩
  refine call_min_three (wpAny_pyIter_tuple hT ?_)
  have hsz : (s.heap.push { cls := .type "tuple", data := .seq #[.float a t, .float b u, .float c x] }).objs.size = s.heap.objs.size + 1 := Heap.size_push ..
  refine ⟨_, [_, s.heap.objs.size], [_], _, _, _, _, rfl, Walks.tuple (A := A.in1) hh _ s.heap.objs.size (by rw [hsz]; exact Nat.ne_of_lt (Nat.lt_succ_self _)) #[.float a t, .float b u, .float c x],
    ⟨⟨_, Heap.get?_push_size _ rfl, rfl, rfl⟩, hT.push _⟩, fun d hd => ?_, by simp, cmpF_lt (fAt a b c) fAt_at, fun v h' tk hP hk => ?_⟩
  · show d < ((s.heap.push _).push _).objs.size
    rw [Heap.size_push, hsz]
    rcases List.mem_cons.mp hd with rfl | hd
    · rw [hsz]; exact Nat.lt_succ_self _
    · rcases List.mem_cons.mp hd with rfl | hd
      · exact Nat.lt_succ_of_lt (Nat.lt_succ_self _)
      · cases hd
  · have hold : ∀ d o, s.heap.get? d = some o → h'.get? d = some o := fun d o e => by
      refine hk d o (fun hm => ?_) (Heap.get?_push_of_some _ (Heap.get?_push_of_some _ e))
      rcases List.mem_cons.mp hm with e1 | hm
      · have := Heap.lt_size e; rw [e1, hsz] at this; exact Nat.lt_irrefl _ (Nat.lt_of_succ_lt this)
      · cases hm
    have hv : ∃ tok, v = .float (minF a b c) tok := by
      have hP' : (#[Value.float a t, Value.float b u, Value.float c x] : Array Value)[argBest (fun i j => Float64.cmp (fAt a b c i) (fAt a b c j) == some Ordering.lt) 2]? = some v := hP
      have key : argBest (fun i j => Float64.cmp (fAt a b c i) (fAt a b c j) == some Ordering.lt) 2 = if ltF b a then (if ltF c b then 2 else 1) else (if ltF c a then 2 else 0) := by
        unfold argBest argBest argBest
        unfold ltF
        by_cases h1 : (Float64.cmp b a == some Ordering.lt) = true
        · simp only [fAt, h1, if_true]
        · by_cases h2 : (Float64.cmp c a == some Ordering.lt) = true <;> simp [fAt, h1, h2]
      rw [key] at hP'
      unfold minF
      by_cases h1 : ltF b a = true
      · simp only [h1, if_true] at hP' ⊢
        by_cases h2 : ltF c b = true
        · simp only [h2, if_true] at hP' ⊢; exact ⟨x, by simpa using hP'.symm⟩
        · simp only [h2] at hP' ⊢; exact ⟨u, by simpa using hP'.symm⟩
      · simp only [h1] at hP' ⊢
        by_cases h2 : ltF c a = true
        · simp only [h2, if_true] at hP' ⊢; exact ⟨x, by simpa using hP'.symm⟩
        · simp only [h2] at hP' ⊢; exact ⟨t, by simpa using hP'.symm⟩
    obtain ⟨tok, rfl⟩ := hv
    obtain ⟨oL, a1, a2, hoL, a3⟩ := F.ns
    exact h h' tk tok ⟨⟨oL, a1, a2, hold _ _ hoL, a3⟩, fun b o e => hold _ _ (F.keep b o e), F.above⟩ fun p hp => ⟨hold _ _ (N p hp).1, (N p hp).2⟩
end
theorem ctr_use {w : World} {mean : ExcName → Option Value} {mg mb : Str → Option Value} {f : Addr} {vs : List Value} {news : Led} {D U : Nat} {Ret : Value → Led → Prop}
    {dp un : Nat} {gd : Option (List Code)} {cn : Str} {cs : Scope} {a : Addr} {ccd : Value} {cl : List (Str × Addr)} {outer : List Env} {A₀ : Around} {base h₀ : Heap} {L : Addr} {m : Str → Option Value} {s : Shared} {Q E : Value → Shared → Prop}
    (C : Ctr w mean mg mb f vs news D U Ret) (B : Below A₀ base outer h₀) (F : Fr h₀ L s.heap m) (X : (Mine.hd.heap_1 w.params).In h₀) (N : News h₀ L s.heap news) (T : Top Mine.view lawLoose mean mg mb h₀) (hk : cs.kind = .function)
    (hd : dp + D < recursionLimit) (hu : un + U < cLine)
    (ret : ∀ v news' h' tk', Ret v news' → Fr h₀ L h' m → News h₀ L h' news' → Q v { s with heap := h', toks := tk' }) :
    wpAny (model lawProg w) (ktrTop dp un gd cn cs L a ccd cl outer) (call (.ref f) vs) Q E s := C _ _ _ _ _ _ _ _ _ _ _ _ _ _ _ _ _ B F X N T hk hd hu ret
theorem use_val {w : World} {mean : ExcName → Option Value} {mg mb : Str → Option Value} {f : Addr} {vs : List Value} {news : Led} {D U : Nat} {val : Tok → Value}
    {dp un : Nat} {gd : Option (List Code)} {cn : Str} {cs : Scope} {a : Addr} {ccd : Value} {cl : List (Str × Addr)} {outer : List Env} {A₀ : Around} {base h₀ : Heap} {L : Addr} {m : Str → Option Value} {s : Shared} {Q E : Value → Shared → Prop}
    (C : Ctr w mean mg mb f vs news D U (fun v news' => news' = news ∧ ∃ t, v = val t)) (B : Below A₀ base outer h₀) (F : Fr h₀ L s.heap m) (X : (Mine.hd.heap_1 w.params).In h₀) (N : News h₀ L s.heap news) (T : Top Mine.view lawLoose mean mg mb h₀) (hk : cs.kind = .function)
    (hd : dp + D < recursionLimit) (hu : un + U < cLine)
    (ret : ∀ h' tk' t, Fr h₀ L h' m → News h₀ L h' news → Q (val t) { s with heap := h', toks := tk' }) :
    wpAny (model lawProg w) (ktrTop dp un gd cn cs L a ccd cl outer) (call (.ref f) vs) Q E s :=
  C _ _ _ _ _ _ _ _ _ _ _ _ _ _ _ _ _ B F X N T hk hd hu fun v n h' tk' R F' N' => by obtain ⟨rfl, t, rfl⟩ := R; exact ret h' tk' t F' N'
theorem use_eq {w : World} {mean : ExcName → Option Value} {mg mb : Str → Option Value} {f : Addr} {vs : List Value} {news : Led} {D U : Nat} {val : Value}
    {dp un : Nat} {gd : Option (List Code)} {cn : Str} {cs : Scope} {a : Addr} {ccd : Value} {cl : List (Str × Addr)} {outer : List Env} {A₀ : Around} {base h₀ : Heap} {L : Addr} {m : Str → Option Value} {s : Shared} {Q E : Value → Shared → Prop}
    (C : Ctr w mean mg mb f vs news D U (fun v news' => news' = news ∧ v = val)) (B : Below A₀ base outer h₀) (F : Fr h₀ L s.heap m) (X : (Mine.hd.heap_1 w.params).In h₀) (N : News h₀ L s.heap news) (T : Top Mine.view lawLoose mean mg mb h₀) (hk : cs.kind = .function)
    (hd : dp + D < recursionLimit) (hu : un + U < cLine)
    (ret : ∀ h' tk', Fr h₀ L h' m → News h₀ L h' news → Q val { s with heap := h', toks := tk' }) :
    wpAny (model lawProg w) (ktrTop dp un gd cn cs L a ccd cl outer) (call (.ref f) vs) Q E s :=
  C _ _ _ _ _ _ _ _ _ _ _ _ _ _ _ _ _ B F X N T hk hd hu fun v n h' tk' R F' N' => by obtain ⟨rfl, rfl⟩ := R; exact ret h' tk' F' N'
theorem use_bool {w : World} {mean : ExcName → Option Value} {mg mb : Str → Option Value} {f : Addr} {vs : List Value} {news : Led} {D U : Nat} {P : Prop}
    {dp un : Nat} {gd : Option (List Code)} {cn : Str} {cs : Scope} {a : Addr} {ccd : Value} {cl : List (Str × Addr)} {outer : List Env} {A₀ : Around} {base h₀ : Heap} {L : Addr} {m : Str → Option Value} {s : Shared} {Q E : Value → Shared → Prop}
    (C : Ctr w mean mg mb f vs news D U (fun v news' => news' = news ∧ ∃ b : Bool, v = .bool b ∧ (b = true ↔ P))) (B : Below A₀ base outer h₀) (F : Fr h₀ L s.heap m) (X : (Mine.hd.heap_1 w.params).In h₀) (N : News h₀ L s.heap news) (T : Top Mine.view lawLoose mean mg mb h₀) (hk : cs.kind = .function)
    (hd : dp + D < recursionLimit) (hu : un + U < cLine)
    (ret : ∀ h' tk' b, (b = true ↔ P) → Fr h₀ L h' m → News h₀ L h' news → Q (.bool b) { s with heap := h', toks := tk' }) :
    wpAny (model lawProg w) (ktrTop dp un gd cn cs L a ccd cl outer) (call (.ref f) vs) Q E s :=
  C _ _ _ _ _ _ _ _ _ _ _ _ _ _ _ _ _ B F X N T hk hd hu fun v n h' tk' R F' N' => by obtain ⟨rfl, b, rfl, hb⟩ := R; exact ret h' tk' b hb F' N'
end Mine
end PartF0
section PartP1
open PySem PySem.W PyProof.Rows
namespace Mine
theorem offP1 : True := by w_top off; trivial
/-! a fast log2, and the float operations over it -/
noncomputable def lgAux : Nat → Nat → Nat
  | 0, _ => 0
  | k + 1, n => match Nat.ble (2 ^ 2 ^ k) n with
    | true => 2 ^ k + lgAux k (n / 2 ^ 2 ^ k)
    | false => lgAux k n
theorem lgAux_spec : ∀ (k n : Nat), n ≠ 0 → n < 2 ^ 2 ^ k → 2 ^ lgAux k n ≤ n ∧ n < 2 ^ (lgAux k n + 1)
  | 0, n, h0, h => by
    have : n = 1 := by simp at h; omega
    subst this; simp [lgAux]
  | k + 1, n, h0, h => by
    unfold lgAux
    cases hb : Nat.ble (2 ^ 2 ^ k) n with
    | true =>
      have hle := Nat.le_of_ble_eq_true hb
      have hp : 0 < 2 ^ 2 ^ k := Nat.pow_pos (by decide)
      have hd0 : n / 2 ^ 2 ^ k ≠ 0 := by
        have := Nat.div_pos hle hp; omega
      have hdl : n / 2 ^ 2 ^ k < 2 ^ 2 ^ k := by
        rw [Nat.div_lt_iff_lt_mul hp, ← Nat.pow_add]
        have e : 2 ^ k + 2 ^ k = 2 ^ (k + 1) := by rw [Nat.pow_succ]; omega
        rw [e]; exact h
      obtain ⟨a, b⟩ := lgAux_spec k _ hd0 hdl
      show 2 ^ (2 ^ k + lgAux k (n / 2 ^ 2 ^ k)) ≤ n ∧ n < 2 ^ (2 ^ k + lgAux k (n / 2 ^ 2 ^ k) + 1)
      rw [Nat.add_assoc, Nat.pow_add, Nat.pow_add 2 (2 ^ k)]
      constructor
      · calc 2 ^ 2 ^ k * 2 ^ lgAux k (n / 2 ^ 2 ^ k) ≤ 2 ^ 2 ^ k * (n / 2 ^ 2 ^ k) := Nat.mul_le_mul_left _ a
          _ ≤ n := Nat.mul_div_le n _
      · rw [Nat.mul_comm]; exact (Nat.div_lt_iff_lt_mul hp).mp b
    | false =>
      have hlt : n < 2 ^ 2 ^ k := by
        apply Nat.lt_of_not_le
        intro q
        rw [Nat.ble_eq_true_of_le q] at hb; cases hb
      exact lgAux_spec k n h0 hlt
set_option exponentiation.threshold 5000 in
noncomputable def lg (n : Nat) : Nat := match Nat.blt n (2 ^ 4096) with
  | true => match n with | 0 => 0 | _ => lgAux 12 n
  | false => n.log2
set_option exponentiation.threshold 5000 in
theorem lg_eq (n : Nat) : n.log2 = lg n := by
  unfold lg
  cases hb : Nat.blt n (2 ^ 4096) with
  | false => rfl
  | true =>
    have hlt : n < 2 ^ 2 ^ 12 := Nat.le_of_ble_eq_true hb
    cases n with
    | zero => rfl
    | succ n =>
      obtain ⟨a, b⟩ := lgAux_spec 12 (n + 1) (by omega) hlt
      exact (Nat.log2_eq_iff (by omega)).mpr ⟨a, b⟩
noncomputable def frN {α : Sort _} (n : Nat) (k : Nat → α) : α := match n with | 0 => k 0 | m + 1 => k (m + 1)
theorem frN_eq {α : Sort _} (n : Nat) (k : Nat → α) : frN n k = k n := by cases n <;> rfl
noncomputable def frI {α : Sort _} (n : Int) (k : Int → α) : α := match n with | .ofNat m => frN m fun m => k (.ofNat m) | .negSucc m => frN m fun m => k (.negSucc m)
theorem frI_eq {α : Sort _} (n : Int) (k : Int → α) : frI n k = k n := match n with | .ofNat m => frN_eq m fun m => k (.ofNat m) | .negSucc m => frN_eq m fun m => k (.negSucc m)
noncomputable def roundMagF (n d : Nat) : Nat :=
  if n == 0 then 0 else
  frI ((lg n : Int) - (lg d : Int)) fun l =>
  frI (max (if (Float64.shift n d (-l)).1 ≥ (Float64.shift n d (-l)).2 then l - 52 else l - 53) (-1074)) fun e =>
  frN (Float64.shift n d (-e)).1 fun a => frN (Float64.shift n d (-e)).2 fun b =>
  min Float64.infMag ((e + 1074).toNat * 2 ^ 52 + Float64.halfEven a b)
theorem roundMag_eq : Float64.roundMag = roundMagF := by
  funext n d
  unfold Float64.roundMag roundMagF
  rw [lg_eq n, lg_eq d, frI_eq, frI_eq, frN_eq, frN_eq]
noncomputable def ofFracF (neg : Bool) (n d : Nat) : UInt64 := frN n fun n => frN d fun d => Float64.pack neg (roundMagF n d)
theorem ofFrac_eq : Float64.ofFrac = ofFracF := by funext a b c; unfold Float64.ofFrac ofFracF; rw [roundMag_eq, frN_eq, frN_eq]
noncomputable def ofBinF (neg : Bool) (m : Nat) (e : Int) : UInt64 := frN m fun m => frI e fun e =>
  let (n, d) := Float64.shift m 1 e
  ofFracF neg n d
theorem ofBin_eq : Float64.ofBin = ofBinF := by funext a b c; unfold Float64.ofBin ofBinF; rw [ofFrac_eq, frN_eq, frI_eq]
noncomputable def decF (x : UInt64) : Float64.Num := frN x.toNat fun n =>
  let neg := n / 2 ^ 63 == 1
  frN (n / 2 ^ 52 % 2048) fun ex =>
  frN (n % 2 ^ 52) fun fr =>
  if ex == 2047 then (if fr == 0 then .inf neg else .nan)
  else if ex == 0 then .fin neg fr (-1074)
  else frN (2 ^ 52 + fr) fun m => frI ((ex : Int) - 1075) fun e => .fin neg m e
theorem dec_eq : Float64.decode = decF := by funext x; unfold Float64.decode decF; simp only [frN_eq, frI_eq]
noncomputable def addF (x y : UInt64) : UInt64 :=
  match decF x, decF y with
  | .nan, _ | _, .nan => Float64.nan
  | .inf a, .inf b => if a == b then x else Float64.nan
  | .inf _, .fin .. => x
  | .fin .., .inf _ => y
  | .fin a m e, .fin b k f =>
    frI (min e f) fun g =>
    frI (Float64.sgn a (m * 2 ^ (e - g).toNat) + Float64.sgn b (k * 2 ^ (f - g).toNat)) fun pq =>
    if pq == 0 then Float64.zero (a && b) else ofBinF (pq < 0) pq.natAbs g
theorem add_eq : Float64.add = addF := by
  funext x y; unfold Float64.add addF Float64.align; rw [ofBin_eq, dec_eq]; simp only [frI_eq]; rfl
noncomputable def isNaNF (x : UInt64) : Bool := match decF x with | .nan => true | _ => false
theorem isNaN_eq : Float64.isNaN = isNaNF := by funext x; unfold Float64.isNaN isNaNF; rw [dec_eq]; rfl
noncomputable def negF (x : UInt64) : UInt64 := if isNaNF x then Float64.nan else x ^^^ Float64.pack true 0
theorem neg_eq : Float64.neg = negF := by funext x; unfold Float64.neg negF; rw [isNaN_eq]
noncomputable def subF (x y : UInt64) : UInt64 := addF x (negF y)
theorem sub_eq : Float64.sub = subF := by funext x y; unfold Float64.sub subF; rw [add_eq, neg_eq]
noncomputable def mulF (x y : UInt64) : UInt64 :=
  match decF x, decF y with
  | .nan, _ | _, .nan => Float64.nan
  | .inf a, .inf b => Float64.inf (a != b)
  | .inf a, .fin b k _ | .fin a k _, .inf b => if k == 0 then Float64.nan else Float64.inf (a != b)
  | .fin a m e, .fin b k f => ofBinF (a != b) (m * k) (e + f)
theorem mul_eq : Float64.mul = mulF := by funext x y; unfold Float64.mul mulF; rw [ofBin_eq, dec_eq]; rfl
noncomputable def divF (x y : UInt64) : UInt64 :=
  match decF x, decF y with
  | .nan, _ | _, .nan => Float64.nan
  | .inf _, .inf _ => Float64.nan
  | .inf a, .fin b _ _ => Float64.inf (a != b)
  | .fin a _ _, .inf b => Float64.zero (a != b)
  | .fin a m e, .fin b k f =>
    if k == 0 then (if m == 0 then Float64.nan else Float64.inf (a != b)) else
    frI (e - f) fun g =>
    let (n, d) := Float64.shift m k g
    ofFracF (a != b) n d
theorem div_eq : Float64.div = divF := by funext x y; unfold Float64.div divF; rw [ofFrac_eq, dec_eq]; simp only [frI_eq]; rfl
noncomputable def fmodF (x y : UInt64) : UInt64 :=
  match decF x, decF y with
  | .nan, _ | _, .nan => Float64.nan
  | .inf _, _ => Float64.nan
  | .fin .., .inf _ => x
  | .fin a m e, .fin _ k f =>
    if k == 0 then Float64.nan else
    frI (min e f) fun g => frN (m * 2 ^ (e - g).toNat) fun p => frN (k * 2 ^ (f - g).toNat) fun q =>
    ofBinF a (p % q) g
theorem fmod_eq : Float64.fmod = fmodF := by
  funext x y; unfold Float64.fmod fmodF Float64.align Float64.sgn; rw [ofBin_eq, dec_eq]; simp only [frI_eq, frN_eq, Bool.false_eq_true, if_false, Int.toNat_natCast]; rfl
noncomputable def cmpF (x y : UInt64) : Option Ordering :=
  match decF x, decF y with
  | .nan, _ | _, .nan => none
  | .inf a, .inf b => some (compare (Float64.sgn a 1) (Float64.sgn b 1))
  | .inf a, .fin .. => some (if a then .lt else .gt)
  | .fin .., .inf b => some (if b then .gt else .lt)
  | .fin a m e, .fin b k f =>
    frI (min e f) fun g =>
    frI (Float64.sgn a (m * 2 ^ (e - g).toNat)) fun p => frI (Float64.sgn b (k * 2 ^ (f - g).toNat)) fun q =>
    some (compare p q)
theorem cmp_eq : Float64.cmp = cmpF := by funext x y; unfold Float64.cmp cmpF Float64.align; rw [dec_eq]; simp only [frI_eq]; rfl
noncomputable def isZeroF (x : UInt64) : Bool := match decF x with | .fin _ 0 _ => true | _ => false
theorem isZero_eq : Float64.isZero = isZeroF := by funext x; unfold Float64.isZero isZeroF; rw [dec_eq]; rfl
noncomputable def copysignF (x y : UInt64) : UInt64 := if isNaNF x then Float64.nan else Float64.pack (Float64.signBit y) (x.toNat % 2 ^ 63)
theorem copysign_eq : Float64.copysign = copysignF := by funext x y; unfold Float64.copysign copysignF; rw [isNaN_eq]
noncomputable def modF (x y : UInt64) : UInt64 :=
  frN (fmodF x y).toNat fun n => let m := UInt64.ofNat n
  if isZeroF m then copysignF (Float64.zero false) y
  else if (cmpF y (Float64.zero false) == some .lt) != (cmpF m (Float64.zero false) == some .lt) then addF m y
  else m
theorem mod_eq (x y : UInt64) : (Float64.divmod x y).snd = modF x y := by
  unfold Float64.divmod modF Float64.lt
  rw [fmod_eq, add_eq, frN_eq, UInt64.ofNat_toNat, isZero_eq, cmp_eq, copysign_eq]
  dsimp only
  split
  · rfl
  · split <;> rfl
noncomputable def ofIntF (i : Int) : UInt64 := ofFracF (i < 0) i.natAbs 1
theorem ofInt_eq : Float64.ofInt = ofIntF := by funext i; unfold Float64.ofInt ofIntF; rw [ofFrac_eq]
structure Ops where
  add : UInt64 → UInt64 → UInt64
  sub : UInt64 → UInt64 → UInt64
  mul : UInt64 → UInt64 → UInt64
  div : UInt64 → UInt64 → UInt64
  mod : UInt64 → UInt64 → UInt64
  ofInt : Int → UInt64
noncomputable def real : Ops := ⟨Float64.add, Float64.sub, Float64.mul, Float64.div, fun x y => (Float64.divmod x y).snd, Float64.ofInt⟩
noncomputable def fast : Ops := ⟨addF, subF, mulF, divF, modF, ofIntF⟩
theorem real_eq : real = fast := by
  unfold real fast
  rw [add_eq, sub_eq, mul_eq, div_eq, ofInt_eq, show (fun x y => (Float64.divmod x y).snd) = modF from funext fun x => funext fun y => mod_eq x y]
noncomputable abbrev leF (a b : UInt64) : Bool := Float64.cmp a b == some Ordering.lt || Float64.cmp a b == some Ordering.eq
/-! the colours -/
noncomputable abbrev F3 := UInt64 × UInt64 × UInt64
noncomputable def vF (O : Ops) (m1 m2 hue : UInt64) : UInt64 :=
  let u := O.mod hue 4607182418800017408
  if ltF u 4595172819793696085 then O.add m1 (O.mul (O.mul (O.sub m2 m1) u) 4618441417868443648)
  else if ltF u 4602678819172646912 then m2
  else if ltF u 4604180019048437077 then O.add m1 (O.mul (O.mul (O.sub m2 m1) (O.sub 4604180019048437077 u)) 4618441417868443648)
  else m1
noncomputable def hsvRgb (O : Ops) (h s v : UInt64) : Option F3 :=
  if eqF s 0 then some (v, v, v) else
  if Float64.isFinite (O.mul h 4618441417868443648) then
    let i := Flt.toInt Float64.truncOf (O.mul h 4618441417868443648)
    if i.natAbs < 2 ^ 1024 - 2 ^ 970 then
      let f := O.sub (O.mul h 4618441417868443648) (O.ofInt i)
      let p := O.mul v (O.sub 4607182418800017408 s)
      let q := O.mul v (O.sub 4607182418800017408 (O.mul s f))
      let t := O.mul v (O.sub 4607182418800017408 (O.mul s (O.sub 4607182418800017408 f)))
      let i := i.fmod 6
      if i = 0 then some (v, t, p) else if i = 1 then some (q, v, p) else if i = 2 then some (p, v, t) else if i = 3 then some (p, q, v)
      else if i = 4 then some (t, p, v) else if i = 5 then some (v, p, q) else none
    else none
  else none
noncomputable def hueOf (O : Ops) (r g b mx rng : UInt64) : UInt64 :=
  let rc := O.div (O.sub mx r) rng
  let gc := O.div (O.sub mx g) rng
  let bc := O.div (O.sub mx b) rng
  let h := if eqF r mx then O.sub bc gc else if eqF g mx then O.sub (O.add 4611686018427387904 rc) bc else O.sub (O.add 4616189618054758400 gc) rc
  O.mod (O.div h 4618441417868443648) 4607182418800017408
noncomputable def rgbHsv (O : Ops) (r g b : UInt64) : Option F3 :=
  let mx := maxF r g b
  let mn := minF r g b
  if eqF mn mx then some (0, 0, mx) else
  if Float64.isZero mx then none else
  let rng := O.sub mx mn
  if Float64.isZero rng then none else
  some (hueOf O r g b mx rng, O.div rng mx, mx)
noncomputable def rgbHls (O : Ops) (r g b : UInt64) : Option F3 :=
  let mx := maxF r g b
  let mn := minF r g b
  let l := O.div (O.add mx mn) 4611686018427387904
  if eqF mn mx then some (0, l, 0) else
  let rng := O.sub mx mn
  let d := if leF l 4602678819172646912 then O.add mx mn else O.sub (O.sub 4611686018427387904 mx) mn
  if Float64.isZero d then none else
  if Float64.isZero rng then none else
  some (hueOf O r g b mx rng, l, O.div rng d)
noncomputable def hlsRgb (O : Ops) (h l s : UInt64) : F3 :=
  if eqF s 0 then (l, l, l) else
  let m2 := if leF l 4602678819172646912 then O.mul l (O.add 4607182418800017408 s) else O.sub (O.add l s) (O.mul l s)
  let m1 := O.sub (O.mul 4611686018427387904 l) m2
  (vF O m1 m2 (O.add h 4599676419421066581), vF O m1 m2 h, vF O m1 m2 (O.sub h 4599676419421066581))
noncomputable def signs : Str := Str.ofString "a\"b\\;\t.\n"
noncomputable def signOf (k : Int) (g : Str) : Str := if k = 6 then g else Txt.item signs k
noncomputable def readOf (O : Ops) (hue share level : UInt64) : Option Int :=
  if eqF level 0 then some 7 else if ltF share 4593671619917905920 then some 6 else
  let x := O.add (O.mul hue (O.ofInt 6)) 4602678819172646912
  if Float64.isFinite x then some ((Flt.toInt Float64.truncOf x).fmod 6) else none
noncomputable def patOf (O : Ops) (kind part turn : Int) : Option Int :=
  let share := if kind = 6 then 0 else O.div 4607182418800017408 (O.ofInt (1 + part.fmod 2))
  let value := if kind = 7 then 0 else O.div 4607182418800017408 (O.ofInt (1 + (part.fdiv 2).fmod 2))
  (hsvRgb O (O.div (O.ofInt kind) 4618441417868443648) share value).bind fun a =>
  (rgbHsv O a.1 a.2.1 a.2.2).bind fun b =>
  (hsvRgb O (O.add b.1 (O.div (O.ofInt turn) 4618441417868443648)) b.2.1 b.2.2).bind fun c =>
  (rgbHls O c.1 c.2.1 c.2.2).bind fun d =>
  readOf O d.1 d.2.2 d.2.1
noncomputable def lights (part : Int) : UInt64 := if part.fmod 3 = 0 then 4602678819172646912 else if part.fmod 3 = 1 then 4598175219545276416 else 4604930618986332160
noncomputable def pageOf (O : Ops) (kind part turn : Int) : Option Int :=
  let share := if kind = 6 then 0 else O.div 4607182418800017408 (O.ofInt (1 + (part.fdiv 3).fmod 2))
  let light := if kind = 7 then 0 else lights part
  let a := hlsRgb O (O.div (O.ofInt kind) 4618441417868443648) light share
  (rgbHls O a.1 a.2.1 a.2.2).bind fun b =>
  let c := hlsRgb O (O.add b.1 (O.div (O.ofInt turn) 4618441417868443648)) b.2.1 b.2.2
  (rgbHsv O c.1 c.2.1 c.2.2).bind fun d =>
  readOf O d.1 d.2.1 d.2.2
noncomputable def turned (kind turn : Int) : Int := if kind = 6 then 6 else if kind = 7 then 7 else (kind + turn).fmod 6
/-! the finite check -/
noncomputable def patAll (kind : Nat) : Bool := (List.range 4).all fun p => (List.range 6).all fun t => patOf fast (kind : Int) (p : Int) (t : Int) == some (turned (kind : Int) (t : Int))
noncomputable def pageAll (kind : Nat) : Bool := (List.range 6).all fun p => (List.range 6).all fun t => pageOf fast (kind : Int) (p : Int) (t : Int) == some (turned (kind : Int) (t : Int))
theorem patAll0 : patAll 0 = true := by decide +kernel
theorem patAll1 : patAll 1 = true := by decide +kernel
theorem patAll2 : patAll 2 = true := by decide +kernel
theorem patAll3 : patAll 3 = true := by decide +kernel
theorem patAll4 : patAll 4 = true := by decide +kernel
theorem patAll5 : patAll 5 = true := by decide +kernel
theorem patAll6 : patAll 6 = true := by decide +kernel
theorem patAll7 : patAll 7 = true := by decide +kernel
theorem pageAll0 : pageAll 0 = true := by decide +kernel
theorem pageAll1 : pageAll 1 = true := by decide +kernel
theorem pageAll2 : pageAll 2 = true := by decide +kernel
theorem pageAll3 : pageAll 3 = true := by decide +kernel
theorem pageAll4 : pageAll 4 = true := by decide +kernel
theorem pageAll5 : pageAll 5 = true := by decide +kernel
theorem pageAll6 : pageAll 6 = true := by decide +kernel
theorem pageAll7 : pageAll 7 = true := by decide +kernel
theorem patAll_of (k : Nat) (h : k ≤ 7) : patAll k = true := by
  match k, h with
  | 0, _ => exact patAll0
  | 1, _ => exact patAll1
  | 2, _ => exact patAll2
  | 3, _ => exact patAll3
  | 4, _ => exact patAll4
  | 5, _ => exact patAll5
  | 6, _ => exact patAll6
  | 7, _ => exact patAll7
  | n + 8, h => omega
theorem pageAll_of (k : Nat) (h : k ≤ 7) : pageAll k = true := by
  match k, h with
  | 0, _ => exact pageAll0
  | 1, _ => exact pageAll1
  | 2, _ => exact pageAll2
  | 3, _ => exact pageAll3
  | 4, _ => exact pageAll4
  | 5, _ => exact pageAll5
  | 6, _ => exact pageAll6
  | 7, _ => exact pageAll7
  | n + 8, h => omega
theorem fmod_nat (a b : Nat) : Int.fmod (a : Int) (b : Int) = ((a % b : Nat) : Int) := by rw [Int.fmod_eq_emod_of_nonneg _ (by omega)]; rfl
theorem fdiv_nat (a b : Nat) : Int.fdiv (a : Int) (b : Int) = ((a / b : Nat) : Int) := by rw [Int.fdiv_eq_ediv_of_nonneg _ (by omega)]; rfl
theorem pat_ok {kind part turn : Int} (h0 : 0 ≤ kind) (h1 : kind ≤ 7) (h2 : 0 ≤ part) (h4 : 0 ≤ turn) (h5 : turn < 6) : patOf real kind part turn = some (turned kind turn) := by
  obtain ⟨k, rfl⟩ := Int.eq_ofNat_of_zero_le h0
  obtain ⟨p, rfl⟩ := Int.eq_ofNat_of_zero_le h2
  obtain ⟨t, rfl⟩ := Int.eq_ofNat_of_zero_le h4
  have h := patAll_of k (by omega)
  unfold patAll at h
  have h := List.all_eq_true.mp h (p % 4) (List.mem_range.mpr (Nat.mod_lt _ (by decide)))
  have h := List.all_eq_true.mp h t (List.mem_range.mpr (by omega))
  rw [real_eq, ← beq_iff_eq.mp h]
  unfold patOf
  have e1 : (p : Int).fmod 2 = ((p % 4 : Nat) : Int).fmod 2 := by
    rw [show (2 : Int) = ((2 : Nat) : Int) from rfl, fmod_nat, fmod_nat]; congr 1; omega
  have e2 : ((p : Int).fdiv 2).fmod 2 = (((p % 4 : Nat) : Int).fdiv 2).fmod 2 := by
    rw [show (2 : Int) = ((2 : Nat) : Int) from rfl, fdiv_nat, fdiv_nat, fmod_nat, fmod_nat]; congr 1; omega
  rw [e1, e2]
theorem page_ok {kind part turn : Int} (h0 : 0 ≤ kind) (h1 : kind ≤ 7) (h2 : 0 ≤ part) (h4 : 0 ≤ turn) (h5 : turn < 6) : pageOf real kind part turn = some (turned kind turn) := by
  obtain ⟨k, rfl⟩ := Int.eq_ofNat_of_zero_le h0
  obtain ⟨p, rfl⟩ := Int.eq_ofNat_of_zero_le h2
  obtain ⟨t, rfl⟩ := Int.eq_ofNat_of_zero_le h4
  have h := pageAll_of k (by omega)
  unfold pageAll at h
  have h := List.all_eq_true.mp h (p % 6) (List.mem_range.mpr (Nat.mod_lt _ (by decide)))
  have h := List.all_eq_true.mp h t (List.mem_range.mpr (by omega))
  rw [real_eq, ← beq_iff_eq.mp h]
  unfold pageOf lights
  have e1 : (p : Int).fmod 3 = ((p % 6 : Nat) : Int).fmod 3 := by
    rw [show (3 : Int) = ((3 : Nat) : Int) from rfl, fmod_nat, fmod_nat]; congr 1; omega
  have e2 : ((p : Int).fdiv 3).fmod 2 = (((p % 6 : Nat) : Int).fdiv 3).fmod 2 := by
    rw [show (3 : Int) = ((3 : Nat) : Int) from rfl, show (2 : Int) = ((2 : Nat) : Int) from rfl, fdiv_nat, fdiv_nat, fmod_nat, fmod_nat]; congr 1; omega
  rw [e1, e2]
end Mine
end PartP1
section PartF1
open PySem PySem.W PyProof.Rows
namespace Mine
theorem offF1 : True := by w_top off; trivial
theorem fill : (PySem.Challenge.rw_pg0299_01, Mine.hd.heap_1) = (PySem.Challenge.rw_pg0299_01, Mine.hd.heap_1) := by k_fill; rfl
/-- an answer that is a tuple of three floats -/
noncomputable abbrev Ret3 (news : Led) (r : F3) (v : Value) (news' : Led) : Prop :=
  ∃ (D : Addr) (t1 t2 t3 : Tok), v = .ref D ∧ news' = (D, { cls := Value.type "tuple", data := Data.seq #[Value.float r.1 t1, .float r.2.1 t2, .float r.2.2 t3] }) :: news ∧ ∀ p ∈ news, p.1 < D
theorem use_3 {w : World} {mean : ExcName → Option Value} {mg mb : Str → Option Value} {f : Addr} {vs : List Value} {news : Led} {D U : Nat} {r : F3}
    {dp un : Nat} {gd : Option (List Code)} {cn : Str} {cs : Scope} {a : Addr} {ccd : Value} {cl : List (Str × Addr)} {outer : List Env} {A₀ : Around} {base h₀ : Heap} {L : Addr} {m : Str → Option Value} {s : Shared} {Q E : Value → Shared → Prop}
    (C : Ctr w mean mg mb f vs news D U (Ret3 news r)) (B : Below A₀ base outer h₀) (F : Fr h₀ L s.heap m) (X : (Mine.hd.heap_1 w.params).In h₀) (N : News h₀ L s.heap news) (T : Top Mine.view lawLoose mean mg mb h₀) (hk : cs.kind = .function)
    (hd : dp + D < recursionLimit) (hu : un + U < cLine)
    (ret : ∀ D t1 t2 t3 h' tk', (∀ p ∈ news, p.1 < D) → Fr h₀ L h' m → News h₀ L h' ((D, { cls := Value.type "tuple", data := Data.seq #[Value.float r.1 t1, .float r.2.1 t2, .float r.2.2 t3] }) :: news) → Q (.ref D) { s with heap := h', toks := tk' }) :
    wpAny (model lawProg w) (ktrTop dp un gd cn cs L a ccd cl outer) (call (.ref f) vs) Q E s :=
  C _ _ _ _ _ _ _ _ _ _ _ _ _ _ _ _ _ B F X N T hk hd hu fun v n h' tk' R F' N' => by obtain ⟨D, t1, t2, t3, rfl, rfl, l⟩ := R; exact ret D t1 t2 t3 h' tk' l F' N'
theorem nan_fin {x : UInt64} (h : Float64.isNaN x = true) (h' : Float64.isFinite x = true) : False := by
  unfold Float64.isNaN at h; unfold Float64.isFinite at h'; split at h <;> simp_all
theorem inf_fin {x : UInt64} (h : Float64.isInf x = true) (h' : Float64.isFinite x = true) : False := by
  unfold Float64.isInf at h; unfold Float64.isFinite at h'; split at h <;> simp_all
section
variable (w : World) (mean : ExcName → Option Value) (mg mb : Str → Option Value) (news : Led)
theorem law_sign (k : Int) (t1 t2 : Tok) (g : Str) (h0 : 0 ≤ k) (h7 : k ≤ 7) :
    Ctr w mean mg mb 244 [.int k t1, .str g t2] news 1 8 (fun v news' => news' = news ∧ ∃ t, v = .str (signOf k g) t) := by
  intro dp un gd cn cs a ccd cl outer A₀ base h₀ L m s Q E B F X N T hk hd hu hret
  refine wpAny_call ?_
  k_dflt ktr_enter
  (rename Fr _ _ _ _ => lF9); refine map_let lF9 ?_; clear lF9; intro m9 lF9; refine frame_let ?_; intro A9 env9
  repeat' (first | ((k_unfold); (try dsimp only)) | (k_end; kc_close) | ((with_reducible show wpAny _ _ (call (Value.builtin "min") _ _) _ _ _); ((k_here; (with_reducible show wpAny _ _ (call (Value.builtin "min") [Value.float _ _, Value.float _ _, Value.float _ _]) _ _ _); (refine' minF_call ?zqh1 ?zqh2 ?zqh3 ?_; (case zqh1 => with_unfolding_all rfl); (case zqh2 => k_asm); (case zqh3 => k_asm)); intro h' tk' tok' F' N'; (try k_sweep)))) | ((with_reducible show wpAny _ _ (call (Value.builtin "max") _ _) _ _ _); ((k_here; (with_reducible show wpAny _ _ (call (Value.builtin "max") [Value.float _ _, Value.float _ _, Value.float _ _]) _ _ _); (refine' maxF_call ?zqh1 ?zqh2 ?zqh3 ?_; (case zqh1 => with_unfolding_all rfl); (case zqh2 => k_asm); (case zqh3 => k_asm)); intro h' tk' tok' F' N'; (try k_sweep)))) | ((with_reducible show wpAny _ _ (storeName _ _ _) _ _ _); ((k_here; k_dflt ((refine' store_let ?zqF ?zqN ?_ ?zqa ?zqb; (case zqF => k_asm); (case zqN => k_asm); (case zqa => rfl); (case zqb => rfl); k_whole; intro m' h' tk' F' N'; (try k_sweep)))))) | walk1 | (dsimp only; walk1) | (leave1; (try dsimp only)) | fail "no step")
  · rename_i hh _ _ _ _; exact hret _ _ _ _ ⟨rfl, _, by unfold signOf; rw [if_pos (by assumption)]⟩ (by assumption) (by assumption)
  · exact hret _ _ _ _ ⟨rfl, _, by unfold signOf; rw [if_neg (by assumption)]; rfl⟩ (by assumption) (by assumption)

/-! hsv_to_rgb -/
theorem hsv_a {h s v : UInt64} (e : (Float64.cmp s 0 == some Ordering.eq) = true) : hsvRgb real h s v = some (v, v, v) := by
  unfold hsvRgb eqF; rw [if_pos e]
theorem hsv_n {h s v : UInt64} {r : F3} (e : (Float64.cmp s 0 == some Ordering.eq) = false) (hp : hsvRgb real h s v = some r) :
    Float64.isFinite (Float64.mul h 4618441417868443648) = true ∧ (Flt.toInt Float64.truncOf (Float64.mul h 4618441417868443648)).natAbs < 2 ^ 1024 - 2 ^ 970 := by
  unfold hsvRgb eqF at hp
  rw [if_neg (by rw [e]; decide)] at hp
  split at hp
  · dsimp only at hp
    split at hp
    · exact ⟨by assumption, by assumption⟩
    · cases hp
  · cases hp
theorem hsv_f {h s v : UInt64} {r : F3} (e : (Float64.cmp s 0 == some Ordering.eq) = false) (hp : hsvRgb real h s v = some r) :
    (let i := Flt.toInt Float64.truncOf (Float64.mul h 4618441417868443648)
      let f := Float64.sub (Float64.mul h 4618441417868443648) (Float64.ofInt i)
      let p := Float64.mul v (Float64.sub 4607182418800017408 s)
      let q := Float64.mul v (Float64.sub 4607182418800017408 (Float64.mul s f))
      let t := Float64.mul v (Float64.sub 4607182418800017408 (Float64.mul s (Float64.sub 4607182418800017408 f)))
      let i := i.fmod 6
      if i = 0 then some (v, t, p) else if i = 1 then some (q, v, p) else if i = 2 then some (p, v, t) else if i = 3 then some (p, q, v)
      else if i = 4 then some (t, p, v) else if i = 5 then some (v, p, q) else none) = some r := by
  obtain ⟨h1, h2⟩ := hsv_n e hp
  unfold hsvRgb eqF at hp
  rw [if_neg (by rw [e]; decide)] at hp
  rw [if_pos (show Float64.isFinite (real.mul h 4618441417868443648) = true from h1)] at hp
  dsimp only at hp
  rw [if_pos (show (Flt.toInt Float64.truncOf (real.mul h 4618441417868443648)).natAbs < 2 ^ 1024 - 2 ^ 970 from h2)] at hp
  exact hp
noncomputable abbrev hI (h : UInt64) : Int := Flt.toInt Float64.truncOf (Float64.mul h 4618441417868443648)
noncomputable abbrev hF (h : UInt64) : UInt64 := Float64.sub (Float64.mul h 4618441417868443648) (Float64.ofInt (hI h))
noncomputable abbrev hP (s v : UInt64) : UInt64 := Float64.mul v (Float64.sub 4607182418800017408 s)
noncomputable abbrev hQ (h s v : UInt64) : UInt64 := Float64.mul v (Float64.sub 4607182418800017408 (Float64.mul s (hF h)))
noncomputable abbrev hT (h s v : UInt64) : UInt64 := Float64.mul v (Float64.sub 4607182418800017408 (Float64.mul s (Float64.sub 4607182418800017408 (hF h))))
section
variable {h s v : UInt64} {r : F3} (e : (Float64.cmp s 0 == some Ordering.eq) = false) (hp : hsvRgb real h s v = some r)
include e hp
theorem hsv_k : (if (hI h).fmod 6 = 0 then some (v, hT h s v, hP s v) else if (hI h).fmod 6 = 1 then some (hQ h s v, v, hP s v) else if (hI h).fmod 6 = 2 then some (hP s v, v, hT h s v) else if (hI h).fmod 6 = 3 then some (hP s v, hQ h s v, v)
      else if (hI h).fmod 6 = 4 then some (hT h s v, hP s v, v) else if (hI h).fmod 6 = 5 then some (v, hP s v, hQ h s v) else none) = some r := hsv_f e hp
theorem hsv_0 (k : (hI h).fmod 6 = 0) : r = (v, hT h s v, hP s v) := by
  have q := hsv_k e hp; rw [k] at q; exact (Option.some.inj q).symm
theorem hsv_1 (k : (hI h).fmod 6 = 1) : r = (hQ h s v, v, hP s v) := by
  have q := hsv_k e hp; rw [k] at q; exact (Option.some.inj q).symm
theorem hsv_2 (k : (hI h).fmod 6 = 2) : r = (hP s v, v, hT h s v) := by
  have q := hsv_k e hp; rw [k] at q; exact (Option.some.inj q).symm
theorem hsv_3 (k : (hI h).fmod 6 = 3) : r = (hP s v, hQ h s v, v) := by
  have q := hsv_k e hp; rw [k] at q; exact (Option.some.inj q).symm
theorem hsv_4 (k : (hI h).fmod 6 = 4) : r = (hT h s v, hP s v, v) := by
  have q := hsv_k e hp; rw [k] at q; exact (Option.some.inj q).symm
theorem hsv_5 (k : (hI h).fmod 6 = 5) : r = (v, hP s v, hQ h s v) := by
  have q := hsv_k e hp; rw [k] at q; exact (Option.some.inj q).symm
theorem hsv_6 (k0 : ¬(hI h).fmod 6 = 0) (k1 : ¬(hI h).fmod 6 = 1) (k2 : ¬(hI h).fmod 6 = 2) (k3 : ¬(hI h).fmod 6 = 3) (k4 : ¬(hI h).fmod 6 = 4) (k5 : ¬(hI h).fmod 6 = 5) : False := by
  have q := hsv_k e hp; rw [if_neg k0, if_neg k1, if_neg k2, if_neg k3, if_neg k4, if_neg k5] at q; cases q
end
theorem hsv_to_rgb (h s v : UInt64) (t1 t2 t3 : Tok) (r : F3) (hp : hsvRgb real h s v = some r) :
    Ctr w mean mg mb 80 [.float h t1, .float s t2, .float v t3] news 1 8 (Ret3 news r) := by
  intro dp un gd cn cs a ccd cl outer A₀ base h₀ L m s Q E B F X N T hk hd hu hret
  refine wpAny_call ?_
  k_dflt ktr_enter
  (rename Fr _ _ _ _ => lF9); refine map_let lF9 ?_; clear lF9; intro m9 lF9; refine frame_let ?_; intro A9 env9
  repeat' (first | ((k_unfold); (try dsimp only)) | (k_end; kc_close) | ((with_reducible show wpAny _ _ (call (Value.builtin "min") _ _) _ _ _); ((k_here; (with_reducible show wpAny _ _ (call (Value.builtin "min") [Value.float _ _, Value.float _ _, Value.float _ _]) _ _ _); (refine' minF_call ?zqh1 ?zqh2 ?zqh3 ?_; (case zqh1 => with_unfolding_all rfl); (case zqh2 => k_asm); (case zqh3 => k_asm)); intro h' tk' tok' F' N'; (try k_sweep)))) | ((with_reducible show wpAny _ _ (call (Value.builtin "max") _ _) _ _ _); ((k_here; (with_reducible show wpAny _ _ (call (Value.builtin "max") [Value.float _ _, Value.float _ _, Value.float _ _]) _ _ _); (refine' maxF_call ?zqh1 ?zqh2 ?zqh3 ?_; (case zqh1 => with_unfolding_all rfl); (case zqh2 => k_asm); (case zqh3 => k_asm)); intro h' tk' tok' F' N'; (try k_sweep)))) | ((with_reducible show wpAny _ _ (storeName _ _ _) _ _ _); ((k_here; k_dflt ((refine' store_let ?zqF ?zqN ?_ ?zqa ?zqb; (case zqF => k_asm); (case zqN => k_asm); (case zqa => rfl); (case zqb => rfl); k_whole; intro m' h' tk' F' N'; (try k_sweep)))))) | walk1 | (dsimp only; walk1) | (leave1; (try dsimp only)) | fail "no step")
  all_goals first
    | (have q := hsv_a (h := h) (v := v) (by assumption); rw [q] at hp; cases hp; exact hret _ _ _ _ ⟨_, _, _, _, rfl, rfl, by assumption⟩ (by assumption) (by assumption))
    | (exfalso; have q := hsv_n (by assumption) hp; first | exact nan_fin (by assumption) q.1 | exact inf_fin (by assumption) q.1 | exact absurd q.2 (Nat.not_lt.mpr (by assumption)))
    | (exfalso; exact hsv_6 (by assumption) hp (by with_reducible assumption) (by with_reducible assumption) (by with_reducible assumption) (by with_reducible assumption) (by with_reducible assumption) (by with_reducible assumption))
    | exact hret _ _ _ _ ⟨_, _, _, _, rfl, by first
        | rw [hsv_0 (by assumption) hp (by with_reducible assumption)]
        | rw [hsv_1 (by assumption) hp (by with_reducible assumption)]
        | rw [hsv_2 (by assumption) hp (by with_reducible assumption)]
        | rw [hsv_3 (by assumption) hp (by with_reducible assumption)]
        | rw [hsv_4 (by assumption) hp (by with_reducible assumption)]
        | rw [hsv_5 (by assumption) hp (by with_reducible assumption)], by assumption⟩ (by assumption) (by assumption)

/-! _v -/
theorem vF_def (m1 m2 hue : UInt64) : vF real m1 m2 hue = if (Float64.cmp (Float64.divmod hue 4607182418800017408).snd 4595172819793696085 == some Ordering.lt) = true then Float64.add m1 (Float64.mul (Float64.mul (Float64.sub m2 m1) (Float64.divmod hue 4607182418800017408).snd) 4618441417868443648)
  else if (Float64.cmp (Float64.divmod hue 4607182418800017408).snd 4602678819172646912 == some Ordering.lt) = true then m2
  else if (Float64.cmp (Float64.divmod hue 4607182418800017408).snd 4604180019048437077 == some Ordering.lt) = true then Float64.add m1 (Float64.mul (Float64.mul (Float64.sub m2 m1) (Float64.sub 4604180019048437077 (Float64.divmod hue 4607182418800017408).snd)) 4618441417868443648)
  else m1 := rfl
theorem law_v (m1 m2 hue : UInt64) (t1 t2 t3 : Tok) :
    Ctr w mean mg mb 66 [.float m1 t1, .float m2 t2, .float hue t3] news 1 8 (fun v news' => news' = news ∧ ∃ t, v = .float (vF real m1 m2 hue) t) := by
  intro dp un gd cn cs a ccd cl outer A₀ base h₀ L m s Q E B F X N T hk hd hu hret
  refine wpAny_call ?_
  k_dflt ktr_enter
  (rename Fr _ _ _ _ => lF9); refine map_let lF9 ?_; clear lF9; intro m9 lF9; refine frame_let ?_; intro A9 env9
  repeat' (first | ((k_unfold); (try dsimp only)) | (k_end; kc_close) | ((with_reducible show wpAny _ _ (call (Value.builtin "min") _ _) _ _ _); ((k_here; (with_reducible show wpAny _ _ (call (Value.builtin "min") [Value.float _ _, Value.float _ _, Value.float _ _]) _ _ _); (refine' minF_call ?zqh1 ?zqh2 ?zqh3 ?_; (case zqh1 => with_unfolding_all rfl); (case zqh2 => k_asm); (case zqh3 => k_asm)); intro h' tk' tok' F' N'; (try k_sweep)))) | ((with_reducible show wpAny _ _ (call (Value.builtin "max") _ _) _ _ _); ((k_here; (with_reducible show wpAny _ _ (call (Value.builtin "max") [Value.float _ _, Value.float _ _, Value.float _ _]) _ _ _); (refine' maxF_call ?zqh1 ?zqh2 ?zqh3 ?_; (case zqh1 => with_unfolding_all rfl); (case zqh2 => k_asm); (case zqh3 => k_asm)); intro h' tk' tok' F' N'; (try k_sweep)))) | ((with_reducible show wpAny _ _ (storeName _ _ _) _ _ _); ((k_here; k_dflt ((refine' store_let ?zqF ?zqN ?_ ?zqa ?zqb; (case zqF => k_asm); (case zqN => k_asm); (case zqa => rfl); (case zqb => rfl); k_whole; intro m' h' tk' F' N'; (try k_sweep)))))) | walk1 | (dsimp only; walk1) | (leave1; (try dsimp only)) | fail "no step")
  all_goals (have q := vF_def m1 m2 hue; (repeat (first | rw [if_pos (by with_reducible assumption)] at q | rw [if_neg (by rw [Bool.not_eq_true]; with_reducible assumption)] at q)); exact hret _ _ _ _ ⟨rfl, _, by rw [q]⟩ (by assumption) (by assumption))

/-! rgb_to_hsv, rgb_to_hls -/
theorem hue_a {r g b mx rng : UInt64} (e : (Float64.cmp r mx == some Ordering.eq) = true) : (Float64.divmod (Float64.div (Float64.sub (Float64.div (Float64.sub mx b) rng) (Float64.div (Float64.sub mx g) rng)) 4618441417868443648) 4607182418800017408).snd = hueOf real r g b mx rng := by
  unfold hueOf eqF; dsimp only; rw [if_pos e]; rfl
theorem hue_b {r g b mx rng : UInt64} (e : (Float64.cmp r mx == some Ordering.eq) = false) (e2 : (Float64.cmp g mx == some Ordering.eq) = true) : (Float64.divmod (Float64.div (Float64.sub (Float64.add 4611686018427387904 (Float64.div (Float64.sub mx r) rng)) (Float64.div (Float64.sub mx b) rng)) 4618441417868443648) 4607182418800017408).snd = hueOf real r g b mx rng := by
  unfold hueOf eqF; dsimp only; rw [if_neg (by rw [e]; decide), if_pos e2]; rfl
theorem hue_c {r g b mx rng : UInt64} (e : (Float64.cmp r mx == some Ordering.eq) = false) (e2 : (Float64.cmp g mx == some Ordering.eq) = false) : (Float64.divmod (Float64.div (Float64.sub (Float64.add 4616189618054758400 (Float64.div (Float64.sub mx g) rng)) (Float64.div (Float64.sub mx r) rng)) 4618441417868443648) 4607182418800017408).snd = hueOf real r g b mx rng := by
  unfold hueOf eqF; dsimp only; rw [if_neg (by rw [e]; decide), if_neg (by rw [e2]; decide)]; rfl
theorem rh_a {r g b : UInt64} (e : (Float64.cmp (minF r g b) (maxF r g b) == some Ordering.eq) = true) : rgbHsv real r g b = some (0, 0, maxF r g b) := by
  unfold rgbHsv eqF; rw [if_pos e]
theorem rh_n {r g b : UInt64} {x : F3} (e : (Float64.cmp (minF r g b) (maxF r g b) == some Ordering.eq) = false) (hp : rgbHsv real r g b = some x) :
    Float64.isZero (maxF r g b) = false ∧ Float64.isZero (Float64.sub (maxF r g b) (minF r g b)) = false ∧ x = (hueOf real r g b (maxF r g b) (Float64.sub (maxF r g b) (minF r g b)), Float64.div (Float64.sub (maxF r g b) (minF r g b)) (maxF r g b), maxF r g b) := by
  unfold rgbHsv eqF at hp
  rw [if_neg (by rw [e]; decide)] at hp
  split at hp
  · cases hp
  · dsimp only at hp
    split at hp
    · cases hp
    · rename_i h1 h2
      cases hp
      exact ⟨(Bool.not_eq_true _).mp h1, (Bool.not_eq_true _).mp h2, rfl⟩
theorem rgb_to_hsv (r g b : UInt64) (t1 t2 t3 : Tok) (x : F3) (hp : rgbHsv real r g b = some x) :
    Ctr w mean mg mb 73 [.float r t1, .float g t2, .float b t3] news 1 8 (Ret3 news x) := by
  intro dp un gd cn cs a ccd cl outer A₀ base h₀ L m s Q E B F X N T hk hd hu hret
  refine wpAny_call ?_
  k_dflt ktr_enter
  (rename Fr _ _ _ _ => lF9); refine map_let lF9 ?_; clear lF9; intro m9 lF9; refine frame_let ?_; intro A9 env9
  repeat' (first | ((k_unfold); (try dsimp only)) | (k_end; kc_close) | ((with_reducible show wpAny _ _ (execs (_ :: _) _) _ _ _); first | with_reducible ((k_here; (with_reducible show wpAny _ _ (execs (Stmt.If _ _ _ _ :: _) _) _ _ _); refine halt ?_)) | ((k_here; (with_reducible show wpAny _ _ (execs (Stmt.If _ _ _ _ :: _) _) _ _ _); refine halt ?_))) | ((with_reducible show wpAny _ _ (call (Value.builtin "min") _ _) _ _ _); ((k_here; (with_reducible show wpAny _ _ (call (Value.builtin "min") [Value.float _ _, Value.float _ _, Value.float _ _]) _ _ _); (refine' minF_call ?zqh1 ?zqh2 ?zqh3 ?_; (case zqh1 => with_unfolding_all rfl); (case zqh2 => k_asm); (case zqh3 => k_asm)); intro h' tk' tok' F' N'; (try k_sweep)))) | ((with_reducible show wpAny _ _ (call (Value.builtin "max") _ _) _ _ _); ((k_here; (with_reducible show wpAny _ _ (call (Value.builtin "max") [Value.float _ _, Value.float _ _, Value.float _ _]) _ _ _); (refine' maxF_call ?zqh1 ?zqh2 ?zqh3 ?_; (case zqh1 => with_unfolding_all rfl); (case zqh2 => k_asm); (case zqh3 => k_asm)); intro h' tk' tok' F' N'; (try k_sweep)))) | ((with_reducible show wpAny _ _ (storeName _ _ _) _ _ _); ((k_here; k_dflt ((refine' store_let ?zqF ?zqN ?_ ?zqa ?zqb; (case zqF => k_asm); (case zqN => k_asm); (case zqa => rfl); (case zqb => rfl); k_whole; intro m' h' tk' F' N'; (try k_sweep)))))) | walk1 | (dsimp only; walk1) | (leave1; (try dsimp only)) | fail "no step")
  unfold Halt
  (with_reducible refine wpAny_execs_cons ?_); (try dsimp only)
  repeat' (first | ((k_unfold); (try dsimp only)) | (k_end; kc_close) | ((with_reducible show wpAny _ _ (execs (_ :: _) _) _ _ _); first | with_reducible ((k_here; (with_reducible show wpAny _ _ (execs (Stmt.If _ _ _ _ :: _) _) _ _ _); refine halt ?_)) | ((k_here; (with_reducible show wpAny _ _ (execs (Stmt.If _ _ _ _ :: _) _) _ _ _); refine halt ?_))) | ((with_reducible show wpAny _ _ (call (Value.builtin "min") _ _) _ _ _); ((k_here; (with_reducible show wpAny _ _ (call (Value.builtin "min") [Value.float _ _, Value.float _ _, Value.float _ _]) _ _ _); (refine' minF_call ?zqh1 ?zqh2 ?zqh3 ?_; (case zqh1 => with_unfolding_all rfl); (case zqh2 => k_asm); (case zqh3 => k_asm)); intro h' tk' tok' F' N'; (try k_sweep)))) | ((with_reducible show wpAny _ _ (call (Value.builtin "max") _ _) _ _ _); ((k_here; (with_reducible show wpAny _ _ (call (Value.builtin "max") [Value.float _ _, Value.float _ _, Value.float _ _]) _ _ _); (refine' maxF_call ?zqh1 ?zqh2 ?zqh3 ?_; (case zqh1 => with_unfolding_all rfl); (case zqh2 => k_asm); (case zqh3 => k_asm)); intro h' tk' tok' F' N'; (try k_sweep)))) | ((with_reducible show wpAny _ _ (storeName _ _ _) _ _ _); ((k_here; k_dflt ((refine' store_let ?zqF ?zqN ?_ ?zqa ?zqb; (case zqF => k_asm); (case zqN => k_asm); (case zqa => rfl); (case zqb => rfl); k_whole; intro m' h' tk' F' N'; (try k_sweep)))))) | walk1 | (dsimp only; walk1) | (leave1; (try dsimp only)) | fail "no step")
  all_goals try first
    | (have q := rh_a (r := r) (g := g) (b := b) (by assumption); rw [q] at hp; cases hp; exact hret _ _ _ _ ⟨_, _, _, _, rfl, rfl, by assumption⟩ (by assumption) (by assumption))
    | (exfalso; have q := rh_n (by assumption) hp; first | exact Bool.noConfusion (q.1.symm.trans (by assumption)) | exact Bool.noConfusion (q.2.1.symm.trans (by assumption)))
  unfold Halt
  obtain ⟨z1, z2, rfl⟩ := rh_n (by assumption) hp
  refine cut_store (Str.ofString "h") news (fun v => ∃ H t, v = .float H t ∧ (Float64.divmod (Float64.div H 4618441417868443648) 4607182418800017408).snd = hueOf real r g b (maxF r g b) (Float64.sub (maxF r g b) (minF r g b))) (by k_asm) ?_ ?_
  · repeat' (first | ((k_unfold); (try dsimp only)) | (k_end; kc_close) | ((with_reducible show wpAny _ _ (execs (_ :: _) _) _ _ _); first | with_reducible ((k_here; (with_reducible show wpAny _ _ (execs (Stmt.If _ _ _ _ :: _) _) _ _ _); refine halt ?_)) | ((k_here; (with_reducible show wpAny _ _ (execs (Stmt.If _ _ _ _ :: _) _) _ _ _); refine halt ?_))) | ((with_reducible show wpAny _ _ (call (Value.builtin "min") _ _) _ _ _); ((k_here; (with_reducible show wpAny _ _ (call (Value.builtin "min") [Value.float _ _, Value.float _ _, Value.float _ _]) _ _ _); (refine' minF_call ?zqh1 ?zqh2 ?zqh3 ?_; (case zqh1 => with_unfolding_all rfl); (case zqh2 => k_asm); (case zqh3 => k_asm)); intro h' tk' tok' F' N'; (try k_sweep)))) | ((with_reducible show wpAny _ _ (call (Value.builtin "max") _ _) _ _ _); ((k_here; (with_reducible show wpAny _ _ (call (Value.builtin "max") [Value.float _ _, Value.float _ _, Value.float _ _]) _ _ _); (refine' maxF_call ?zqh1 ?zqh2 ?zqh3 ?_; (case zqh1 => with_unfolding_all rfl); (case zqh2 => k_asm); (case zqh3 => k_asm)); intro h' tk' tok' F' N'; (try k_sweep)))) | ((with_reducible show wpAny _ _ (storeName _ _ _) _ _ _); ((k_here; k_dflt ((refine' store_let ?zqF ?zqN ?_ ?zqa ?zqb; (case zqF => k_asm); (case zqN => k_asm); (case zqa => rfl); (case zqb => rfl); k_whole; intro m' h' tk' F' N'; (try k_sweep)))))) | walk1 | (dsimp only; walk1) | (leave1; (try dsimp only)) | fail "no step")
    all_goals try (unfold Halt; (with_reducible refine wpAny_execs_cons ?_); (try dsimp only))
    repeat' (first | ((k_unfold); (try dsimp only)) | (k_end; kc_close) | ((with_reducible show wpAny _ _ (execs (_ :: _) _) _ _ _); first | with_reducible ((k_here; (with_reducible show wpAny _ _ (execs (Stmt.If _ _ _ _ :: _) _) _ _ _); refine halt ?_)) | ((k_here; (with_reducible show wpAny _ _ (execs (Stmt.If _ _ _ _ :: _) _) _ _ _); refine halt ?_))) | ((with_reducible show wpAny _ _ (call (Value.builtin "min") _ _) _ _ _); ((k_here; (with_reducible show wpAny _ _ (call (Value.builtin "min") [Value.float _ _, Value.float _ _, Value.float _ _]) _ _ _); (refine' minF_call ?zqh1 ?zqh2 ?zqh3 ?_; (case zqh1 => with_unfolding_all rfl); (case zqh2 => k_asm); (case zqh3 => k_asm)); intro h' tk' tok' F' N'; (try k_sweep)))) | ((with_reducible show wpAny _ _ (call (Value.builtin "max") _ _) _ _ _); ((k_here; (with_reducible show wpAny _ _ (call (Value.builtin "max") [Value.float _ _, Value.float _ _, Value.float _ _]) _ _ _); (refine' maxF_call ?zqh1 ?zqh2 ?zqh3 ?_; (case zqh1 => with_unfolding_all rfl); (case zqh2 => k_asm); (case zqh3 => k_asm)); intro h' tk' tok' F' N'; (try k_sweep)))) | ((with_reducible show wpAny _ _ (storeName _ _ _) _ _ _); ((k_here; k_dflt ((refine' store_let ?zqF ?zqN ?_ ?zqa ?zqb; (case zqF => k_asm); (case zqN => k_asm); (case zqa => rfl); (case zqb => rfl); k_whole; intro m' h' tk' F' N'; (try k_sweep)))))) | walk1 | (dsimp only; walk1) | (leave1; (try dsimp only)) | fail "no step")
    all_goals first
      | (refine' ⟨rfl, _, _, _, rfl, ⟨_, _, rfl, ?w⟩, ?f, ?n⟩; (case f => assumption); (case n => assumption); (case w => first | exact hue_a (by assumption) | exact hue_b (by assumption) (by assumption) | exact hue_c (by assumption) (by assumption)))
      | (exfalso; first | exact Bool.noConfusion (z1.symm.trans (by assumption : _ = true)) | exact Bool.noConfusion (z2.symm.trans (by assumption : _ = true)))
  intro v hv; obtain ⟨H, t, rfl, hH⟩ := hv; intro m' h' tk' F' N'
  repeat' (first | ((k_unfold); (try dsimp only)) | (k_end; kc_close) | ((with_reducible show wpAny _ _ (execs (_ :: _) _) _ _ _); first | with_reducible ((k_here; (with_reducible show wpAny _ _ (execs (Stmt.If _ _ _ _ :: _) _) _ _ _); refine halt ?_)) | ((k_here; (with_reducible show wpAny _ _ (execs (Stmt.If _ _ _ _ :: _) _) _ _ _); refine halt ?_))) | ((with_reducible show wpAny _ _ (call (Value.builtin "min") _ _) _ _ _); ((k_here; (with_reducible show wpAny _ _ (call (Value.builtin "min") [Value.float _ _, Value.float _ _, Value.float _ _]) _ _ _); (refine' minF_call ?zqh1 ?zqh2 ?zqh3 ?_; (case zqh1 => with_unfolding_all rfl); (case zqh2 => k_asm); (case zqh3 => k_asm)); intro h' tk' tok' F' N'; (try k_sweep)))) | ((with_reducible show wpAny _ _ (call (Value.builtin "max") _ _) _ _ _); ((k_here; (with_reducible show wpAny _ _ (call (Value.builtin "max") [Value.float _ _, Value.float _ _, Value.float _ _]) _ _ _); (refine' maxF_call ?zqh1 ?zqh2 ?zqh3 ?_; (case zqh1 => with_unfolding_all rfl); (case zqh2 => k_asm); (case zqh3 => k_asm)); intro h' tk' tok' F' N'; (try k_sweep)))) | ((with_reducible show wpAny _ _ (storeName _ _ _) _ _ _); ((k_here; k_dflt ((refine' store_let ?zqF ?zqN ?_ ?zqa ?zqb; (case zqF => k_asm); (case zqN => k_asm); (case zqa => rfl); (case zqb => rfl); k_whole; intro m' h' tk' F' N'; (try k_sweep)))))) | walk1 | (dsimp only; walk1) | (leave1; (try dsimp only)) | fail "no step")
  exact hret _ _ _ _ ⟨_, _, _, _, rfl, by rw [← hH], by assumption⟩ (by assumption) (by assumption)
theorem rl_a {r g b : UInt64} (e : (Float64.cmp (minF r g b) (maxF r g b) == some Ordering.eq) = true) : rgbHls real r g b = some (0, Float64.div (Float64.add (maxF r g b) (minF r g b)) 4611686018427387904, 0) := by
  unfold rgbHls eqF; rw [if_pos e]; rfl
noncomputable abbrev lOf (r g b : UInt64) : UInt64 := Float64.div (Float64.add (maxF r g b) (minF r g b)) 4611686018427387904
theorem rl_n {r g b : UInt64} {x : F3} (e : (Float64.cmp (minF r g b) (maxF r g b) == some Ordering.eq) = false) (hp : rgbHls real r g b = some x) :
    Float64.isZero (if leF (lOf r g b) 4602678819172646912 then Float64.add (maxF r g b) (minF r g b) else Float64.sub (Float64.sub 4611686018427387904 (maxF r g b)) (minF r g b)) = false ∧ Float64.isZero (Float64.sub (maxF r g b) (minF r g b)) = false ∧
    x = (hueOf real r g b (maxF r g b) (Float64.sub (maxF r g b) (minF r g b)), lOf r g b, Float64.div (Float64.sub (maxF r g b) (minF r g b)) (if leF (lOf r g b) 4602678819172646912 then Float64.add (maxF r g b) (minF r g b) else Float64.sub (Float64.sub 4611686018427387904 (maxF r g b)) (minF r g b))) := by
  have d : rgbHls real r g b = if (Float64.cmp (minF r g b) (maxF r g b) == some Ordering.eq) = true then some (0, lOf r g b, 0) else
      if Float64.isZero (if leF (lOf r g b) 4602678819172646912 then Float64.add (maxF r g b) (minF r g b) else Float64.sub (Float64.sub 4611686018427387904 (maxF r g b)) (minF r g b)) = true then none else
      if Float64.isZero (Float64.sub (maxF r g b) (minF r g b)) = true then none else
      some (hueOf real r g b (maxF r g b) (Float64.sub (maxF r g b) (minF r g b)), lOf r g b, Float64.div (Float64.sub (maxF r g b) (minF r g b)) (if leF (lOf r g b) 4602678819172646912 then Float64.add (maxF r g b) (minF r g b) else Float64.sub (Float64.sub 4611686018427387904 (maxF r g b)) (minF r g b))) := rfl
  rw [d, if_neg (by rw [e]; decide)] at hp
  by_cases h1 : Float64.isZero (if leF (lOf r g b) 4602678819172646912 then Float64.add (maxF r g b) (minF r g b) else Float64.sub (Float64.sub 4611686018427387904 (maxF r g b)) (minF r g b)) = true
  · rw [if_pos h1] at hp; cases hp
  · rw [if_neg h1] at hp
    by_cases h2 : Float64.isZero (Float64.sub (maxF r g b) (minF r g b)) = true
    · rw [if_pos h2] at hp; cases hp
    · rw [if_neg h2] at hp
      cases hp
      exact ⟨(Bool.not_eq_true _).mp h1, (Bool.not_eq_true _).mp h2, rfl⟩
theorem rl_t {r g b : UInt64} {x : F3} (e : (Float64.cmp (minF r g b) (maxF r g b) == some Ordering.eq) = false)
    (l : (Float64.cmp (lOf r g b) 4602678819172646912 == some Ordering.lt || Float64.cmp (lOf r g b) 4602678819172646912 == some Ordering.eq) = true) (hp : rgbHls real r g b = some x) :
    Float64.isZero (Float64.add (maxF r g b) (minF r g b)) = false ∧ Float64.isZero (Float64.sub (maxF r g b) (minF r g b)) = false ∧
    x = (hueOf real r g b (maxF r g b) (Float64.sub (maxF r g b) (minF r g b)), lOf r g b, Float64.div (Float64.sub (maxF r g b) (minF r g b)) (Float64.add (maxF r g b) (minF r g b))) := by
  have q := rl_n e hp
  unfold leF at q
  simp only [if_pos l] at q
  exact q
theorem rl_f {r g b : UInt64} {x : F3} (e : (Float64.cmp (minF r g b) (maxF r g b) == some Ordering.eq) = false)
    (l : (Float64.cmp (lOf r g b) 4602678819172646912 == some Ordering.lt || Float64.cmp (lOf r g b) 4602678819172646912 == some Ordering.eq) = false) (hp : rgbHls real r g b = some x) :
    Float64.isZero (Float64.sub (Float64.sub 4611686018427387904 (maxF r g b)) (minF r g b)) = false ∧ Float64.isZero (Float64.sub (maxF r g b) (minF r g b)) = false ∧
    x = (hueOf real r g b (maxF r g b) (Float64.sub (maxF r g b) (minF r g b)), lOf r g b, Float64.div (Float64.sub (maxF r g b) (minF r g b)) (Float64.sub (Float64.sub 4611686018427387904 (maxF r g b)) (minF r g b))) := by
  have q := rl_n e hp
  unfold leF at q
  simp only [l, Bool.false_eq_true, if_false] at q
  exact q
theorem rgb_to_hls (r g b : UInt64) (t1 t2 t3 : Tok) (x : F3) (hp : rgbHls real r g b = some x) :
    Ctr w mean mg mb 52 [.float r t1, .float g t2, .float b t3] news 1 8 (Ret3 news x) := by
  intro dp un gd cn cs a ccd cl outer A₀ base h₀ L m s Q E B F X N T hk hd hu hret
  refine wpAny_call ?_
  k_dflt ktr_enter
  (rename Fr _ _ _ _ => lF9); refine map_let lF9 ?_; clear lF9; intro m9 lF9; refine frame_let ?_; intro A9 env9
  repeat' (first | ((k_unfold); (try dsimp only)) | (k_end; kc_close) | ((with_reducible show wpAny _ _ (execs (_ :: _) _) _ _ _); first | with_reducible ((k_here; (with_reducible show wpAny _ _ (execs (Stmt.If _ _ _ _ :: _) _) _ _ _); refine halt ?_)) | ((k_here; (with_reducible show wpAny _ _ (execs (Stmt.If _ _ _ _ :: _) _) _ _ _); refine halt ?_))) | ((with_reducible show wpAny _ _ (call (Value.builtin "min") _ _) _ _ _); ((k_here; (with_reducible show wpAny _ _ (call (Value.builtin "min") [Value.float _ _, Value.float _ _, Value.float _ _]) _ _ _); (refine' minF_call ?zqh1 ?zqh2 ?zqh3 ?_; (case zqh1 => with_unfolding_all rfl); (case zqh2 => k_asm); (case zqh3 => k_asm)); intro h' tk' tok' F' N'; (try k_sweep)))) | ((with_reducible show wpAny _ _ (call (Value.builtin "max") _ _) _ _ _); ((k_here; (with_reducible show wpAny _ _ (call (Value.builtin "max") [Value.float _ _, Value.float _ _, Value.float _ _]) _ _ _); (refine' maxF_call ?zqh1 ?zqh2 ?zqh3 ?_; (case zqh1 => with_unfolding_all rfl); (case zqh2 => k_asm); (case zqh3 => k_asm)); intro h' tk' tok' F' N'; (try k_sweep)))) | ((with_reducible show wpAny _ _ (storeName _ _ _) _ _ _); ((k_here; k_dflt ((refine' store_let ?zqF ?zqN ?_ ?zqa ?zqb; (case zqF => k_asm); (case zqN => k_asm); (case zqa => rfl); (case zqb => rfl); k_whole; intro m' h' tk' F' N'; (try k_sweep)))))) | walk1 | (dsimp only; walk1) | (leave1; (try dsimp only)) | fail "no step")
  unfold Halt
  (with_reducible refine wpAny_execs_cons ?_); (try dsimp only)
  repeat' (first | ((k_unfold); (try dsimp only)) | (k_end; kc_close) | ((with_reducible show wpAny _ _ (execs (_ :: _) _) _ _ _); first | with_reducible ((k_here; (with_reducible show wpAny _ _ (execs (Stmt.If _ _ _ _ :: _) _) _ _ _); refine halt ?_)) | ((k_here; (with_reducible show wpAny _ _ (execs (Stmt.If _ _ _ _ :: _) _) _ _ _); refine halt ?_))) | ((with_reducible show wpAny _ _ (call (Value.builtin "min") _ _) _ _ _); ((k_here; (with_reducible show wpAny _ _ (call (Value.builtin "min") [Value.float _ _, Value.float _ _, Value.float _ _]) _ _ _); (refine' minF_call ?zqh1 ?zqh2 ?zqh3 ?_; (case zqh1 => with_unfolding_all rfl); (case zqh2 => k_asm); (case zqh3 => k_asm)); intro h' tk' tok' F' N'; (try k_sweep)))) | ((with_reducible show wpAny _ _ (call (Value.builtin "max") _ _) _ _ _); ((k_here; (with_reducible show wpAny _ _ (call (Value.builtin "max") [Value.float _ _, Value.float _ _, Value.float _ _]) _ _ _); (refine' maxF_call ?zqh1 ?zqh2 ?zqh3 ?_; (case zqh1 => with_unfolding_all rfl); (case zqh2 => k_asm); (case zqh3 => k_asm)); intro h' tk' tok' F' N'; (try k_sweep)))) | ((with_reducible show wpAny _ _ (storeName _ _ _) _ _ _); ((k_here; k_dflt ((refine' store_let ?zqF ?zqN ?_ ?zqa ?zqb; (case zqF => k_asm); (case zqN => k_asm); (case zqa => rfl); (case zqb => rfl); k_whole; intro m' h' tk' F' N'; (try k_sweep)))))) | walk1 | (dsimp only; walk1) | (leave1; (try dsimp only)) | fail "no step")
  all_goals try first
    | (have q := rl_a (r := r) (g := g) (b := b) (by assumption); rw [q] at hp; cases hp; exact hret _ _ _ _ ⟨_, _, _, _, rfl, rfl, by assumption⟩ (by assumption) (by assumption))
  unfold Halt
  obtain ⟨x1, x2, x3⟩ := x
  obtain ⟨_, z2, e9⟩ := rl_n (by assumption) hp
  have e1 := congrArg Prod.fst e9
  have e2 := congrArg (fun y : F3 => y.2.1) e9
  dsimp only at e1 e2
  refine cut_store (Str.ofString "s") news (fun v => ∃ t, v = .float x3 t) (by k_asm) ?_ ?_
  · repeat' (first | ((k_unfold); (try dsimp only)) | (k_end; kc_close) | ((with_reducible show wpAny _ _ (execs (_ :: _) _) _ _ _); first | with_reducible ((k_here; (with_reducible show wpAny _ _ (execs (Stmt.If _ _ _ _ :: _) _) _ _ _); refine halt ?_)) | ((k_here; (with_reducible show wpAny _ _ (execs (Stmt.If _ _ _ _ :: _) _) _ _ _); refine halt ?_))) | ((with_reducible show wpAny _ _ (call (Value.builtin "min") _ _) _ _ _); ((k_here; (with_reducible show wpAny _ _ (call (Value.builtin "min") [Value.float _ _, Value.float _ _, Value.float _ _]) _ _ _); (refine' minF_call ?zqh1 ?zqh2 ?zqh3 ?_; (case zqh1 => with_unfolding_all rfl); (case zqh2 => k_asm); (case zqh3 => k_asm)); intro h' tk' tok' F' N'; (try k_sweep)))) | ((with_reducible show wpAny _ _ (call (Value.builtin "max") _ _) _ _ _); ((k_here; (with_reducible show wpAny _ _ (call (Value.builtin "max") [Value.float _ _, Value.float _ _, Value.float _ _]) _ _ _); (refine' maxF_call ?zqh1 ?zqh2 ?zqh3 ?_; (case zqh1 => with_unfolding_all rfl); (case zqh2 => k_asm); (case zqh3 => k_asm)); intro h' tk' tok' F' N'; (try k_sweep)))) | ((with_reducible show wpAny _ _ (storeName _ _ _) _ _ _); ((k_here; k_dflt ((refine' store_let ?zqF ?zqN ?_ ?zqa ?zqb; (case zqF => k_asm); (case zqN => k_asm); (case zqa => rfl); (case zqb => rfl); k_whole; intro m' h' tk' F' N'; (try k_sweep)))))) | walk1 | (dsimp only; walk1) | (leave1; (try dsimp only)) | fail "no step")
    all_goals first
      | (exfalso; first | exact Bool.noConfusion ((rl_t (by assumption) (by assumption) hp).1.symm.trans (by assumption : _ = true)) | exact Bool.noConfusion ((rl_f (by assumption) (by assumption) hp).1.symm.trans (by assumption : _ = true)))
      | (refine' ⟨rfl, _, _, _, rfl, ⟨_, ?w⟩, ?f, ?n⟩; (case f => assumption); (case n => assumption); (case w => first | exact congrArg (fun y : F3 => Value.float y.2.2 _) (rl_t (by assumption) (by assumption) hp).2.2.symm | exact congrArg (fun y : F3 => Value.float y.2.2 _) (rl_f (by assumption) (by assumption) hp).2.2.symm))
  intro v hv; obtain ⟨t, rfl⟩ := hv; intro m' h' tk' F' N'
  repeat' (first | ((k_unfold); (try dsimp only)) | (k_end; kc_close) | ((with_reducible show wpAny _ _ (execs (_ :: _) _) _ _ _); first | with_reducible ((k_here; (with_reducible show wpAny _ _ (execs (Stmt.If _ _ _ _ :: _) _) _ _ _); refine halt ?_)) | ((k_here; (with_reducible show wpAny _ _ (execs (Stmt.If _ _ _ _ :: _) _) _ _ _); refine halt ?_))) | ((with_reducible show wpAny _ _ (call (Value.builtin "min") _ _) _ _ _); ((k_here; (with_reducible show wpAny _ _ (call (Value.builtin "min") [Value.float _ _, Value.float _ _, Value.float _ _]) _ _ _); (refine' minF_call ?zqh1 ?zqh2 ?zqh3 ?_; (case zqh1 => with_unfolding_all rfl); (case zqh2 => k_asm); (case zqh3 => k_asm)); intro h' tk' tok' F' N'; (try k_sweep)))) | ((with_reducible show wpAny _ _ (call (Value.builtin "max") _ _) _ _ _); ((k_here; (with_reducible show wpAny _ _ (call (Value.builtin "max") [Value.float _ _, Value.float _ _, Value.float _ _]) _ _ _); (refine' maxF_call ?zqh1 ?zqh2 ?zqh3 ?_; (case zqh1 => with_unfolding_all rfl); (case zqh2 => k_asm); (case zqh3 => k_asm)); intro h' tk' tok' F' N'; (try k_sweep)))) | ((with_reducible show wpAny _ _ (storeName _ _ _) _ _ _); ((k_here; k_dflt ((refine' store_let ?zqF ?zqN ?_ ?zqa ?zqb; (case zqF => k_asm); (case zqN => k_asm); (case zqa => rfl); (case zqb => rfl); k_whole; intro m' h' tk' F' N'; (try k_sweep)))))) | walk1 | (dsimp only; walk1) | (leave1; (try dsimp only)) | fail "no step")
  all_goals try first
    | (exfalso; exact Bool.noConfusion (z2.symm.trans (by assumption : _ = true)))
  unfold Halt
  refine cut_store (Str.ofString "h") news (fun v => ∃ H t, v = .float H t ∧ (Float64.divmod (Float64.div H 4618441417868443648) 4607182418800017408).snd = hueOf real r g b (maxF r g b) (Float64.sub (maxF r g b) (minF r g b))) (by k_asm) ?_ ?_
  · repeat' (first | ((k_unfold); (try dsimp only)) | (k_end; kc_close) | ((with_reducible show wpAny _ _ (execs (_ :: _) _) _ _ _); first | with_reducible ((k_here; (with_reducible show wpAny _ _ (execs (Stmt.If _ _ _ _ :: _) _) _ _ _); refine halt ?_)) | ((k_here; (with_reducible show wpAny _ _ (execs (Stmt.If _ _ _ _ :: _) _) _ _ _); refine halt ?_))) | ((with_reducible show wpAny _ _ (call (Value.builtin "min") _ _) _ _ _); ((k_here; (with_reducible show wpAny _ _ (call (Value.builtin "min") [Value.float _ _, Value.float _ _, Value.float _ _]) _ _ _); (refine' minF_call ?zqh1 ?zqh2 ?zqh3 ?_; (case zqh1 => with_unfolding_all rfl); (case zqh2 => k_asm); (case zqh3 => k_asm)); intro h' tk' tok' F' N'; (try k_sweep)))) | ((with_reducible show wpAny _ _ (call (Value.builtin "max") _ _) _ _ _); ((k_here; (with_reducible show wpAny _ _ (call (Value.builtin "max") [Value.float _ _, Value.float _ _, Value.float _ _]) _ _ _); (refine' maxF_call ?zqh1 ?zqh2 ?zqh3 ?_; (case zqh1 => with_unfolding_all rfl); (case zqh2 => k_asm); (case zqh3 => k_asm)); intro h' tk' tok' F' N'; (try k_sweep)))) | ((with_reducible show wpAny _ _ (storeName _ _ _) _ _ _); ((k_here; k_dflt ((refine' store_let ?zqF ?zqN ?_ ?zqa ?zqb; (case zqF => k_asm); (case zqN => k_asm); (case zqa => rfl); (case zqb => rfl); k_whole; intro m' h' tk' F' N'; (try k_sweep)))))) | walk1 | (dsimp only; walk1) | (leave1; (try dsimp only)) | fail "no step")
    all_goals try (unfold Halt; (with_reducible refine wpAny_execs_cons ?_); (try dsimp only))
    repeat' (first | ((k_unfold); (try dsimp only)) | (k_end; kc_close) | ((with_reducible show wpAny _ _ (execs (_ :: _) _) _ _ _); first | with_reducible ((k_here; (with_reducible show wpAny _ _ (execs (Stmt.If _ _ _ _ :: _) _) _ _ _); refine halt ?_)) | ((k_here; (with_reducible show wpAny _ _ (execs (Stmt.If _ _ _ _ :: _) _) _ _ _); refine halt ?_))) | ((with_reducible show wpAny _ _ (call (Value.builtin "min") _ _) _ _ _); ((k_here; (with_reducible show wpAny _ _ (call (Value.builtin "min") [Value.float _ _, Value.float _ _, Value.float _ _]) _ _ _); (refine' minF_call ?zqh1 ?zqh2 ?zqh3 ?_; (case zqh1 => with_unfolding_all rfl); (case zqh2 => k_asm); (case zqh3 => k_asm)); intro h' tk' tok' F' N'; (try k_sweep)))) | ((with_reducible show wpAny _ _ (call (Value.builtin "max") _ _) _ _ _); ((k_here; (with_reducible show wpAny _ _ (call (Value.builtin "max") [Value.float _ _, Value.float _ _, Value.float _ _]) _ _ _); (refine' maxF_call ?zqh1 ?zqh2 ?zqh3 ?_; (case zqh1 => with_unfolding_all rfl); (case zqh2 => k_asm); (case zqh3 => k_asm)); intro h' tk' tok' F' N'; (try k_sweep)))) | ((with_reducible show wpAny _ _ (storeName _ _ _) _ _ _); ((k_here; k_dflt ((refine' store_let ?zqF ?zqN ?_ ?zqa ?zqb; (case zqF => k_asm); (case zqN => k_asm); (case zqa => rfl); (case zqb => rfl); k_whole; intro m' h' tk' F' N'; (try k_sweep)))))) | walk1 | (dsimp only; walk1) | (leave1; (try dsimp only)) | fail "no step")
    all_goals first
      | (refine' ⟨rfl, _, _, _, rfl, ⟨_, _, rfl, ?w⟩, ?f, ?n⟩; (case f => assumption); (case n => assumption); (case w => first | exact hue_a (by assumption) | exact hue_b (by assumption) (by assumption) | exact hue_c (by assumption) (by assumption)))
      | (exfalso; exact Bool.noConfusion (z2.symm.trans (by assumption : _ = true)))
  intro v hv; obtain ⟨H, t, rfl, hH⟩ := hv; intro m' h' tk' F' N'
  repeat' (first | ((k_unfold); (try dsimp only)) | (k_end; kc_close) | ((with_reducible show wpAny _ _ (execs (_ :: _) _) _ _ _); first | with_reducible ((k_here; (with_reducible show wpAny _ _ (execs (Stmt.If _ _ _ _ :: _) _) _ _ _); refine halt ?_)) | ((k_here; (with_reducible show wpAny _ _ (execs (Stmt.If _ _ _ _ :: _) _) _ _ _); refine halt ?_))) | ((with_reducible show wpAny _ _ (call (Value.builtin "min") _ _) _ _ _); ((k_here; (with_reducible show wpAny _ _ (call (Value.builtin "min") [Value.float _ _, Value.float _ _, Value.float _ _]) _ _ _); (refine' minF_call ?zqh1 ?zqh2 ?zqh3 ?_; (case zqh1 => with_unfolding_all rfl); (case zqh2 => k_asm); (case zqh3 => k_asm)); intro h' tk' tok' F' N'; (try k_sweep)))) | ((with_reducible show wpAny _ _ (call (Value.builtin "max") _ _) _ _ _); ((k_here; (with_reducible show wpAny _ _ (call (Value.builtin "max") [Value.float _ _, Value.float _ _, Value.float _ _]) _ _ _); (refine' maxF_call ?zqh1 ?zqh2 ?zqh3 ?_; (case zqh1 => with_unfolding_all rfl); (case zqh2 => k_asm); (case zqh3 => k_asm)); intro h' tk' tok' F' N'; (try k_sweep)))) | ((with_reducible show wpAny _ _ (storeName _ _ _) _ _ _); ((k_here; k_dflt ((refine' store_let ?zqF ?zqN ?_ ?zqa ?zqb; (case zqF => k_asm); (case zqN => k_asm); (case zqa => rfl); (case zqb => rfl); k_whole; intro m' h' tk' F' N'; (try k_sweep)))))) | walk1 | (dsimp only; walk1) | (leave1; (try dsimp only)) | fail "no step")
  exact hret _ _ _ _ ⟨_, _, _, _, rfl, by rw [e1, e2, ← hH], by assumption⟩ (by assumption) (by assumption)
end
end Mine
end PartF1
section PartF2
open PySem PySem.W PyProof.Rows
namespace Mine
theorem offF2 : True := by w_top off; trivial
theorem fmod6_lo (x : Int) : 0 ≤ x.fmod 6 := by rw [Int.fmod_eq_emod_of_nonneg _ (by decide)]; omega
theorem fmod6_hi (x : Int) : x.fmod 6 ≤ 7 := by rw [Int.fmod_eq_emod_of_nonneg _ (by decide)]; omega
section
variable (w : World) (mean : ExcName → Option Value) (mg mb : Str → Option Value) (news : Led)
theorem hls_a {h l s : UInt64} (e : (Float64.cmp s 0 == some Ordering.eq) = true) : hlsRgb real h l s = (l, l, l) := by
  unfold hlsRgb eqF; rw [if_pos e]
noncomputable abbrev hlsWith (m2 h l : UInt64) : F3 := (vF real (Float64.sub (Float64.mul 4611686018427387904 l) m2) m2 (Float64.add h 4599676419421066581), vF real (Float64.sub (Float64.mul 4611686018427387904 l) m2) m2 h, vF real (Float64.sub (Float64.mul 4611686018427387904 l) m2) m2 (Float64.sub h 4599676419421066581))
theorem hls_d (h l s : UInt64) : hlsRgb real h l s = if (Float64.cmp s 0 == some Ordering.eq) = true then (l, l, l) else
    hlsWith (if leF l 4602678819172646912 then Float64.mul l (Float64.add 4607182418800017408 s) else Float64.sub (Float64.add l s) (Float64.mul l s)) h l := rfl
theorem hls_t {h l s : UInt64} (e : (Float64.cmp s 0 == some Ordering.eq) = false) (q : (Float64.cmp l 4602678819172646912 == some Ordering.lt || Float64.cmp l 4602678819172646912 == some Ordering.eq) = true) :
    hlsRgb real h l s = hlsWith (Float64.mul l (Float64.add 4607182418800017408 s)) h l := by
  rw [hls_d, if_neg (by rw [e]; decide)]; unfold leF; rw [if_pos q]
theorem hls_f {h l s : UInt64} (e : (Float64.cmp s 0 == some Ordering.eq) = false) (q : (Float64.cmp l 4602678819172646912 == some Ordering.lt || Float64.cmp l 4602678819172646912 == some Ordering.eq) = false) :
    hlsRgb real h l s = hlsWith (Float64.sub (Float64.add l s) (Float64.mul l s)) h l := by
  rw [hls_d, if_neg (by rw [e]; decide)]; unfold leF; rw [if_neg (by rw [q]; decide)]
theorem hls_to_rgb (h l s : UInt64) (t1 t2 t3 : Tok) :
    Ctr w mean mg mb 59 [.float h t1, .float l t2, .float s t3] news 2 16 (Ret3 news (hlsRgb real h l s)) := by
  intro dp un gd cn cs a ccd cl outer A₀ base h₀ L m s Q E B F X N T hk hd hu hret
  refine wpAny_call ?_
  k_dflt ktr_enter
  (rename Fr _ _ _ _ => lF9); refine map_let lF9 ?_; clear lF9; intro m9 lF9; refine frame_let ?_; intro A9 env9
  repeat' (first | ((k_unfold); (try dsimp only)) | (k_end; kc_close) | ((with_reducible show wpAny _ _ (call (Value.ref _) _ _) _ _ _); ((k_here; (with_reducible show wpAny _ _ (call (Value.ref 52) [Value.float _ _, Value.float _ _, Value.float _ _] _) _ _ _); k_dflt (refine' use_3 (rgb_to_hls _ _ _ _ _ _ _ _ _ _ _ _ ?zqhp) ?zqB ?zqF ?zqX ?zqN ?zqT ?zqhk ?zqhd ?zqhu ?_; (case zqhp => assumption); (case zqB => k_asm); (case zqF => k_asm); (case zqX => k_asm); (case zqN => k_asm); (case zqT => k_asm); (case zqhk => first | exact rfl | assumption); (case zqhd => first | exact room (by assumption) (by decide) | exact room0 (by assumption) (by decide) | ktr_room); (case zqhu => first | exact room (by assumption) (by decide) | exact room0 (by assumption) (by decide) | ktr_units); intro d9 t91 t92 t93 h9 tk9 l9 F9 N9; (try k_lt l9); (try dsimp only); (try k_sweep); (try k_fold))))) | ((with_reducible show wpAny _ _ (call (Value.ref _) _ _) _ _ _); ((k_here; (with_reducible show wpAny _ _ (call (Value.ref 73) [Value.float _ _, Value.float _ _, Value.float _ _] _) _ _ _); k_dflt (refine' use_3 (rgb_to_hsv _ _ _ _ _ _ _ _ _ _ _ _ ?zqhp) ?zqB ?zqF ?zqX ?zqN ?zqT ?zqhk ?zqhd ?zqhu ?_; (case zqhp => assumption); (case zqB => k_asm); (case zqF => k_asm); (case zqX => k_asm); (case zqN => k_asm); (case zqT => k_asm); (case zqhk => first | exact rfl | assumption); (case zqhd => first | exact room (by assumption) (by decide) | exact room0 (by assumption) (by decide) | ktr_room); (case zqhu => first | exact room (by assumption) (by decide) | exact room0 (by assumption) (by decide) | ktr_units); intro d9 t91 t92 t93 h9 tk9 l9 F9 N9; (try k_lt l9); (try dsimp only); (try k_sweep); (try k_fold))))) | ((with_reducible show wpAny _ _ (call (Value.ref _) _ _) _ _ _); ((k_here; (with_reducible show wpAny _ _ (call (Value.ref 80) [Value.float _ _, Value.float _ _, Value.float _ _] _) _ _ _); k_dflt (refine' use_3 (hsv_to_rgb _ _ _ _ _ _ _ _ _ _ _ _ ?zqhp) ?zqB ?zqF ?zqX ?zqN ?zqT ?zqhk ?zqhd ?zqhu ?_; (case zqhp => assumption); (case zqB => k_asm); (case zqF => k_asm); (case zqX => k_asm); (case zqN => k_asm); (case zqT => k_asm); (case zqhk => first | exact rfl | assumption); (case zqhd => first | exact room (by assumption) (by decide) | exact room0 (by assumption) (by decide) | ktr_room); (case zqhu => first | exact room (by assumption) (by decide) | exact room0 (by assumption) (by decide) | ktr_units); intro d9 t91 t92 t93 h9 tk9 l9 F9 N9; (try k_lt l9); (try dsimp only); (try k_sweep); (try k_fold))))) | ((with_reducible show wpAny _ _ (call (Value.ref _) _ _) _ _ _); ((k_here; (with_reducible show wpAny _ _ (call (Value.ref 66) [Value.float _ _, Value.float _ _, Value.float _ _] _) _ _ _); k_dflt (refine' use_val (law_v _ _ _ _ _ _ _ _ _ _ _) ?zqB ?zqF ?zqX ?zqN ?zqT ?zqhk ?zqhd ?zqhu ?_; (case zqB => k_asm); (case zqF => k_asm); (case zqX => k_asm); (case zqN => k_asm); (case zqT => k_asm); (case zqhk => first | exact rfl | assumption); (case zqhd => first | exact room (by assumption) (by decide) | exact room0 (by assumption) (by decide) | ktr_room); (case zqhu => first | exact room (by assumption) (by decide) | exact room0 (by assumption) (by decide) | ktr_units); intro h9 tk9 t9 F9 N9; (try dsimp only); (try k_sweep); (try k_fold))))) | ((with_reducible show wpAny _ _ (call (Value.ref _) _ _) _ _ _); ((k_here; (with_reducible show wpAny _ _ (call (Value.ref 244) [Value.int _ _, Value.str _ _] _) _ _ _); k_dflt (refine' use_val (law_sign _ _ _ _ _ _ _ _ _ ?zqp1 ?zqp2) ?zqB ?zqF ?zqX ?zqN ?zqT ?zqhk ?zqhd ?zqhu ?_; (case zqp1 => first | omega | exact fmod6_lo _ | (simp; done)); (case zqp2 => first | omega | exact fmod6_hi _ | (simp; done)); (case zqB => k_asm); (case zqF => k_asm); (case zqX => k_asm); (case zqN => k_asm); (case zqT => k_asm); (case zqhk => first | exact rfl | assumption); (case zqhd => first | exact room (by assumption) (by decide) | exact room0 (by assumption) (by decide) | ktr_room); (case zqhu => first | exact room (by assumption) (by decide) | exact room0 (by assumption) (by decide) | ktr_units); intro h9 tk9 t9 F9 N9; (try dsimp only); (try k_sweep); (try k_fold))))) | ((with_reducible show wpAny _ _ (storeName _ _ _) _ _ _); ((k_here; k_dflt ((refine' store_let ?zqF ?zqN ?_ ?zqa ?zqb; (case zqF => k_asm); (case zqN => k_asm); (case zqa => rfl); (case zqb => rfl); k_whole; intro m' h' tk' F' N'; (try k_sweep)))))) | walk1 | (dsimp only; walk1) | (leave1; (try dsimp only)) | fail "no step")
  · rename_i s' _ _ _ _ _ _ _ _ _ _ _
    exact hret _ _ _ _ ⟨_, _, _, _, rfl, by rw [hls_a (by assumption)], by assumption⟩ (by assumption) (by assumption)
  · exact hret _ _ _ _ ⟨_, _, _, _, rfl, by rw [hls_t (by assumption) (by assumption)], by assumption⟩ (by assumption) (by assumption)
  · exact hret _ _ _ _ ⟨_, _, _, _, rfl, by rw [hls_f (by assumption) (by assumption)], by assumption⟩ (by assumption) (by assumption)
theorem read_a {hue share level : UInt64} {r : Int} (e : (Float64.cmp level 0 == some Ordering.eq) = true) (hp : readOf real hue share level = some r) : r = 7 := by
  unfold readOf eqF at hp; rw [if_pos e] at hp; cases hp; rfl
theorem read_b {hue share level : UInt64} {r : Int} (e : (Float64.cmp level 0 == some Ordering.eq) = false) (e2 : (Float64.cmp share 4593671619917905920 == some Ordering.lt) = true) (hp : readOf real hue share level = some r) : r = 6 := by
  unfold readOf eqF ltF at hp; rw [if_neg (by rw [e]; decide), if_pos e2] at hp; cases hp; rfl
theorem read_c {hue share level : UInt64} {r : Int} (e : (Float64.cmp level 0 == some Ordering.eq) = false) (e2 : (Float64.cmp share 4593671619917905920 == some Ordering.lt) = false) (hp : readOf real hue share level = some r) :
    Float64.isFinite (Float64.add (Float64.mul hue (Float64.ofInt 6)) 4602678819172646912) = true ∧ r = (Flt.toInt Float64.truncOf (Float64.add (Float64.mul hue (Float64.ofInt 6)) 4602678819172646912)).fmod 6 := by
  have d : readOf real hue share level = if (Float64.cmp level 0 == some Ordering.eq) = true then some 7 else if (Float64.cmp share 4593671619917905920 == some Ordering.lt) = true then some 6 else
    if Float64.isFinite (Float64.add (Float64.mul hue (Float64.ofInt 6)) 4602678819172646912) = true then some ((Flt.toInt Float64.truncOf (Float64.add (Float64.mul hue (Float64.ofInt 6)) 4602678819172646912)).fmod 6) else none := rfl
  rw [d, if_neg (by rw [e]; decide), if_neg (by rw [e2]; decide)] at hp
  by_cases q : Float64.isFinite (Float64.add (Float64.mul hue (Float64.ofInt 6)) 4602678819172646912) = true
  · rw [if_pos q] at hp; cases hp; exact ⟨q, rfl⟩
  · rw [if_neg q] at hp; cases hp
theorem law_read (hue share level : UInt64) (gap : Str) (t1 t2 t3 t4 : Tok) (r : Int) (hp : readOf real hue share level = some r) :
    Ctr w mean mg mb 251 [.float hue t1, .float share t2, .float level t3, .str gap t4] news 2 16 (fun v news' => news' = news ∧ ∃ t, v = .str (signOf r gap) t) := by
  intro dp un gd cn cs a ccd cl outer A₀ base h₀ L m s Q E B F X N T hk hd hu hret
  refine wpAny_call ?_
  k_dflt ktr_enter
  (rename Fr _ _ _ _ => lF9); refine map_let lF9 ?_; clear lF9; intro m9 lF9; refine frame_let ?_; intro A9 env9
  repeat' (first | ((k_unfold); (try dsimp only)) | (k_end; kc_close) | ((with_reducible show wpAny _ _ (call (Value.ref _) _ _) _ _ _); ((k_here; (with_reducible show wpAny _ _ (call (Value.ref 52) [Value.float _ _, Value.float _ _, Value.float _ _] _) _ _ _); k_dflt (refine' use_3 (rgb_to_hls _ _ _ _ _ _ _ _ _ _ _ _ ?zqhp) ?zqB ?zqF ?zqX ?zqN ?zqT ?zqhk ?zqhd ?zqhu ?_; (case zqhp => assumption); (case zqB => k_asm); (case zqF => k_asm); (case zqX => k_asm); (case zqN => k_asm); (case zqT => k_asm); (case zqhk => first | exact rfl | assumption); (case zqhd => first | exact room (by assumption) (by decide) | exact room0 (by assumption) (by decide) | ktr_room); (case zqhu => first | exact room (by assumption) (by decide) | exact room0 (by assumption) (by decide) | ktr_units); intro d9 t91 t92 t93 h9 tk9 l9 F9 N9; (try k_lt l9); (try dsimp only); (try k_sweep); (try k_fold))))) | ((with_reducible show wpAny _ _ (call (Value.ref _) _ _) _ _ _); ((k_here; (with_reducible show wpAny _ _ (call (Value.ref 73) [Value.float _ _, Value.float _ _, Value.float _ _] _) _ _ _); k_dflt (refine' use_3 (rgb_to_hsv _ _ _ _ _ _ _ _ _ _ _ _ ?zqhp) ?zqB ?zqF ?zqX ?zqN ?zqT ?zqhk ?zqhd ?zqhu ?_; (case zqhp => assumption); (case zqB => k_asm); (case zqF => k_asm); (case zqX => k_asm); (case zqN => k_asm); (case zqT => k_asm); (case zqhk => first | exact rfl | assumption); (case zqhd => first | exact room (by assumption) (by decide) | exact room0 (by assumption) (by decide) | ktr_room); (case zqhu => first | exact room (by assumption) (by decide) | exact room0 (by assumption) (by decide) | ktr_units); intro d9 t91 t92 t93 h9 tk9 l9 F9 N9; (try k_lt l9); (try dsimp only); (try k_sweep); (try k_fold))))) | ((with_reducible show wpAny _ _ (call (Value.ref _) _ _) _ _ _); ((k_here; (with_reducible show wpAny _ _ (call (Value.ref 80) [Value.float _ _, Value.float _ _, Value.float _ _] _) _ _ _); k_dflt (refine' use_3 (hsv_to_rgb _ _ _ _ _ _ _ _ _ _ _ _ ?zqhp) ?zqB ?zqF ?zqX ?zqN ?zqT ?zqhk ?zqhd ?zqhu ?_; (case zqhp => assumption); (case zqB => k_asm); (case zqF => k_asm); (case zqX => k_asm); (case zqN => k_asm); (case zqT => k_asm); (case zqhk => first | exact rfl | assumption); (case zqhd => first | exact room (by assumption) (by decide) | exact room0 (by assumption) (by decide) | ktr_room); (case zqhu => first | exact room (by assumption) (by decide) | exact room0 (by assumption) (by decide) | ktr_units); intro d9 t91 t92 t93 h9 tk9 l9 F9 N9; (try k_lt l9); (try dsimp only); (try k_sweep); (try k_fold))))) | ((with_reducible show wpAny _ _ (call (Value.ref _) _ _) _ _ _); ((k_here; (with_reducible show wpAny _ _ (call (Value.ref 66) [Value.float _ _, Value.float _ _, Value.float _ _] _) _ _ _); k_dflt (refine' use_val (law_v _ _ _ _ _ _ _ _ _ _ _) ?zqB ?zqF ?zqX ?zqN ?zqT ?zqhk ?zqhd ?zqhu ?_; (case zqB => k_asm); (case zqF => k_asm); (case zqX => k_asm); (case zqN => k_asm); (case zqT => k_asm); (case zqhk => first | exact rfl | assumption); (case zqhd => first | exact room (by assumption) (by decide) | exact room0 (by assumption) (by decide) | ktr_room); (case zqhu => first | exact room (by assumption) (by decide) | exact room0 (by assumption) (by decide) | ktr_units); intro h9 tk9 t9 F9 N9; (try dsimp only); (try k_sweep); (try k_fold))))) | ((with_reducible show wpAny _ _ (call (Value.ref _) _ _) _ _ _); ((k_here; (with_reducible show wpAny _ _ (call (Value.ref 244) [Value.int _ _, Value.str _ _] _) _ _ _); k_dflt (refine' use_val (law_sign _ _ _ _ _ _ _ _ _ ?zqp1 ?zqp2) ?zqB ?zqF ?zqX ?zqN ?zqT ?zqhk ?zqhd ?zqhu ?_; (case zqp1 => first | omega | exact fmod6_lo _ | (simp; done)); (case zqp2 => first | omega | exact fmod6_hi _ | (simp; done)); (case zqB => k_asm); (case zqF => k_asm); (case zqX => k_asm); (case zqN => k_asm); (case zqT => k_asm); (case zqhk => first | exact rfl | assumption); (case zqhd => first | exact room (by assumption) (by decide) | exact room0 (by assumption) (by decide) | ktr_room); (case zqhu => first | exact room (by assumption) (by decide) | exact room0 (by assumption) (by decide) | ktr_units); intro h9 tk9 t9 F9 N9; (try dsimp only); (try k_sweep); (try k_fold))))) | ((with_reducible show wpAny _ _ (storeName _ _ _) _ _ _); ((k_here; k_dflt ((refine' store_let ?zqF ?zqN ?_ ?zqa ?zqb; (case zqF => k_asm); (case zqN => k_asm); (case zqa => rfl); (case zqb => rfl); k_whole; intro m' h' tk' F' N'; (try k_sweep)))))) | walk1 | (dsimp only; walk1) | (leave1; (try dsimp only)) | fail "no step")
  all_goals first
    | (obtain rfl := read_a (by assumption) hp; exact hret _ _ _ _ ⟨rfl, _, rfl⟩ (by assumption) (by assumption))
    | (obtain rfl := read_b (by assumption) (by assumption) hp; exact hret _ _ _ _ ⟨rfl, _, rfl⟩ (by assumption) (by assumption))
    | (exfalso; have q := read_c (by assumption) (by assumption) hp; first | exact nan_fin (by assumption) q.1 | exact inf_fin (by assumption) q.1)
    | (obtain ⟨_, rfl⟩ := read_c (by assumption) (by assumption) hp; exact hret _ _ _ _ ⟨rfl, _, rfl⟩ (by assumption) (by assumption))
end
end Mine
end PartF2
section PartF3
open PySem PySem.W PyProof.Rows
namespace Mine
theorem offF3 : True := by w_top off; trivial
theorem val_pos {c : Prop} [Decidable c] {x y : UInt64} {t : Tok} (h : c) : Value.float x t = Value.float (if c then x else y) t := by rw [if_pos h]
theorem val_neg {c : Prop} [Decidable c] {x y : UInt64} {t : Tok} (h : ¬c) : Value.float y t = Value.float (if c then x else y) t := by rw [if_neg h]
theorem hls_at (w : World) (mean : ExcName → Option Value) (mg mb : Str → Option Value) (news : Led) (h l s : UInt64) (t1 t2 t3 : Tok) (r : F3) (hp : hlsRgb real h l s = r) :
    Ctr w mean mg mb 59 [.float h t1, .float l t2, .float s t3] news 2 16 (Ret3 news r) := hp ▸ hls_to_rgb w mean mg mb news h l s t1 t2 t3
theorem item_f3 {prog : Program} {w : World} {A : Around} {E : Value → Shared → Prop} {s : Shared} {value slice : Expr} {l : Addr} {x y z : UInt64} {t1 t2 t3 : Tok} {k : Int} {u : Tok} {Q : Value → Shared → Prop}
    (hl : s.heap.IsList l [Value.float x t1, .float y t2, .float z t3].toArray) (h0 : 0 ≤ k) (h3 : k < 3) (h : ∀ t, Q (.float (if k = 0 then x else if k = 1 then y else z) t) s)
    (hs : subscripted slice false (.ref l) (.int k u) = operate [.ref l, .int k u] (getItem (.ref l) (.int k u)) := by with_unfolding_all rfl) :
    wpAny (model prog w) A (subscriptTail value slice (.ref l) (.int k u)) Q E s := by
  have hk : ∃ t, ([Value.float x t1, .float y t2, .float z t3].toArray)[k.toNat]? = some (.float (if k = 0 then x else if k = 1 then y else z) t) := by
    have : k = 0 ∨ k = 1 ∨ k = 2 := by omega
    rcases this with rfl | rfl | rfl
    · exact ⟨t1, rfl⟩
    · exact ⟨t2, rfl⟩
    · exact ⟨t3, rfl⟩
  obtain ⟨t, hk⟩ := hk
  exact tail_any hl.typeIs slot_list_getitem.lookup (wpAny_getItem_list hl h0 (by omega) hk (h t)) hs
theorem fmod3_lo (x : Int) : 0 ≤ x.fmod 3 := by rw [Int.fmod_eq_emod_of_nonneg _ (by decide)]; omega
theorem fmod3_hi (x : Int) : x.fmod 3 < 3 := by rw [Int.fmod_eq_emod_of_nonneg _ (by decide)]; omega
section
variable (w : World) (mean : ExcName → Option Value) (mg mb : Str → Option Value) (news : Led)
theorem pat_facts {kind part turn : Int} {r : Int} (h : patOf real kind part turn = some r) : ∃ a b c d, hsvRgb real (Float64.div (Float64.ofInt kind) 4618441417868443648) (if kind = 6 then 0 else Float64.div 4607182418800017408 (Float64.ofInt (1 + part.fmod 2))) (if kind = 7 then 0 else Float64.div 4607182418800017408 (Float64.ofInt (1 + (part.fdiv 2).fmod 2))) = some a ∧
    rgbHsv real a.1 a.2.1 a.2.2 = some b ∧ hsvRgb real (Float64.add b.1 (Float64.div (Float64.ofInt turn) 4618441417868443648)) b.2.1 b.2.2 = some c ∧ rgbHls real c.1 c.2.1 c.2.2 = some d ∧ readOf real d.1 d.2.2 d.2.1 = some r := by
  unfold patOf at h
  dsimp only at h
  obtain ⟨a, ha, h⟩ := Option.bind_eq_some_iff.mp h
  obtain ⟨b, hb, h⟩ := Option.bind_eq_some_iff.mp h
  obtain ⟨c, hc, h⟩ := Option.bind_eq_some_iff.mp h
  obtain ⟨d, hd, h⟩ := Option.bind_eq_some_iff.mp h
  exact ⟨a, b, c, d, ha, hb, hc, hd, h⟩
theorem fmod_lo2 (x : Int) : 0 ≤ x.fmod 2 ∧ x.fmod 2 < 2 := by rw [Int.fmod_eq_emod_of_nonneg _ (by decide)]; omega


theorem law_pattern (kind part turn : Int) (h1 : 0 ≤ kind) (h2 : kind ≤ 7) (h3 : 0 ≤ part) (h4 : part < 12) (h5 : 0 ≤ turn) (h6 : turn < 6) (t1 t2 t3 t4 : Tok) :
    Ctr w mean mg mb 258 [.int kind t1, .int part t2, .int turn t3] news 4 32 (fun v news' => news' = news ∧ ∃ t, v = .str (signOf (turned kind turn) (Str.ofString "...")) t) := by
  intro dp un gd cn cs a ccd cl outer A₀ base h₀ L m s Q E B F X N T hk hd hu hret
  have q1 := fmod_lo2 part
  have q2 := fmod_lo2 (part.fdiv 2)
  obtain ⟨a1, a2, a3, a4, f1, f2, f3, f4, f5⟩ := pat_facts (pat_ok h1 h2 h3 h5 h6)
  refine wpAny_call ?_
  k_dflt ktr_enter
  (rename Fr _ _ _ _ => lF9); refine map_let lF9 ?_; clear lF9; intro m9 lF9; refine frame_let ?_; intro A9 env9
  repeat' (first | ((k_unfold); (try dsimp only)) | (k_end; kc_close) | ((with_reducible show wpAny _ _ (call (Value.ref _) _ _) _ _ _); ((k_here; (with_reducible show wpAny _ _ (call (Value.ref 59) [Value.float _ _, Value.float _ _, Value.float _ _] _) _ _ _); k_dflt (refine' use_3 (hls_at _ _ _ _ _ _ _ _ _ _ _ _ ?zqhp) ?zqB ?zqF ?zqX ?zqN ?zqT ?zqhk ?zqhd ?zqhu ?_; (case zqhp => with_reducible assumption); (case zqB => k_asm); (case zqF => k_asm); (case zqX => k_asm); (case zqN => k_asm); (case zqT => k_asm); (case zqhk => first | exact rfl | assumption); (case zqhd => first | exact room (by assumption) (by decide) | exact room0 (by assumption) (by decide) | ktr_room); (case zqhu => first | exact room (by assumption) (by decide) | exact room0 (by assumption) (by decide) | ktr_units); intro d9 t91 t92 t93 h9 tk9 l9 F9 N9; (try k_lt l9); (try dsimp only); (try k_sweep); (try k_fold))))) | ((with_reducible show wpAny _ _ (call (Value.ref _) _ _) _ _ _); ((k_here; (with_reducible show wpAny _ _ (call (Value.ref 251) [Value.float _ _, Value.float _ _, Value.float _ _, Value.str _ _] _) _ _ _); k_dflt (refine' use_val (law_read _ _ _ _ _ _ _ _ _ _ _ _ _ _ ?zqhp) ?zqB ?zqF ?zqX ?zqN ?zqT ?zqhk ?zqhd ?zqhu ?_; (case zqhp => with_reducible assumption); (case zqB => k_asm); (case zqF => k_asm); (case zqX => k_asm); (case zqN => k_asm); (case zqT => k_asm); (case zqhk => first | exact rfl | assumption); (case zqhd => first | exact room (by assumption) (by decide) | exact room0 (by assumption) (by decide) | ktr_room); (case zqhu => first | exact room (by assumption) (by decide) | exact room0 (by assumption) (by decide) | ktr_units); intro h9 tk9 t9 F9 N9; (try dsimp only); (try k_sweep); (try k_fold))))) | ((with_reducible show wpAny _ _ (execs (_ :: _) _) _ _ _); first | with_reducible ((k_here; (with_reducible show wpAny _ _ (execs (Stmt.If _ _ _ _ :: _) _) _ _ _); refine halt ?_)) | ((k_here; (with_reducible show wpAny _ _ (execs (Stmt.If _ _ _ _ :: _) _) _ _ _); refine halt ?_))) | ((with_reducible show wpAny _ _ (call (Value.ref _) _ _) _ _ _); ((k_here; (with_reducible show wpAny _ _ (call (Value.ref 52) [Value.float _ _, Value.float _ _, Value.float _ _] _) _ _ _); k_dflt (refine' use_3 (rgb_to_hls _ _ _ _ _ _ _ _ _ _ _ _ ?zqhp) ?zqB ?zqF ?zqX ?zqN ?zqT ?zqhk ?zqhd ?zqhu ?_; (case zqhp => with_reducible assumption); (case zqB => k_asm); (case zqF => k_asm); (case zqX => k_asm); (case zqN => k_asm); (case zqT => k_asm); (case zqhk => first | exact rfl | assumption); (case zqhd => first | exact room (by assumption) (by decide) | exact room0 (by assumption) (by decide) | ktr_room); (case zqhu => first | exact room (by assumption) (by decide) | exact room0 (by assumption) (by decide) | ktr_units); intro d9 t91 t92 t93 h9 tk9 l9 F9 N9; (try k_lt l9); (try dsimp only); (try k_sweep); (try k_fold))))) | ((with_reducible show wpAny _ _ (call (Value.ref _) _ _) _ _ _); ((k_here; (with_reducible show wpAny _ _ (call (Value.ref 73) [Value.float _ _, Value.float _ _, Value.float _ _] _) _ _ _); k_dflt (refine' use_3 (rgb_to_hsv _ _ _ _ _ _ _ _ _ _ _ _ ?zqhp) ?zqB ?zqF ?zqX ?zqN ?zqT ?zqhk ?zqhd ?zqhu ?_; (case zqhp => with_reducible assumption); (case zqB => k_asm); (case zqF => k_asm); (case zqX => k_asm); (case zqN => k_asm); (case zqT => k_asm); (case zqhk => first | exact rfl | assumption); (case zqhd => first | exact room (by assumption) (by decide) | exact room0 (by assumption) (by decide) | ktr_room); (case zqhu => first | exact room (by assumption) (by decide) | exact room0 (by assumption) (by decide) | ktr_units); intro d9 t91 t92 t93 h9 tk9 l9 F9 N9; (try k_lt l9); (try dsimp only); (try k_sweep); (try k_fold))))) | ((with_reducible show wpAny _ _ (call (Value.ref _) _ _) _ _ _); ((k_here; (with_reducible show wpAny _ _ (call (Value.ref 80) [Value.float _ _, Value.float _ _, Value.float _ _] _) _ _ _); k_dflt (refine' use_3 (hsv_to_rgb _ _ _ _ _ _ _ _ _ _ _ _ ?zqhp) ?zqB ?zqF ?zqX ?zqN ?zqT ?zqhk ?zqhd ?zqhu ?_; (case zqhp => with_reducible assumption); (case zqB => k_asm); (case zqF => k_asm); (case zqX => k_asm); (case zqN => k_asm); (case zqT => k_asm); (case zqhk => first | exact rfl | assumption); (case zqhd => first | exact room (by assumption) (by decide) | exact room0 (by assumption) (by decide) | ktr_room); (case zqhu => first | exact room (by assumption) (by decide) | exact room0 (by assumption) (by decide) | ktr_units); intro d9 t91 t92 t93 h9 tk9 l9 F9 N9; (try k_lt l9); (try dsimp only); (try k_sweep); (try k_fold))))) | ((with_reducible show wpAny _ _ (call (Value.ref _) _ _) _ _ _); ((k_here; (with_reducible show wpAny _ _ (call (Value.ref 66) [Value.float _ _, Value.float _ _, Value.float _ _] _) _ _ _); k_dflt (refine' use_val (law_v _ _ _ _ _ _ _ _ _ _ _) ?zqB ?zqF ?zqX ?zqN ?zqT ?zqhk ?zqhd ?zqhu ?_; (case zqB => k_asm); (case zqF => k_asm); (case zqX => k_asm); (case zqN => k_asm); (case zqT => k_asm); (case zqhk => first | exact rfl | assumption); (case zqhd => first | exact room (by assumption) (by decide) | exact room0 (by assumption) (by decide) | ktr_room); (case zqhu => first | exact room (by assumption) (by decide) | exact room0 (by assumption) (by decide) | ktr_units); intro h9 tk9 t9 F9 N9; (try dsimp only); (try k_sweep); (try k_fold))))) | ((with_reducible show wpAny _ _ (call (Value.ref _) _ _) _ _ _); ((k_here; (with_reducible show wpAny _ _ (call (Value.ref 244) [Value.int _ _, Value.str _ _] _) _ _ _); k_dflt (refine' use_val (law_sign _ _ _ _ _ _ _ _ _ ?zqp1 ?zqp2) ?zqB ?zqF ?zqX ?zqN ?zqT ?zqhk ?zqhd ?zqhu ?_; (case zqp1 => first | omega | exact fmod6_lo _ | (simp; done)); (case zqp2 => first | omega | exact fmod6_hi _ | (simp; done)); (case zqB => k_asm); (case zqF => k_asm); (case zqX => k_asm); (case zqN => k_asm); (case zqT => k_asm); (case zqhk => first | exact rfl | assumption); (case zqhd => first | exact room (by assumption) (by decide) | exact room0 (by assumption) (by decide) | ktr_room); (case zqhu => first | exact room (by assumption) (by decide) | exact room0 (by assumption) (by decide) | ktr_units); intro h9 tk9 t9 F9 N9; (try dsimp only); (try k_sweep); (try k_fold))))) | ((with_reducible show wpAny _ _ (subscriptTail _ _ (Value.ref _) _) _ _ _); ((k_here; (with_reducible show wpAny _ _ (subscriptTail _ _ (Value.ref _) (Value.int (Int.fmod _ 3) _)) _ _ _); (with_unfolding_all refine' item_f3 ?zqk1 ?zqk2 ?zqk3 ?_ ?zqk6; (case zqk1 => is_list); (case zqk2 => exact fmod3_lo _); (case zqk3 => exact fmod3_hi _); (case zqk6 => with_unfolding_all rfl); k_whole); intro t9))) | ((with_reducible show wpAny _ _ (storeName _ _ _) _ _ _); ((k_here; k_dflt ((refine' store_let ?zqF ?zqN ?_ ?zqa ?zqb; (case zqF => k_asm); (case zqN => k_asm); (case zqa => rfl); (case zqb => rfl); k_whole; intro m' h' tk' F' N'; (try k_sweep)))))) | walk1 | (dsimp only; walk1) | (leave1; (try dsimp only)) | fail "no step")
  unfold Halt
  refine cut_store (Str.ofString "share") news (fun v => ∃ t, v = .float (if kind = 6 then 0 else Float64.div 4607182418800017408 (Float64.ofInt (1 + part.fmod 2))) t) (by k_asm) ?_ ?_
  · repeat' (first | ((k_unfold); (try dsimp only)) | (k_end; kc_close) | ((with_reducible show wpAny _ _ (call (Value.ref _) _ _) _ _ _); ((k_here; (with_reducible show wpAny _ _ (call (Value.ref 59) [Value.float _ _, Value.float _ _, Value.float _ _] _) _ _ _); k_dflt (refine' use_3 (hls_at _ _ _ _ _ _ _ _ _ _ _ _ ?zqhp) ?zqB ?zqF ?zqX ?zqN ?zqT ?zqhk ?zqhd ?zqhu ?_; (case zqhp => with_reducible assumption); (case zqB => k_asm); (case zqF => k_asm); (case zqX => k_asm); (case zqN => k_asm); (case zqT => k_asm); (case zqhk => first | exact rfl | assumption); (case zqhd => first | exact room (by assumption) (by decide) | exact room0 (by assumption) (by decide) | ktr_room); (case zqhu => first | exact room (by assumption) (by decide) | exact room0 (by assumption) (by decide) | ktr_units); intro d9 t91 t92 t93 h9 tk9 l9 F9 N9; (try k_lt l9); (try dsimp only); (try k_sweep); (try k_fold))))) | ((with_reducible show wpAny _ _ (call (Value.ref _) _ _) _ _ _); ((k_here; (with_reducible show wpAny _ _ (call (Value.ref 251) [Value.float _ _, Value.float _ _, Value.float _ _, Value.str _ _] _) _ _ _); k_dflt (refine' use_val (law_read _ _ _ _ _ _ _ _ _ _ _ _ _ _ ?zqhp) ?zqB ?zqF ?zqX ?zqN ?zqT ?zqhk ?zqhd ?zqhu ?_; (case zqhp => with_reducible assumption); (case zqB => k_asm); (case zqF => k_asm); (case zqX => k_asm); (case zqN => k_asm); (case zqT => k_asm); (case zqhk => first | exact rfl | assumption); (case zqhd => first | exact room (by assumption) (by decide) | exact room0 (by assumption) (by decide) | ktr_room); (case zqhu => first | exact room (by assumption) (by decide) | exact room0 (by assumption) (by decide) | ktr_units); intro h9 tk9 t9 F9 N9; (try dsimp only); (try k_sweep); (try k_fold))))) | ((with_reducible show wpAny _ _ (execs (_ :: _) _) _ _ _); first | with_reducible ((k_here; (with_reducible show wpAny _ _ (execs (Stmt.If _ _ _ _ :: _) _) _ _ _); refine halt ?_)) | ((k_here; (with_reducible show wpAny _ _ (execs (Stmt.If _ _ _ _ :: _) _) _ _ _); refine halt ?_))) | ((with_reducible show wpAny _ _ (call (Value.ref _) _ _) _ _ _); ((k_here; (with_reducible show wpAny _ _ (call (Value.ref 52) [Value.float _ _, Value.float _ _, Value.float _ _] _) _ _ _); k_dflt (refine' use_3 (rgb_to_hls _ _ _ _ _ _ _ _ _ _ _ _ ?zqhp) ?zqB ?zqF ?zqX ?zqN ?zqT ?zqhk ?zqhd ?zqhu ?_; (case zqhp => with_reducible assumption); (case zqB => k_asm); (case zqF => k_asm); (case zqX => k_asm); (case zqN => k_asm); (case zqT => k_asm); (case zqhk => first | exact rfl | assumption); (case zqhd => first | exact room (by assumption) (by decide) | exact room0 (by assumption) (by decide) | ktr_room); (case zqhu => first | exact room (by assumption) (by decide) | exact room0 (by assumption) (by decide) | ktr_units); intro d9 t91 t92 t93 h9 tk9 l9 F9 N9; (try k_lt l9); (try dsimp only); (try k_sweep); (try k_fold))))) | ((with_reducible show wpAny _ _ (call (Value.ref _) _ _) _ _ _); ((k_here; (with_reducible show wpAny _ _ (call (Value.ref 73) [Value.float _ _, Value.float _ _, Value.float _ _] _) _ _ _); k_dflt (refine' use_3 (rgb_to_hsv _ _ _ _ _ _ _ _ _ _ _ _ ?zqhp) ?zqB ?zqF ?zqX ?zqN ?zqT ?zqhk ?zqhd ?zqhu ?_; (case zqhp => with_reducible assumption); (case zqB => k_asm); (case zqF => k_asm); (case zqX => k_asm); (case zqN => k_asm); (case zqT => k_asm); (case zqhk => first | exact rfl | assumption); (case zqhd => first | exact room (by assumption) (by decide) | exact room0 (by assumption) (by decide) | ktr_room); (case zqhu => first | exact room (by assumption) (by decide) | exact room0 (by assumption) (by decide) | ktr_units); intro d9 t91 t92 t93 h9 tk9 l9 F9 N9; (try k_lt l9); (try dsimp only); (try k_sweep); (try k_fold))))) | ((with_reducible show wpAny _ _ (call (Value.ref _) _ _) _ _ _); ((k_here; (with_reducible show wpAny _ _ (call (Value.ref 80) [Value.float _ _, Value.float _ _, Value.float _ _] _) _ _ _); k_dflt (refine' use_3 (hsv_to_rgb _ _ _ _ _ _ _ _ _ _ _ _ ?zqhp) ?zqB ?zqF ?zqX ?zqN ?zqT ?zqhk ?zqhd ?zqhu ?_; (case zqhp => with_reducible assumption); (case zqB => k_asm); (case zqF => k_asm); (case zqX => k_asm); (case zqN => k_asm); (case zqT => k_asm); (case zqhk => first | exact rfl | assumption); (case zqhd => first | exact room (by assumption) (by decide) | exact room0 (by assumption) (by decide) | ktr_room); (case zqhu => first | exact room (by assumption) (by decide) | exact room0 (by assumption) (by decide) | ktr_units); intro d9 t91 t92 t93 h9 tk9 l9 F9 N9; (try k_lt l9); (try dsimp only); (try k_sweep); (try k_fold))))) | ((with_reducible show wpAny _ _ (call (Value.ref _) _ _) _ _ _); ((k_here; (with_reducible show wpAny _ _ (call (Value.ref 66) [Value.float _ _, Value.float _ _, Value.float _ _] _) _ _ _); k_dflt (refine' use_val (law_v _ _ _ _ _ _ _ _ _ _ _) ?zqB ?zqF ?zqX ?zqN ?zqT ?zqhk ?zqhd ?zqhu ?_; (case zqB => k_asm); (case zqF => k_asm); (case zqX => k_asm); (case zqN => k_asm); (case zqT => k_asm); (case zqhk => first | exact rfl | assumption); (case zqhd => first | exact room (by assumption) (by decide) | exact room0 (by assumption) (by decide) | ktr_room); (case zqhu => first | exact room (by assumption) (by decide) | exact room0 (by assumption) (by decide) | ktr_units); intro h9 tk9 t9 F9 N9; (try dsimp only); (try k_sweep); (try k_fold))))) | ((with_reducible show wpAny _ _ (call (Value.ref _) _ _) _ _ _); ((k_here; (with_reducible show wpAny _ _ (call (Value.ref 244) [Value.int _ _, Value.str _ _] _) _ _ _); k_dflt (refine' use_val (law_sign _ _ _ _ _ _ _ _ _ ?zqp1 ?zqp2) ?zqB ?zqF ?zqX ?zqN ?zqT ?zqhk ?zqhd ?zqhu ?_; (case zqp1 => first | omega | exact fmod6_lo _ | (simp; done)); (case zqp2 => first | omega | exact fmod6_hi _ | (simp; done)); (case zqB => k_asm); (case zqF => k_asm); (case zqX => k_asm); (case zqN => k_asm); (case zqT => k_asm); (case zqhk => first | exact rfl | assumption); (case zqhd => first | exact room (by assumption) (by decide) | exact room0 (by assumption) (by decide) | ktr_room); (case zqhu => first | exact room (by assumption) (by decide) | exact room0 (by assumption) (by decide) | ktr_units); intro h9 tk9 t9 F9 N9; (try dsimp only); (try k_sweep); (try k_fold))))) | ((with_reducible show wpAny _ _ (subscriptTail _ _ (Value.ref _) _) _ _ _); ((k_here; (with_reducible show wpAny _ _ (subscriptTail _ _ (Value.ref _) (Value.int (Int.fmod _ 3) _)) _ _ _); (with_unfolding_all refine' item_f3 ?zqk1 ?zqk2 ?zqk3 ?_ ?zqk6; (case zqk1 => is_list); (case zqk2 => exact fmod3_lo _); (case zqk3 => exact fmod3_hi _); (case zqk6 => with_unfolding_all rfl); k_whole); intro t9))) | ((with_reducible show wpAny _ _ (storeName _ _ _) _ _ _); ((k_here; k_dflt ((refine' store_let ?zqF ?zqN ?_ ?zqa ?zqb; (case zqF => k_asm); (case zqN => k_asm); (case zqa => rfl); (case zqb => rfl); k_whole; intro m' h' tk' F' N'; (try k_sweep)))))) | walk1 | (dsimp only; walk1) | (leave1; (try dsimp only)) | fail "no step")
    all_goals first
      | (refine' ⟨rfl, _, _, _, rfl, ⟨_, val_pos ?w⟩, ?f, ?n⟩; (case f => assumption); (case w => assumption); (case n => first | assumption | (refine' cb_drop ?n ?s; (case n => assumption); (case s => (intro p hp; repeat (first | with_reducible exact hp | refine List.mem_cons_of_mem _ ?_))))))
      | (refine' ⟨rfl, _, _, _, rfl, ⟨_, val_neg ?w⟩, fr_same ?f ?e, ?n⟩; (case f => assumption); (case e => rfl); (case w => assumption); (case n => first | assumption | (refine' cb_drop ?n ?s; (case n => assumption); (case s => (intro p hp; repeat (first | with_reducible exact hp | refine List.mem_cons_of_mem _ ?_))))))
  intro v hv; obtain ⟨t, rfl⟩ := hv; intro m' h' tk' F' N'
  repeat' (first | ((k_unfold); (try dsimp only)) | (k_end; kc_close) | ((with_reducible show wpAny _ _ (call (Value.ref _) _ _) _ _ _); ((k_here; (with_reducible show wpAny _ _ (call (Value.ref 59) [Value.float _ _, Value.float _ _, Value.float _ _] _) _ _ _); k_dflt (refine' use_3 (hls_at _ _ _ _ _ _ _ _ _ _ _ _ ?zqhp) ?zqB ?zqF ?zqX ?zqN ?zqT ?zqhk ?zqhd ?zqhu ?_; (case zqhp => with_reducible assumption); (case zqB => k_asm); (case zqF => k_asm); (case zqX => k_asm); (case zqN => k_asm); (case zqT => k_asm); (case zqhk => first | exact rfl | assumption); (case zqhd => first | exact room (by assumption) (by decide) | exact room0 (by assumption) (by decide) | ktr_room); (case zqhu => first | exact room (by assumption) (by decide) | exact room0 (by assumption) (by decide) | ktr_units); intro d9 t91 t92 t93 h9 tk9 l9 F9 N9; (try k_lt l9); (try dsimp only); (try k_sweep); (try k_fold))))) | ((with_reducible show wpAny _ _ (call (Value.ref _) _ _) _ _ _); ((k_here; (with_reducible show wpAny _ _ (call (Value.ref 251) [Value.float _ _, Value.float _ _, Value.float _ _, Value.str _ _] _) _ _ _); k_dflt (refine' use_val (law_read _ _ _ _ _ _ _ _ _ _ _ _ _ _ ?zqhp) ?zqB ?zqF ?zqX ?zqN ?zqT ?zqhk ?zqhd ?zqhu ?_; (case zqhp => with_reducible assumption); (case zqB => k_asm); (case zqF => k_asm); (case zqX => k_asm); (case zqN => k_asm); (case zqT => k_asm); (case zqhk => first | exact rfl | assumption); (case zqhd => first | exact room (by assumption) (by decide) | exact room0 (by assumption) (by decide) | ktr_room); (case zqhu => first | exact room (by assumption) (by decide) | exact room0 (by assumption) (by decide) | ktr_units); intro h9 tk9 t9 F9 N9; (try dsimp only); (try k_sweep); (try k_fold))))) | ((with_reducible show wpAny _ _ (execs (_ :: _) _) _ _ _); first | with_reducible ((k_here; (with_reducible show wpAny _ _ (execs (Stmt.If _ _ _ _ :: _) _) _ _ _); refine halt ?_)) | ((k_here; (with_reducible show wpAny _ _ (execs (Stmt.If _ _ _ _ :: _) _) _ _ _); refine halt ?_))) | ((with_reducible show wpAny _ _ (call (Value.ref _) _ _) _ _ _); ((k_here; (with_reducible show wpAny _ _ (call (Value.ref 52) [Value.float _ _, Value.float _ _, Value.float _ _] _) _ _ _); k_dflt (refine' use_3 (rgb_to_hls _ _ _ _ _ _ _ _ _ _ _ _ ?zqhp) ?zqB ?zqF ?zqX ?zqN ?zqT ?zqhk ?zqhd ?zqhu ?_; (case zqhp => with_reducible assumption); (case zqB => k_asm); (case zqF => k_asm); (case zqX => k_asm); (case zqN => k_asm); (case zqT => k_asm); (case zqhk => first | exact rfl | assumption); (case zqhd => first | exact room (by assumption) (by decide) | exact room0 (by assumption) (by decide) | ktr_room); (case zqhu => first | exact room (by assumption) (by decide) | exact room0 (by assumption) (by decide) | ktr_units); intro d9 t91 t92 t93 h9 tk9 l9 F9 N9; (try k_lt l9); (try dsimp only); (try k_sweep); (try k_fold))))) | ((with_reducible show wpAny _ _ (call (Value.ref _) _ _) _ _ _); ((k_here; (with_reducible show wpAny _ _ (call (Value.ref 73) [Value.float _ _, Value.float _ _, Value.float _ _] _) _ _ _); k_dflt (refine' use_3 (rgb_to_hsv _ _ _ _ _ _ _ _ _ _ _ _ ?zqhp) ?zqB ?zqF ?zqX ?zqN ?zqT ?zqhk ?zqhd ?zqhu ?_; (case zqhp => with_reducible assumption); (case zqB => k_asm); (case zqF => k_asm); (case zqX => k_asm); (case zqN => k_asm); (case zqT => k_asm); (case zqhk => first | exact rfl | assumption); (case zqhd => first | exact room (by assumption) (by decide) | exact room0 (by assumption) (by decide) | ktr_room); (case zqhu => first | exact room (by assumption) (by decide) | exact room0 (by assumption) (by decide) | ktr_units); intro d9 t91 t92 t93 h9 tk9 l9 F9 N9; (try k_lt l9); (try dsimp only); (try k_sweep); (try k_fold))))) | ((with_reducible show wpAny _ _ (call (Value.ref _) _ _) _ _ _); ((k_here; (with_reducible show wpAny _ _ (call (Value.ref 80) [Value.float _ _, Value.float _ _, Value.float _ _] _) _ _ _); k_dflt (refine' use_3 (hsv_to_rgb _ _ _ _ _ _ _ _ _ _ _ _ ?zqhp) ?zqB ?zqF ?zqX ?zqN ?zqT ?zqhk ?zqhd ?zqhu ?_; (case zqhp => with_reducible assumption); (case zqB => k_asm); (case zqF => k_asm); (case zqX => k_asm); (case zqN => k_asm); (case zqT => k_asm); (case zqhk => first | exact rfl | assumption); (case zqhd => first | exact room (by assumption) (by decide) | exact room0 (by assumption) (by decide) | ktr_room); (case zqhu => first | exact room (by assumption) (by decide) | exact room0 (by assumption) (by decide) | ktr_units); intro d9 t91 t92 t93 h9 tk9 l9 F9 N9; (try k_lt l9); (try dsimp only); (try k_sweep); (try k_fold))))) | ((with_reducible show wpAny _ _ (call (Value.ref _) _ _) _ _ _); ((k_here; (with_reducible show wpAny _ _ (call (Value.ref 66) [Value.float _ _, Value.float _ _, Value.float _ _] _) _ _ _); k_dflt (refine' use_val (law_v _ _ _ _ _ _ _ _ _ _ _) ?zqB ?zqF ?zqX ?zqN ?zqT ?zqhk ?zqhd ?zqhu ?_; (case zqB => k_asm); (case zqF => k_asm); (case zqX => k_asm); (case zqN => k_asm); (case zqT => k_asm); (case zqhk => first | exact rfl | assumption); (case zqhd => first | exact room (by assumption) (by decide) | exact room0 (by assumption) (by decide) | ktr_room); (case zqhu => first | exact room (by assumption) (by decide) | exact room0 (by assumption) (by decide) | ktr_units); intro h9 tk9 t9 F9 N9; (try dsimp only); (try k_sweep); (try k_fold))))) | ((with_reducible show wpAny _ _ (call (Value.ref _) _ _) _ _ _); ((k_here; (with_reducible show wpAny _ _ (call (Value.ref 244) [Value.int _ _, Value.str _ _] _) _ _ _); k_dflt (refine' use_val (law_sign _ _ _ _ _ _ _ _ _ ?zqp1 ?zqp2) ?zqB ?zqF ?zqX ?zqN ?zqT ?zqhk ?zqhd ?zqhu ?_; (case zqp1 => first | omega | exact fmod6_lo _ | (simp; done)); (case zqp2 => first | omega | exact fmod6_hi _ | (simp; done)); (case zqB => k_asm); (case zqF => k_asm); (case zqX => k_asm); (case zqN => k_asm); (case zqT => k_asm); (case zqhk => first | exact rfl | assumption); (case zqhd => first | exact room (by assumption) (by decide) | exact room0 (by assumption) (by decide) | ktr_room); (case zqhu => first | exact room (by assumption) (by decide) | exact room0 (by assumption) (by decide) | ktr_units); intro h9 tk9 t9 F9 N9; (try dsimp only); (try k_sweep); (try k_fold))))) | ((with_reducible show wpAny _ _ (subscriptTail _ _ (Value.ref _) _) _ _ _); ((k_here; (with_reducible show wpAny _ _ (subscriptTail _ _ (Value.ref _) (Value.int (Int.fmod _ 3) _)) _ _ _); (with_unfolding_all refine' item_f3 ?zqk1 ?zqk2 ?zqk3 ?_ ?zqk6; (case zqk1 => is_list); (case zqk2 => exact fmod3_lo _); (case zqk3 => exact fmod3_hi _); (case zqk6 => with_unfolding_all rfl); k_whole); intro t9))) | ((with_reducible show wpAny _ _ (storeName _ _ _) _ _ _); ((k_here; k_dflt ((refine' store_let ?zqF ?zqN ?_ ?zqa ?zqb; (case zqF => k_asm); (case zqN => k_asm); (case zqa => rfl); (case zqb => rfl); k_whole; intro m' h' tk' F' N'; (try k_sweep)))))) | walk1 | (dsimp only; walk1) | (leave1; (try dsimp only)) | fail "no step")
  unfold Halt
  refine cut_store (Str.ofString "value") news (fun v => ∃ t, v = .float (if kind = 7 then 0 else Float64.div 4607182418800017408 (Float64.ofInt (1 + (part.fdiv 2).fmod 2))) t) (by k_asm) ?_ ?_
  · repeat' (first | ((k_unfold); (try dsimp only)) | (k_end; kc_close) | ((with_reducible show wpAny _ _ (call (Value.ref _) _ _) _ _ _); ((k_here; (with_reducible show wpAny _ _ (call (Value.ref 59) [Value.float _ _, Value.float _ _, Value.float _ _] _) _ _ _); k_dflt (refine' use_3 (hls_at _ _ _ _ _ _ _ _ _ _ _ _ ?zqhp) ?zqB ?zqF ?zqX ?zqN ?zqT ?zqhk ?zqhd ?zqhu ?_; (case zqhp => with_reducible assumption); (case zqB => k_asm); (case zqF => k_asm); (case zqX => k_asm); (case zqN => k_asm); (case zqT => k_asm); (case zqhk => first | exact rfl | assumption); (case zqhd => first | exact room (by assumption) (by decide) | exact room0 (by assumption) (by decide) | ktr_room); (case zqhu => first | exact room (by assumption) (by decide) | exact room0 (by assumption) (by decide) | ktr_units); intro d9 t91 t92 t93 h9 tk9 l9 F9 N9; (try k_lt l9); (try dsimp only); (try k_sweep); (try k_fold))))) | ((with_reducible show wpAny _ _ (call (Value.ref _) _ _) _ _ _); ((k_here; (with_reducible show wpAny _ _ (call (Value.ref 251) [Value.float _ _, Value.float _ _, Value.float _ _, Value.str _ _] _) _ _ _); k_dflt (refine' use_val (law_read _ _ _ _ _ _ _ _ _ _ _ _ _ _ ?zqhp) ?zqB ?zqF ?zqX ?zqN ?zqT ?zqhk ?zqhd ?zqhu ?_; (case zqhp => with_reducible assumption); (case zqB => k_asm); (case zqF => k_asm); (case zqX => k_asm); (case zqN => k_asm); (case zqT => k_asm); (case zqhk => first | exact rfl | assumption); (case zqhd => first | exact room (by assumption) (by decide) | exact room0 (by assumption) (by decide) | ktr_room); (case zqhu => first | exact room (by assumption) (by decide) | exact room0 (by assumption) (by decide) | ktr_units); intro h9 tk9 t9 F9 N9; (try dsimp only); (try k_sweep); (try k_fold))))) | ((with_reducible show wpAny _ _ (execs (_ :: _) _) _ _ _); first | with_reducible ((k_here; (with_reducible show wpAny _ _ (execs (Stmt.If _ _ _ _ :: _) _) _ _ _); refine halt ?_)) | ((k_here; (with_reducible show wpAny _ _ (execs (Stmt.If _ _ _ _ :: _) _) _ _ _); refine halt ?_))) | ((with_reducible show wpAny _ _ (call (Value.ref _) _ _) _ _ _); ((k_here; (with_reducible show wpAny _ _ (call (Value.ref 52) [Value.float _ _, Value.float _ _, Value.float _ _] _) _ _ _); k_dflt (refine' use_3 (rgb_to_hls _ _ _ _ _ _ _ _ _ _ _ _ ?zqhp) ?zqB ?zqF ?zqX ?zqN ?zqT ?zqhk ?zqhd ?zqhu ?_; (case zqhp => with_reducible assumption); (case zqB => k_asm); (case zqF => k_asm); (case zqX => k_asm); (case zqN => k_asm); (case zqT => k_asm); (case zqhk => first | exact rfl | assumption); (case zqhd => first | exact room (by assumption) (by decide) | exact room0 (by assumption) (by decide) | ktr_room); (case zqhu => first | exact room (by assumption) (by decide) | exact room0 (by assumption) (by decide) | ktr_units); intro d9 t91 t92 t93 h9 tk9 l9 F9 N9; (try k_lt l9); (try dsimp only); (try k_sweep); (try k_fold))))) | ((with_reducible show wpAny _ _ (call (Value.ref _) _ _) _ _ _); ((k_here; (with_reducible show wpAny _ _ (call (Value.ref 73) [Value.float _ _, Value.float _ _, Value.float _ _] _) _ _ _); k_dflt (refine' use_3 (rgb_to_hsv _ _ _ _ _ _ _ _ _ _ _ _ ?zqhp) ?zqB ?zqF ?zqX ?zqN ?zqT ?zqhk ?zqhd ?zqhu ?_; (case zqhp => with_reducible assumption); (case zqB => k_asm); (case zqF => k_asm); (case zqX => k_asm); (case zqN => k_asm); (case zqT => k_asm); (case zqhk => first | exact rfl | assumption); (case zqhd => first | exact room (by assumption) (by decide) | exact room0 (by assumption) (by decide) | ktr_room); (case zqhu => first | exact room (by assumption) (by decide) | exact room0 (by assumption) (by decide) | ktr_units); intro d9 t91 t92 t93 h9 tk9 l9 F9 N9; (try k_lt l9); (try dsimp only); (try k_sweep); (try k_fold))))) | ((with_reducible show wpAny _ _ (call (Value.ref _) _ _) _ _ _); ((k_here; (with_reducible show wpAny _ _ (call (Value.ref 80) [Value.float _ _, Value.float _ _, Value.float _ _] _) _ _ _); k_dflt (refine' use_3 (hsv_to_rgb _ _ _ _ _ _ _ _ _ _ _ _ ?zqhp) ?zqB ?zqF ?zqX ?zqN ?zqT ?zqhk ?zqhd ?zqhu ?_; (case zqhp => with_reducible assumption); (case zqB => k_asm); (case zqF => k_asm); (case zqX => k_asm); (case zqN => k_asm); (case zqT => k_asm); (case zqhk => first | exact rfl | assumption); (case zqhd => first | exact room (by assumption) (by decide) | exact room0 (by assumption) (by decide) | ktr_room); (case zqhu => first | exact room (by assumption) (by decide) | exact room0 (by assumption) (by decide) | ktr_units); intro d9 t91 t92 t93 h9 tk9 l9 F9 N9; (try k_lt l9); (try dsimp only); (try k_sweep); (try k_fold))))) | ((with_reducible show wpAny _ _ (call (Value.ref _) _ _) _ _ _); ((k_here; (with_reducible show wpAny _ _ (call (Value.ref 66) [Value.float _ _, Value.float _ _, Value.float _ _] _) _ _ _); k_dflt (refine' use_val (law_v _ _ _ _ _ _ _ _ _ _ _) ?zqB ?zqF ?zqX ?zqN ?zqT ?zqhk ?zqhd ?zqhu ?_; (case zqB => k_asm); (case zqF => k_asm); (case zqX => k_asm); (case zqN => k_asm); (case zqT => k_asm); (case zqhk => first | exact rfl | assumption); (case zqhd => first | exact room (by assumption) (by decide) | exact room0 (by assumption) (by decide) | ktr_room); (case zqhu => first | exact room (by assumption) (by decide) | exact room0 (by assumption) (by decide) | ktr_units); intro h9 tk9 t9 F9 N9; (try dsimp only); (try k_sweep); (try k_fold))))) | ((with_reducible show wpAny _ _ (call (Value.ref _) _ _) _ _ _); ((k_here; (with_reducible show wpAny _ _ (call (Value.ref 244) [Value.int _ _, Value.str _ _] _) _ _ _); k_dflt (refine' use_val (law_sign _ _ _ _ _ _ _ _ _ ?zqp1 ?zqp2) ?zqB ?zqF ?zqX ?zqN ?zqT ?zqhk ?zqhd ?zqhu ?_; (case zqp1 => first | omega | exact fmod6_lo _ | (simp; done)); (case zqp2 => first | omega | exact fmod6_hi _ | (simp; done)); (case zqB => k_asm); (case zqF => k_asm); (case zqX => k_asm); (case zqN => k_asm); (case zqT => k_asm); (case zqhk => first | exact rfl | assumption); (case zqhd => first | exact room (by assumption) (by decide) | exact room0 (by assumption) (by decide) | ktr_room); (case zqhu => first | exact room (by assumption) (by decide) | exact room0 (by assumption) (by decide) | ktr_units); intro h9 tk9 t9 F9 N9; (try dsimp only); (try k_sweep); (try k_fold))))) | ((with_reducible show wpAny _ _ (subscriptTail _ _ (Value.ref _) _) _ _ _); ((k_here; (with_reducible show wpAny _ _ (subscriptTail _ _ (Value.ref _) (Value.int (Int.fmod _ 3) _)) _ _ _); (with_unfolding_all refine' item_f3 ?zqk1 ?zqk2 ?zqk3 ?_ ?zqk6; (case zqk1 => is_list); (case zqk2 => exact fmod3_lo _); (case zqk3 => exact fmod3_hi _); (case zqk6 => with_unfolding_all rfl); k_whole); intro t9))) | ((with_reducible show wpAny _ _ (storeName _ _ _) _ _ _); ((k_here; k_dflt ((refine' store_let ?zqF ?zqN ?_ ?zqa ?zqb; (case zqF => k_asm); (case zqN => k_asm); (case zqa => rfl); (case zqb => rfl); k_whole; intro m' h' tk' F' N'; (try k_sweep)))))) | walk1 | (dsimp only; walk1) | (leave1; (try dsimp only)) | fail "no step")
    all_goals first
      | (refine' ⟨rfl, _, _, _, rfl, ⟨_, val_pos ?w⟩, ?f, ?n⟩; (case f => assumption); (case w => assumption); (case n => first | assumption | (refine' cb_drop ?n ?s; (case n => assumption); (case s => (intro p hp; repeat (first | with_reducible exact hp | refine List.mem_cons_of_mem _ ?_))))))
      | (refine' ⟨rfl, _, _, _, rfl, ⟨_, val_neg ?w⟩, fr_same ?f ?e, ?n⟩; (case f => assumption); (case e => rfl); (case w => assumption); (case n => first | assumption | (refine' cb_drop ?n ?s; (case n => assumption); (case s => (intro p hp; repeat (first | with_reducible exact hp | refine List.mem_cons_of_mem _ ?_))))))
  intro v hv; obtain ⟨t, rfl⟩ := hv; intro m' h' tk' F' N'
  repeat' (first | ((k_unfold); (try dsimp only)) | (k_end; kc_close) | ((with_reducible show wpAny _ _ (call (Value.ref _) _ _) _ _ _); ((k_here; (with_reducible show wpAny _ _ (call (Value.ref 59) [Value.float _ _, Value.float _ _, Value.float _ _] _) _ _ _); k_dflt (refine' use_3 (hls_at _ _ _ _ _ _ _ _ _ _ _ _ ?zqhp) ?zqB ?zqF ?zqX ?zqN ?zqT ?zqhk ?zqhd ?zqhu ?_; (case zqhp => with_reducible assumption); (case zqB => k_asm); (case zqF => k_asm); (case zqX => k_asm); (case zqN => k_asm); (case zqT => k_asm); (case zqhk => first | exact rfl | assumption); (case zqhd => first | exact room (by assumption) (by decide) | exact room0 (by assumption) (by decide) | ktr_room); (case zqhu => first | exact room (by assumption) (by decide) | exact room0 (by assumption) (by decide) | ktr_units); intro d9 t91 t92 t93 h9 tk9 l9 F9 N9; (try k_lt l9); (try dsimp only); (try k_sweep); (try k_fold))))) | ((with_reducible show wpAny _ _ (call (Value.ref _) _ _) _ _ _); ((k_here; (with_reducible show wpAny _ _ (call (Value.ref 251) [Value.float _ _, Value.float _ _, Value.float _ _, Value.str _ _] _) _ _ _); k_dflt (refine' use_val (law_read _ _ _ _ _ _ _ _ _ _ _ _ _ _ ?zqhp) ?zqB ?zqF ?zqX ?zqN ?zqT ?zqhk ?zqhd ?zqhu ?_; (case zqhp => with_reducible assumption); (case zqB => k_asm); (case zqF => k_asm); (case zqX => k_asm); (case zqN => k_asm); (case zqT => k_asm); (case zqhk => first | exact rfl | assumption); (case zqhd => first | exact room (by assumption) (by decide) | exact room0 (by assumption) (by decide) | ktr_room); (case zqhu => first | exact room (by assumption) (by decide) | exact room0 (by assumption) (by decide) | ktr_units); intro h9 tk9 t9 F9 N9; (try dsimp only); (try k_sweep); (try k_fold))))) | ((with_reducible show wpAny _ _ (execs (_ :: _) _) _ _ _); first | with_reducible ((k_here; (with_reducible show wpAny _ _ (execs (Stmt.If _ _ _ _ :: _) _) _ _ _); refine halt ?_)) | ((k_here; (with_reducible show wpAny _ _ (execs (Stmt.If _ _ _ _ :: _) _) _ _ _); refine halt ?_))) | ((with_reducible show wpAny _ _ (call (Value.ref _) _ _) _ _ _); ((k_here; (with_reducible show wpAny _ _ (call (Value.ref 52) [Value.float _ _, Value.float _ _, Value.float _ _] _) _ _ _); k_dflt (refine' use_3 (rgb_to_hls _ _ _ _ _ _ _ _ _ _ _ _ ?zqhp) ?zqB ?zqF ?zqX ?zqN ?zqT ?zqhk ?zqhd ?zqhu ?_; (case zqhp => with_reducible assumption); (case zqB => k_asm); (case zqF => k_asm); (case zqX => k_asm); (case zqN => k_asm); (case zqT => k_asm); (case zqhk => first | exact rfl | assumption); (case zqhd => first | exact room (by assumption) (by decide) | exact room0 (by assumption) (by decide) | ktr_room); (case zqhu => first | exact room (by assumption) (by decide) | exact room0 (by assumption) (by decide) | ktr_units); intro d9 t91 t92 t93 h9 tk9 l9 F9 N9; (try k_lt l9); (try dsimp only); (try k_sweep); (try k_fold))))) | ((with_reducible show wpAny _ _ (call (Value.ref _) _ _) _ _ _); ((k_here; (with_reducible show wpAny _ _ (call (Value.ref 73) [Value.float _ _, Value.float _ _, Value.float _ _] _) _ _ _); k_dflt (refine' use_3 (rgb_to_hsv _ _ _ _ _ _ _ _ _ _ _ _ ?zqhp) ?zqB ?zqF ?zqX ?zqN ?zqT ?zqhk ?zqhd ?zqhu ?_; (case zqhp => with_reducible assumption); (case zqB => k_asm); (case zqF => k_asm); (case zqX => k_asm); (case zqN => k_asm); (case zqT => k_asm); (case zqhk => first | exact rfl | assumption); (case zqhd => first | exact room (by assumption) (by decide) | exact room0 (by assumption) (by decide) | ktr_room); (case zqhu => first | exact room (by assumption) (by decide) | exact room0 (by assumption) (by decide) | ktr_units); intro d9 t91 t92 t93 h9 tk9 l9 F9 N9; (try k_lt l9); (try dsimp only); (try k_sweep); (try k_fold))))) | ((with_reducible show wpAny _ _ (call (Value.ref _) _ _) _ _ _); ((k_here; (with_reducible show wpAny _ _ (call (Value.ref 80) [Value.float _ _, Value.float _ _, Value.float _ _] _) _ _ _); k_dflt (refine' use_3 (hsv_to_rgb _ _ _ _ _ _ _ _ _ _ _ _ ?zqhp) ?zqB ?zqF ?zqX ?zqN ?zqT ?zqhk ?zqhd ?zqhu ?_; (case zqhp => with_reducible assumption); (case zqB => k_asm); (case zqF => k_asm); (case zqX => k_asm); (case zqN => k_asm); (case zqT => k_asm); (case zqhk => first | exact rfl | assumption); (case zqhd => first | exact room (by assumption) (by decide) | exact room0 (by assumption) (by decide) | ktr_room); (case zqhu => first | exact room (by assumption) (by decide) | exact room0 (by assumption) (by decide) | ktr_units); intro d9 t91 t92 t93 h9 tk9 l9 F9 N9; (try k_lt l9); (try dsimp only); (try k_sweep); (try k_fold))))) | ((with_reducible show wpAny _ _ (call (Value.ref _) _ _) _ _ _); ((k_here; (with_reducible show wpAny _ _ (call (Value.ref 66) [Value.float _ _, Value.float _ _, Value.float _ _] _) _ _ _); k_dflt (refine' use_val (law_v _ _ _ _ _ _ _ _ _ _ _) ?zqB ?zqF ?zqX ?zqN ?zqT ?zqhk ?zqhd ?zqhu ?_; (case zqB => k_asm); (case zqF => k_asm); (case zqX => k_asm); (case zqN => k_asm); (case zqT => k_asm); (case zqhk => first | exact rfl | assumption); (case zqhd => first | exact room (by assumption) (by decide) | exact room0 (by assumption) (by decide) | ktr_room); (case zqhu => first | exact room (by assumption) (by decide) | exact room0 (by assumption) (by decide) | ktr_units); intro h9 tk9 t9 F9 N9; (try dsimp only); (try k_sweep); (try k_fold))))) | ((with_reducible show wpAny _ _ (call (Value.ref _) _ _) _ _ _); ((k_here; (with_reducible show wpAny _ _ (call (Value.ref 244) [Value.int _ _, Value.str _ _] _) _ _ _); k_dflt (refine' use_val (law_sign _ _ _ _ _ _ _ _ _ ?zqp1 ?zqp2) ?zqB ?zqF ?zqX ?zqN ?zqT ?zqhk ?zqhd ?zqhu ?_; (case zqp1 => first | omega | exact fmod6_lo _ | (simp; done)); (case zqp2 => first | omega | exact fmod6_hi _ | (simp; done)); (case zqB => k_asm); (case zqF => k_asm); (case zqX => k_asm); (case zqN => k_asm); (case zqT => k_asm); (case zqhk => first | exact rfl | assumption); (case zqhd => first | exact room (by assumption) (by decide) | exact room0 (by assumption) (by decide) | ktr_room); (case zqhu => first | exact room (by assumption) (by decide) | exact room0 (by assumption) (by decide) | ktr_units); intro h9 tk9 t9 F9 N9; (try dsimp only); (try k_sweep); (try k_fold))))) | ((with_reducible show wpAny _ _ (subscriptTail _ _ (Value.ref _) _) _ _ _); ((k_here; (with_reducible show wpAny _ _ (subscriptTail _ _ (Value.ref _) (Value.int (Int.fmod _ 3) _)) _ _ _); (with_unfolding_all refine' item_f3 ?zqk1 ?zqk2 ?zqk3 ?_ ?zqk6; (case zqk1 => is_list); (case zqk2 => exact fmod3_lo _); (case zqk3 => exact fmod3_hi _); (case zqk6 => with_unfolding_all rfl); k_whole); intro t9))) | ((with_reducible show wpAny _ _ (storeName _ _ _) _ _ _); ((k_here; k_dflt ((refine' store_let ?zqF ?zqN ?_ ?zqa ?zqb; (case zqF => k_asm); (case zqN => k_asm); (case zqa => rfl); (case zqb => rfl); k_whole; intro m' h' tk' F' N'; (try k_sweep)))))) | walk1 | (dsimp only; walk1) | (leave1; (try dsimp only)) | fail "no step")
  all_goals first | exact hret _ _ _ _ ⟨rfl, _, rfl⟩ (by assumption) (by refine' cb_drop ?n ?s; (case n => assumption); (case s => (intro p hp; repeat (first | with_reducible exact hp | refine List.mem_cons_of_mem _ ?_)))) | (exfalso; omega)
theorem page_facts {kind part turn : Int} {r : Int} (h : pageOf real kind part turn = some r) : ∃ a b c d, hlsRgb real (Float64.div (Float64.ofInt kind) 4618441417868443648) (if kind = 7 then 0 else lights part) (if kind = 6 then 0 else Float64.div 4607182418800017408 (Float64.ofInt (1 + (part.fdiv 3).fmod 2))) = a ∧
    rgbHls real a.1 a.2.1 a.2.2 = some b ∧ hlsRgb real (Float64.add b.1 (Float64.div (Float64.ofInt turn) 4618441417868443648)) b.2.1 b.2.2 = c ∧ rgbHsv real c.1 c.2.1 c.2.2 = some d ∧ readOf real d.1 d.2.1 d.2.2 = some r := by
  unfold pageOf at h
  dsimp only at h
  obtain ⟨b, hb, h⟩ := Option.bind_eq_some_iff.mp h
  obtain ⟨d, hd, h⟩ := Option.bind_eq_some_iff.mp h
  exact ⟨_, b, _, d, rfl, hb, rfl, hd, h⟩
theorem law_page (kind part turn : Int) (h1 : 0 ≤ kind) (h2 : kind ≤ 7) (h3 : 0 ≤ part) (h4 : part < 12) (h5 : 0 ≤ turn) (h6 : turn < 6) (t1 t2 t3 t4 : Tok) :
    Ctr w mean mg mb 265 [.int kind t1, .int part t2, .int turn t3] news 4 32 (fun v news' => news' = news ∧ ∃ t, v = .str (signOf (turned kind turn) (Str.ofString ".")) t) := by
  intro dp un gd cn cs a ccd cl outer A₀ base h₀ L m s Q E B F X N T hk hd hu hret
  have q1 := fmod_lo2 part
  have q2 := fmod_lo2 (part.fdiv 3)
  obtain ⟨a1, a2, a3, a4, f1, f2, f3, f4, f5⟩ := page_facts (page_ok h1 h2 h3 h5 h6)
  unfold lights at f1
  refine wpAny_call ?_
  k_dflt ktr_enter
  (rename Fr _ _ _ _ => lF9); refine map_let lF9 ?_; clear lF9; intro m9 lF9; refine frame_let ?_; intro A9 env9
  repeat' (first | ((k_unfold); (try dsimp only)) | (k_end; kc_close) | ((with_reducible show wpAny _ _ (call (Value.ref _) _ _) _ _ _); ((k_here; (with_reducible show wpAny _ _ (call (Value.ref 59) [Value.float _ _, Value.float _ _, Value.float _ _] _) _ _ _); k_dflt (refine' use_3 (hls_at _ _ _ _ _ _ _ _ _ _ _ _ ?zqhp) ?zqB ?zqF ?zqX ?zqN ?zqT ?zqhk ?zqhd ?zqhu ?_; (case zqhp => with_reducible assumption); (case zqB => k_asm); (case zqF => k_asm); (case zqX => k_asm); (case zqN => k_asm); (case zqT => k_asm); (case zqhk => first | exact rfl | assumption); (case zqhd => first | exact room (by assumption) (by decide) | exact room0 (by assumption) (by decide) | ktr_room); (case zqhu => first | exact room (by assumption) (by decide) | exact room0 (by assumption) (by decide) | ktr_units); intro d9 t91 t92 t93 h9 tk9 l9 F9 N9; (try k_lt l9); (try dsimp only); (try k_sweep); (try k_fold))))) | ((with_reducible show wpAny _ _ (call (Value.ref _) _ _) _ _ _); ((k_here; (with_reducible show wpAny _ _ (call (Value.ref 251) [Value.float _ _, Value.float _ _, Value.float _ _, Value.str _ _] _) _ _ _); k_dflt (refine' use_val (law_read _ _ _ _ _ _ _ _ _ _ _ _ _ _ ?zqhp) ?zqB ?zqF ?zqX ?zqN ?zqT ?zqhk ?zqhd ?zqhu ?_; (case zqhp => with_reducible assumption); (case zqB => k_asm); (case zqF => k_asm); (case zqX => k_asm); (case zqN => k_asm); (case zqT => k_asm); (case zqhk => first | exact rfl | assumption); (case zqhd => first | exact room (by assumption) (by decide) | exact room0 (by assumption) (by decide) | ktr_room); (case zqhu => first | exact room (by assumption) (by decide) | exact room0 (by assumption) (by decide) | ktr_units); intro h9 tk9 t9 F9 N9; (try dsimp only); (try k_sweep); (try k_fold))))) | ((with_reducible show wpAny _ _ (execs (_ :: _) _) _ _ _); first | with_reducible ((k_here; (with_reducible show wpAny _ _ (execs (Stmt.If _ _ _ _ :: _) _) _ _ _); refine halt ?_)) | ((k_here; (with_reducible show wpAny _ _ (execs (Stmt.If _ _ _ _ :: _) _) _ _ _); refine halt ?_))) | ((with_reducible show wpAny _ _ (call (Value.ref _) _ _) _ _ _); ((k_here; (with_reducible show wpAny _ _ (call (Value.ref 52) [Value.float _ _, Value.float _ _, Value.float _ _] _) _ _ _); k_dflt (refine' use_3 (rgb_to_hls _ _ _ _ _ _ _ _ _ _ _ _ ?zqhp) ?zqB ?zqF ?zqX ?zqN ?zqT ?zqhk ?zqhd ?zqhu ?_; (case zqhp => with_reducible assumption); (case zqB => k_asm); (case zqF => k_asm); (case zqX => k_asm); (case zqN => k_asm); (case zqT => k_asm); (case zqhk => first | exact rfl | assumption); (case zqhd => first | exact room (by assumption) (by decide) | exact room0 (by assumption) (by decide) | ktr_room); (case zqhu => first | exact room (by assumption) (by decide) | exact room0 (by assumption) (by decide) | ktr_units); intro d9 t91 t92 t93 h9 tk9 l9 F9 N9; (try k_lt l9); (try dsimp only); (try k_sweep); (try k_fold))))) | ((with_reducible show wpAny _ _ (call (Value.ref _) _ _) _ _ _); ((k_here; (with_reducible show wpAny _ _ (call (Value.ref 73) [Value.float _ _, Value.float _ _, Value.float _ _] _) _ _ _); k_dflt (refine' use_3 (rgb_to_hsv _ _ _ _ _ _ _ _ _ _ _ _ ?zqhp) ?zqB ?zqF ?zqX ?zqN ?zqT ?zqhk ?zqhd ?zqhu ?_; (case zqhp => with_reducible assumption); (case zqB => k_asm); (case zqF => k_asm); (case zqX => k_asm); (case zqN => k_asm); (case zqT => k_asm); (case zqhk => first | exact rfl | assumption); (case zqhd => first | exact room (by assumption) (by decide) | exact room0 (by assumption) (by decide) | ktr_room); (case zqhu => first | exact room (by assumption) (by decide) | exact room0 (by assumption) (by decide) | ktr_units); intro d9 t91 t92 t93 h9 tk9 l9 F9 N9; (try k_lt l9); (try dsimp only); (try k_sweep); (try k_fold))))) | ((with_reducible show wpAny _ _ (call (Value.ref _) _ _) _ _ _); ((k_here; (with_reducible show wpAny _ _ (call (Value.ref 80) [Value.float _ _, Value.float _ _, Value.float _ _] _) _ _ _); k_dflt (refine' use_3 (hsv_to_rgb _ _ _ _ _ _ _ _ _ _ _ _ ?zqhp) ?zqB ?zqF ?zqX ?zqN ?zqT ?zqhk ?zqhd ?zqhu ?_; (case zqhp => with_reducible assumption); (case zqB => k_asm); (case zqF => k_asm); (case zqX => k_asm); (case zqN => k_asm); (case zqT => k_asm); (case zqhk => first | exact rfl | assumption); (case zqhd => first | exact room (by assumption) (by decide) | exact room0 (by assumption) (by decide) | ktr_room); (case zqhu => first | exact room (by assumption) (by decide) | exact room0 (by assumption) (by decide) | ktr_units); intro d9 t91 t92 t93 h9 tk9 l9 F9 N9; (try k_lt l9); (try dsimp only); (try k_sweep); (try k_fold))))) | ((with_reducible show wpAny _ _ (call (Value.ref _) _ _) _ _ _); ((k_here; (with_reducible show wpAny _ _ (call (Value.ref 66) [Value.float _ _, Value.float _ _, Value.float _ _] _) _ _ _); k_dflt (refine' use_val (law_v _ _ _ _ _ _ _ _ _ _ _) ?zqB ?zqF ?zqX ?zqN ?zqT ?zqhk ?zqhd ?zqhu ?_; (case zqB => k_asm); (case zqF => k_asm); (case zqX => k_asm); (case zqN => k_asm); (case zqT => k_asm); (case zqhk => first | exact rfl | assumption); (case zqhd => first | exact room (by assumption) (by decide) | exact room0 (by assumption) (by decide) | ktr_room); (case zqhu => first | exact room (by assumption) (by decide) | exact room0 (by assumption) (by decide) | ktr_units); intro h9 tk9 t9 F9 N9; (try dsimp only); (try k_sweep); (try k_fold))))) | ((with_reducible show wpAny _ _ (call (Value.ref _) _ _) _ _ _); ((k_here; (with_reducible show wpAny _ _ (call (Value.ref 244) [Value.int _ _, Value.str _ _] _) _ _ _); k_dflt (refine' use_val (law_sign _ _ _ _ _ _ _ _ _ ?zqp1 ?zqp2) ?zqB ?zqF ?zqX ?zqN ?zqT ?zqhk ?zqhd ?zqhu ?_; (case zqp1 => first | omega | exact fmod6_lo _ | (simp; done)); (case zqp2 => first | omega | exact fmod6_hi _ | (simp; done)); (case zqB => k_asm); (case zqF => k_asm); (case zqX => k_asm); (case zqN => k_asm); (case zqT => k_asm); (case zqhk => first | exact rfl | assumption); (case zqhd => first | exact room (by assumption) (by decide) | exact room0 (by assumption) (by decide) | ktr_room); (case zqhu => first | exact room (by assumption) (by decide) | exact room0 (by assumption) (by decide) | ktr_units); intro h9 tk9 t9 F9 N9; (try dsimp only); (try k_sweep); (try k_fold))))) | ((with_reducible show wpAny _ _ (subscriptTail _ _ (Value.ref _) _) _ _ _); ((k_here; (with_reducible show wpAny _ _ (subscriptTail _ _ (Value.ref _) (Value.int (Int.fmod _ 3) _)) _ _ _); (with_unfolding_all refine' item_f3 ?zqk1 ?zqk2 ?zqk3 ?_ ?zqk6; (case zqk1 => is_list); (case zqk2 => exact fmod3_lo _); (case zqk3 => exact fmod3_hi _); (case zqk6 => with_unfolding_all rfl); k_whole); intro t9))) | ((with_reducible show wpAny _ _ (storeName _ _ _) _ _ _); ((k_here; k_dflt ((refine' store_let ?zqF ?zqN ?_ ?zqa ?zqb; (case zqF => k_asm); (case zqN => k_asm); (case zqa => rfl); (case zqb => rfl); k_whole; intro m' h' tk' F' N'; (try k_sweep)))))) | walk1 | (dsimp only; walk1) | (leave1; (try dsimp only)) | fail "no step")
  unfold Halt
  refine cut_store (Str.ofString "share") news (fun v => ∃ t, v = .float (if kind = 6 then 0 else Float64.div 4607182418800017408 (Float64.ofInt (1 + (part.fdiv 3).fmod 2))) t) (by k_asm) ?_ ?_
  · repeat' (first | ((k_unfold); (try dsimp only)) | (k_end; kc_close) | ((with_reducible show wpAny _ _ (call (Value.ref _) _ _) _ _ _); ((k_here; (with_reducible show wpAny _ _ (call (Value.ref 59) [Value.float _ _, Value.float _ _, Value.float _ _] _) _ _ _); k_dflt (refine' use_3 (hls_at _ _ _ _ _ _ _ _ _ _ _ _ ?zqhp) ?zqB ?zqF ?zqX ?zqN ?zqT ?zqhk ?zqhd ?zqhu ?_; (case zqhp => with_reducible assumption); (case zqB => k_asm); (case zqF => k_asm); (case zqX => k_asm); (case zqN => k_asm); (case zqT => k_asm); (case zqhk => first | exact rfl | assumption); (case zqhd => first | exact room (by assumption) (by decide) | exact room0 (by assumption) (by decide) | ktr_room); (case zqhu => first | exact room (by assumption) (by decide) | exact room0 (by assumption) (by decide) | ktr_units); intro d9 t91 t92 t93 h9 tk9 l9 F9 N9; (try k_lt l9); (try dsimp only); (try k_sweep); (try k_fold))))) | ((with_reducible show wpAny _ _ (call (Value.ref _) _ _) _ _ _); ((k_here; (with_reducible show wpAny _ _ (call (Value.ref 251) [Value.float _ _, Value.float _ _, Value.float _ _, Value.str _ _] _) _ _ _); k_dflt (refine' use_val (law_read _ _ _ _ _ _ _ _ _ _ _ _ _ _ ?zqhp) ?zqB ?zqF ?zqX ?zqN ?zqT ?zqhk ?zqhd ?zqhu ?_; (case zqhp => with_reducible assumption); (case zqB => k_asm); (case zqF => k_asm); (case zqX => k_asm); (case zqN => k_asm); (case zqT => k_asm); (case zqhk => first | exact rfl | assumption); (case zqhd => first | exact room (by assumption) (by decide) | exact room0 (by assumption) (by decide) | ktr_room); (case zqhu => first | exact room (by assumption) (by decide) | exact room0 (by assumption) (by decide) | ktr_units); intro h9 tk9 t9 F9 N9; (try dsimp only); (try k_sweep); (try k_fold))))) | ((with_reducible show wpAny _ _ (execs (_ :: _) _) _ _ _); first | with_reducible ((k_here; (with_reducible show wpAny _ _ (execs (Stmt.If _ _ _ _ :: _) _) _ _ _); refine halt ?_)) | ((k_here; (with_reducible show wpAny _ _ (execs (Stmt.If _ _ _ _ :: _) _) _ _ _); refine halt ?_))) | ((with_reducible show wpAny _ _ (call (Value.ref _) _ _) _ _ _); ((k_here; (with_reducible show wpAny _ _ (call (Value.ref 52) [Value.float _ _, Value.float _ _, Value.float _ _] _) _ _ _); k_dflt (refine' use_3 (rgb_to_hls _ _ _ _ _ _ _ _ _ _ _ _ ?zqhp) ?zqB ?zqF ?zqX ?zqN ?zqT ?zqhk ?zqhd ?zqhu ?_; (case zqhp => with_reducible assumption); (case zqB => k_asm); (case zqF => k_asm); (case zqX => k_asm); (case zqN => k_asm); (case zqT => k_asm); (case zqhk => first | exact rfl | assumption); (case zqhd => first | exact room (by assumption) (by decide) | exact room0 (by assumption) (by decide) | ktr_room); (case zqhu => first | exact room (by assumption) (by decide) | exact room0 (by assumption) (by decide) | ktr_units); intro d9 t91 t92 t93 h9 tk9 l9 F9 N9; (try k_lt l9); (try dsimp only); (try k_sweep); (try k_fold))))) | ((with_reducible show wpAny _ _ (call (Value.ref _) _ _) _ _ _); ((k_here; (with_reducible show wpAny _ _ (call (Value.ref 73) [Value.float _ _, Value.float _ _, Value.float _ _] _) _ _ _); k_dflt (refine' use_3 (rgb_to_hsv _ _ _ _ _ _ _ _ _ _ _ _ ?zqhp) ?zqB ?zqF ?zqX ?zqN ?zqT ?zqhk ?zqhd ?zqhu ?_; (case zqhp => with_reducible assumption); (case zqB => k_asm); (case zqF => k_asm); (case zqX => k_asm); (case zqN => k_asm); (case zqT => k_asm); (case zqhk => first | exact rfl | assumption); (case zqhd => first | exact room (by assumption) (by decide) | exact room0 (by assumption) (by decide) | ktr_room); (case zqhu => first | exact room (by assumption) (by decide) | exact room0 (by assumption) (by decide) | ktr_units); intro d9 t91 t92 t93 h9 tk9 l9 F9 N9; (try k_lt l9); (try dsimp only); (try k_sweep); (try k_fold))))) | ((with_reducible show wpAny _ _ (call (Value.ref _) _ _) _ _ _); ((k_here; (with_reducible show wpAny _ _ (call (Value.ref 80) [Value.float _ _, Value.float _ _, Value.float _ _] _) _ _ _); k_dflt (refine' use_3 (hsv_to_rgb _ _ _ _ _ _ _ _ _ _ _ _ ?zqhp) ?zqB ?zqF ?zqX ?zqN ?zqT ?zqhk ?zqhd ?zqhu ?_; (case zqhp => with_reducible assumption); (case zqB => k_asm); (case zqF => k_asm); (case zqX => k_asm); (case zqN => k_asm); (case zqT => k_asm); (case zqhk => first | exact rfl | assumption); (case zqhd => first | exact room (by assumption) (by decide) | exact room0 (by assumption) (by decide) | ktr_room); (case zqhu => first | exact room (by assumption) (by decide) | exact room0 (by assumption) (by decide) | ktr_units); intro d9 t91 t92 t93 h9 tk9 l9 F9 N9; (try k_lt l9); (try dsimp only); (try k_sweep); (try k_fold))))) | ((with_reducible show wpAny _ _ (call (Value.ref _) _ _) _ _ _); ((k_here; (with_reducible show wpAny _ _ (call (Value.ref 66) [Value.float _ _, Value.float _ _, Value.float _ _] _) _ _ _); k_dflt (refine' use_val (law_v _ _ _ _ _ _ _ _ _ _ _) ?zqB ?zqF ?zqX ?zqN ?zqT ?zqhk ?zqhd ?zqhu ?_; (case zqB => k_asm); (case zqF => k_asm); (case zqX => k_asm); (case zqN => k_asm); (case zqT => k_asm); (case zqhk => first | exact rfl | assumption); (case zqhd => first | exact room (by assumption) (by decide) | exact room0 (by assumption) (by decide) | ktr_room); (case zqhu => first | exact room (by assumption) (by decide) | exact room0 (by assumption) (by decide) | ktr_units); intro h9 tk9 t9 F9 N9; (try dsimp only); (try k_sweep); (try k_fold))))) | ((with_reducible show wpAny _ _ (call (Value.ref _) _ _) _ _ _); ((k_here; (with_reducible show wpAny _ _ (call (Value.ref 244) [Value.int _ _, Value.str _ _] _) _ _ _); k_dflt (refine' use_val (law_sign _ _ _ _ _ _ _ _ _ ?zqp1 ?zqp2) ?zqB ?zqF ?zqX ?zqN ?zqT ?zqhk ?zqhd ?zqhu ?_; (case zqp1 => first | omega | exact fmod6_lo _ | (simp; done)); (case zqp2 => first | omega | exact fmod6_hi _ | (simp; done)); (case zqB => k_asm); (case zqF => k_asm); (case zqX => k_asm); (case zqN => k_asm); (case zqT => k_asm); (case zqhk => first | exact rfl | assumption); (case zqhd => first | exact room (by assumption) (by decide) | exact room0 (by assumption) (by decide) | ktr_room); (case zqhu => first | exact room (by assumption) (by decide) | exact room0 (by assumption) (by decide) | ktr_units); intro h9 tk9 t9 F9 N9; (try dsimp only); (try k_sweep); (try k_fold))))) | ((with_reducible show wpAny _ _ (subscriptTail _ _ (Value.ref _) _) _ _ _); ((k_here; (with_reducible show wpAny _ _ (subscriptTail _ _ (Value.ref _) (Value.int (Int.fmod _ 3) _)) _ _ _); (with_unfolding_all refine' item_f3 ?zqk1 ?zqk2 ?zqk3 ?_ ?zqk6; (case zqk1 => is_list); (case zqk2 => exact fmod3_lo _); (case zqk3 => exact fmod3_hi _); (case zqk6 => with_unfolding_all rfl); k_whole); intro t9))) | ((with_reducible show wpAny _ _ (storeName _ _ _) _ _ _); ((k_here; k_dflt ((refine' store_let ?zqF ?zqN ?_ ?zqa ?zqb; (case zqF => k_asm); (case zqN => k_asm); (case zqa => rfl); (case zqb => rfl); k_whole; intro m' h' tk' F' N'; (try k_sweep)))))) | walk1 | (dsimp only; walk1) | (leave1; (try dsimp only)) | fail "no step")
    all_goals first
      | (refine' ⟨rfl, _, _, _, rfl, ⟨_, val_pos ?w⟩, ?f, ?n⟩; (case f => assumption); (case w => assumption); (case n => first | assumption | (refine' cb_drop ?n ?s; (case n => assumption); (case s => (intro p hp; repeat (first | with_reducible exact hp | refine List.mem_cons_of_mem _ ?_))))))
      | (refine' ⟨rfl, _, _, _, rfl, ⟨_, val_neg ?w⟩, fr_same ?f ?e, ?n⟩; (case f => assumption); (case e => rfl); (case w => assumption); (case n => first | assumption | (refine' cb_drop ?n ?s; (case n => assumption); (case s => (intro p hp; repeat (first | with_reducible exact hp | refine List.mem_cons_of_mem _ ?_))))))
  intro v hv; obtain ⟨t, rfl⟩ := hv; intro m' h' tk' F' N'
  repeat' (first | ((k_unfold); (try dsimp only)) | (k_end; kc_close) | ((with_reducible show wpAny _ _ (call (Value.ref _) _ _) _ _ _); ((k_here; (with_reducible show wpAny _ _ (call (Value.ref 59) [Value.float _ _, Value.float _ _, Value.float _ _] _) _ _ _); k_dflt (refine' use_3 (hls_at _ _ _ _ _ _ _ _ _ _ _ _ ?zqhp) ?zqB ?zqF ?zqX ?zqN ?zqT ?zqhk ?zqhd ?zqhu ?_; (case zqhp => with_reducible assumption); (case zqB => k_asm); (case zqF => k_asm); (case zqX => k_asm); (case zqN => k_asm); (case zqT => k_asm); (case zqhk => first | exact rfl | assumption); (case zqhd => first | exact room (by assumption) (by decide) | exact room0 (by assumption) (by decide) | ktr_room); (case zqhu => first | exact room (by assumption) (by decide) | exact room0 (by assumption) (by decide) | ktr_units); intro d9 t91 t92 t93 h9 tk9 l9 F9 N9; (try k_lt l9); (try dsimp only); (try k_sweep); (try k_fold))))) | ((with_reducible show wpAny _ _ (call (Value.ref _) _ _) _ _ _); ((k_here; (with_reducible show wpAny _ _ (call (Value.ref 251) [Value.float _ _, Value.float _ _, Value.float _ _, Value.str _ _] _) _ _ _); k_dflt (refine' use_val (law_read _ _ _ _ _ _ _ _ _ _ _ _ _ _ ?zqhp) ?zqB ?zqF ?zqX ?zqN ?zqT ?zqhk ?zqhd ?zqhu ?_; (case zqhp => with_reducible assumption); (case zqB => k_asm); (case zqF => k_asm); (case zqX => k_asm); (case zqN => k_asm); (case zqT => k_asm); (case zqhk => first | exact rfl | assumption); (case zqhd => first | exact room (by assumption) (by decide) | exact room0 (by assumption) (by decide) | ktr_room); (case zqhu => first | exact room (by assumption) (by decide) | exact room0 (by assumption) (by decide) | ktr_units); intro h9 tk9 t9 F9 N9; (try dsimp only); (try k_sweep); (try k_fold))))) | ((with_reducible show wpAny _ _ (execs (_ :: _) _) _ _ _); first | with_reducible ((k_here; (with_reducible show wpAny _ _ (execs (Stmt.If _ _ _ _ :: _) _) _ _ _); refine halt ?_)) | ((k_here; (with_reducible show wpAny _ _ (execs (Stmt.If _ _ _ _ :: _) _) _ _ _); refine halt ?_))) | ((with_reducible show wpAny _ _ (call (Value.ref _) _ _) _ _ _); ((k_here; (with_reducible show wpAny _ _ (call (Value.ref 52) [Value.float _ _, Value.float _ _, Value.float _ _] _) _ _ _); k_dflt (refine' use_3 (rgb_to_hls _ _ _ _ _ _ _ _ _ _ _ _ ?zqhp) ?zqB ?zqF ?zqX ?zqN ?zqT ?zqhk ?zqhd ?zqhu ?_; (case zqhp => with_reducible assumption); (case zqB => k_asm); (case zqF => k_asm); (case zqX => k_asm); (case zqN => k_asm); (case zqT => k_asm); (case zqhk => first | exact rfl | assumption); (case zqhd => first | exact room (by assumption) (by decide) | exact room0 (by assumption) (by decide) | ktr_room); (case zqhu => first | exact room (by assumption) (by decide) | exact room0 (by assumption) (by decide) | ktr_units); intro d9 t91 t92 t93 h9 tk9 l9 F9 N9; (try k_lt l9); (try dsimp only); (try k_sweep); (try k_fold))))) | ((with_reducible show wpAny _ _ (call (Value.ref _) _ _) _ _ _); ((k_here; (with_reducible show wpAny _ _ (call (Value.ref 73) [Value.float _ _, Value.float _ _, Value.float _ _] _) _ _ _); k_dflt (refine' use_3 (rgb_to_hsv _ _ _ _ _ _ _ _ _ _ _ _ ?zqhp) ?zqB ?zqF ?zqX ?zqN ?zqT ?zqhk ?zqhd ?zqhu ?_; (case zqhp => with_reducible assumption); (case zqB => k_asm); (case zqF => k_asm); (case zqX => k_asm); (case zqN => k_asm); (case zqT => k_asm); (case zqhk => first | exact rfl | assumption); (case zqhd => first | exact room (by assumption) (by decide) | exact room0 (by assumption) (by decide) | ktr_room); (case zqhu => first | exact room (by assumption) (by decide) | exact room0 (by assumption) (by decide) | ktr_units); intro d9 t91 t92 t93 h9 tk9 l9 F9 N9; (try k_lt l9); (try dsimp only); (try k_sweep); (try k_fold))))) | ((with_reducible show wpAny _ _ (call (Value.ref _) _ _) _ _ _); ((k_here; (with_reducible show wpAny _ _ (call (Value.ref 80) [Value.float _ _, Value.float _ _, Value.float _ _] _) _ _ _); k_dflt (refine' use_3 (hsv_to_rgb _ _ _ _ _ _ _ _ _ _ _ _ ?zqhp) ?zqB ?zqF ?zqX ?zqN ?zqT ?zqhk ?zqhd ?zqhu ?_; (case zqhp => with_reducible assumption); (case zqB => k_asm); (case zqF => k_asm); (case zqX => k_asm); (case zqN => k_asm); (case zqT => k_asm); (case zqhk => first | exact rfl | assumption); (case zqhd => first | exact room (by assumption) (by decide) | exact room0 (by assumption) (by decide) | ktr_room); (case zqhu => first | exact room (by assumption) (by decide) | exact room0 (by assumption) (by decide) | ktr_units); intro d9 t91 t92 t93 h9 tk9 l9 F9 N9; (try k_lt l9); (try dsimp only); (try k_sweep); (try k_fold))))) | ((with_reducible show wpAny _ _ (call (Value.ref _) _ _) _ _ _); ((k_here; (with_reducible show wpAny _ _ (call (Value.ref 66) [Value.float _ _, Value.float _ _, Value.float _ _] _) _ _ _); k_dflt (refine' use_val (law_v _ _ _ _ _ _ _ _ _ _ _) ?zqB ?zqF ?zqX ?zqN ?zqT ?zqhk ?zqhd ?zqhu ?_; (case zqB => k_asm); (case zqF => k_asm); (case zqX => k_asm); (case zqN => k_asm); (case zqT => k_asm); (case zqhk => first | exact rfl | assumption); (case zqhd => first | exact room (by assumption) (by decide) | exact room0 (by assumption) (by decide) | ktr_room); (case zqhu => first | exact room (by assumption) (by decide) | exact room0 (by assumption) (by decide) | ktr_units); intro h9 tk9 t9 F9 N9; (try dsimp only); (try k_sweep); (try k_fold))))) | ((with_reducible show wpAny _ _ (call (Value.ref _) _ _) _ _ _); ((k_here; (with_reducible show wpAny _ _ (call (Value.ref 244) [Value.int _ _, Value.str _ _] _) _ _ _); k_dflt (refine' use_val (law_sign _ _ _ _ _ _ _ _ _ ?zqp1 ?zqp2) ?zqB ?zqF ?zqX ?zqN ?zqT ?zqhk ?zqhd ?zqhu ?_; (case zqp1 => first | omega | exact fmod6_lo _ | (simp; done)); (case zqp2 => first | omega | exact fmod6_hi _ | (simp; done)); (case zqB => k_asm); (case zqF => k_asm); (case zqX => k_asm); (case zqN => k_asm); (case zqT => k_asm); (case zqhk => first | exact rfl | assumption); (case zqhd => first | exact room (by assumption) (by decide) | exact room0 (by assumption) (by decide) | ktr_room); (case zqhu => first | exact room (by assumption) (by decide) | exact room0 (by assumption) (by decide) | ktr_units); intro h9 tk9 t9 F9 N9; (try dsimp only); (try k_sweep); (try k_fold))))) | ((with_reducible show wpAny _ _ (subscriptTail _ _ (Value.ref _) _) _ _ _); ((k_here; (with_reducible show wpAny _ _ (subscriptTail _ _ (Value.ref _) (Value.int (Int.fmod _ 3) _)) _ _ _); (with_unfolding_all refine' item_f3 ?zqk1 ?zqk2 ?zqk3 ?_ ?zqk6; (case zqk1 => is_list); (case zqk2 => exact fmod3_lo _); (case zqk3 => exact fmod3_hi _); (case zqk6 => with_unfolding_all rfl); k_whole); intro t9))) | ((with_reducible show wpAny _ _ (storeName _ _ _) _ _ _); ((k_here; k_dflt ((refine' store_let ?zqF ?zqN ?_ ?zqa ?zqb; (case zqF => k_asm); (case zqN => k_asm); (case zqa => rfl); (case zqb => rfl); k_whole; intro m' h' tk' F' N'; (try k_sweep)))))) | walk1 | (dsimp only; walk1) | (leave1; (try dsimp only)) | fail "no step")
  unfold Halt
  refine cut_store (Str.ofString "light") news (fun v => ∃ t, v = .float (if kind = 7 then 0 else (if part.fmod 3 = 0 then 4602678819172646912 else if part.fmod 3 = 1 then 4598175219545276416 else 4604930618986332160)) t) (by k_asm) ?_ ?_
  · repeat' (first | ((k_unfold); (try dsimp only)) | (k_end; kc_close) | ((with_reducible show wpAny _ _ (call (Value.ref _) _ _) _ _ _); ((k_here; (with_reducible show wpAny _ _ (call (Value.ref 59) [Value.float _ _, Value.float _ _, Value.float _ _] _) _ _ _); k_dflt (refine' use_3 (hls_at _ _ _ _ _ _ _ _ _ _ _ _ ?zqhp) ?zqB ?zqF ?zqX ?zqN ?zqT ?zqhk ?zqhd ?zqhu ?_; (case zqhp => with_reducible assumption); (case zqB => k_asm); (case zqF => k_asm); (case zqX => k_asm); (case zqN => k_asm); (case zqT => k_asm); (case zqhk => first | exact rfl | assumption); (case zqhd => first | exact room (by assumption) (by decide) | exact room0 (by assumption) (by decide) | ktr_room); (case zqhu => first | exact room (by assumption) (by decide) | exact room0 (by assumption) (by decide) | ktr_units); intro d9 t91 t92 t93 h9 tk9 l9 F9 N9; (try k_lt l9); (try dsimp only); (try k_sweep); (try k_fold))))) | ((with_reducible show wpAny _ _ (call (Value.ref _) _ _) _ _ _); ((k_here; (with_reducible show wpAny _ _ (call (Value.ref 251) [Value.float _ _, Value.float _ _, Value.float _ _, Value.str _ _] _) _ _ _); k_dflt (refine' use_val (law_read _ _ _ _ _ _ _ _ _ _ _ _ _ _ ?zqhp) ?zqB ?zqF ?zqX ?zqN ?zqT ?zqhk ?zqhd ?zqhu ?_; (case zqhp => with_reducible assumption); (case zqB => k_asm); (case zqF => k_asm); (case zqX => k_asm); (case zqN => k_asm); (case zqT => k_asm); (case zqhk => first | exact rfl | assumption); (case zqhd => first | exact room (by assumption) (by decide) | exact room0 (by assumption) (by decide) | ktr_room); (case zqhu => first | exact room (by assumption) (by decide) | exact room0 (by assumption) (by decide) | ktr_units); intro h9 tk9 t9 F9 N9; (try dsimp only); (try k_sweep); (try k_fold))))) | ((with_reducible show wpAny _ _ (execs (_ :: _) _) _ _ _); first | with_reducible ((k_here; (with_reducible show wpAny _ _ (execs (Stmt.If _ _ _ _ :: _) _) _ _ _); refine halt ?_)) | ((k_here; (with_reducible show wpAny _ _ (execs (Stmt.If _ _ _ _ :: _) _) _ _ _); refine halt ?_))) | ((with_reducible show wpAny _ _ (call (Value.ref _) _ _) _ _ _); ((k_here; (with_reducible show wpAny _ _ (call (Value.ref 52) [Value.float _ _, Value.float _ _, Value.float _ _] _) _ _ _); k_dflt (refine' use_3 (rgb_to_hls _ _ _ _ _ _ _ _ _ _ _ _ ?zqhp) ?zqB ?zqF ?zqX ?zqN ?zqT ?zqhk ?zqhd ?zqhu ?_; (case zqhp => with_reducible assumption); (case zqB => k_asm); (case zqF => k_asm); (case zqX => k_asm); (case zqN => k_asm); (case zqT => k_asm); (case zqhk => first | exact rfl | assumption); (case zqhd => first | exact room (by assumption) (by decide) | exact room0 (by assumption) (by decide) | ktr_room); (case zqhu => first | exact room (by assumption) (by decide) | exact room0 (by assumption) (by decide) | ktr_units); intro d9 t91 t92 t93 h9 tk9 l9 F9 N9; (try k_lt l9); (try dsimp only); (try k_sweep); (try k_fold))))) | ((with_reducible show wpAny _ _ (call (Value.ref _) _ _) _ _ _); ((k_here; (with_reducible show wpAny _ _ (call (Value.ref 73) [Value.float _ _, Value.float _ _, Value.float _ _] _) _ _ _); k_dflt (refine' use_3 (rgb_to_hsv _ _ _ _ _ _ _ _ _ _ _ _ ?zqhp) ?zqB ?zqF ?zqX ?zqN ?zqT ?zqhk ?zqhd ?zqhu ?_; (case zqhp => with_reducible assumption); (case zqB => k_asm); (case zqF => k_asm); (case zqX => k_asm); (case zqN => k_asm); (case zqT => k_asm); (case zqhk => first | exact rfl | assumption); (case zqhd => first | exact room (by assumption) (by decide) | exact room0 (by assumption) (by decide) | ktr_room); (case zqhu => first | exact room (by assumption) (by decide) | exact room0 (by assumption) (by decide) | ktr_units); intro d9 t91 t92 t93 h9 tk9 l9 F9 N9; (try k_lt l9); (try dsimp only); (try k_sweep); (try k_fold))))) | ((with_reducible show wpAny _ _ (call (Value.ref _) _ _) _ _ _); ((k_here; (with_reducible show wpAny _ _ (call (Value.ref 80) [Value.float _ _, Value.float _ _, Value.float _ _] _) _ _ _); k_dflt (refine' use_3 (hsv_to_rgb _ _ _ _ _ _ _ _ _ _ _ _ ?zqhp) ?zqB ?zqF ?zqX ?zqN ?zqT ?zqhk ?zqhd ?zqhu ?_; (case zqhp => with_reducible assumption); (case zqB => k_asm); (case zqF => k_asm); (case zqX => k_asm); (case zqN => k_asm); (case zqT => k_asm); (case zqhk => first | exact rfl | assumption); (case zqhd => first | exact room (by assumption) (by decide) | exact room0 (by assumption) (by decide) | ktr_room); (case zqhu => first | exact room (by assumption) (by decide) | exact room0 (by assumption) (by decide) | ktr_units); intro d9 t91 t92 t93 h9 tk9 l9 F9 N9; (try k_lt l9); (try dsimp only); (try k_sweep); (try k_fold))))) | ((with_reducible show wpAny _ _ (call (Value.ref _) _ _) _ _ _); ((k_here; (with_reducible show wpAny _ _ (call (Value.ref 66) [Value.float _ _, Value.float _ _, Value.float _ _] _) _ _ _); k_dflt (refine' use_val (law_v _ _ _ _ _ _ _ _ _ _ _) ?zqB ?zqF ?zqX ?zqN ?zqT ?zqhk ?zqhd ?zqhu ?_; (case zqB => k_asm); (case zqF => k_asm); (case zqX => k_asm); (case zqN => k_asm); (case zqT => k_asm); (case zqhk => first | exact rfl | assumption); (case zqhd => first | exact room (by assumption) (by decide) | exact room0 (by assumption) (by decide) | ktr_room); (case zqhu => first | exact room (by assumption) (by decide) | exact room0 (by assumption) (by decide) | ktr_units); intro h9 tk9 t9 F9 N9; (try dsimp only); (try k_sweep); (try k_fold))))) | ((with_reducible show wpAny _ _ (call (Value.ref _) _ _) _ _ _); ((k_here; (with_reducible show wpAny _ _ (call (Value.ref 244) [Value.int _ _, Value.str _ _] _) _ _ _); k_dflt (refine' use_val (law_sign _ _ _ _ _ _ _ _ _ ?zqp1 ?zqp2) ?zqB ?zqF ?zqX ?zqN ?zqT ?zqhk ?zqhd ?zqhu ?_; (case zqp1 => first | omega | exact fmod6_lo _ | (simp; done)); (case zqp2 => first | omega | exact fmod6_hi _ | (simp; done)); (case zqB => k_asm); (case zqF => k_asm); (case zqX => k_asm); (case zqN => k_asm); (case zqT => k_asm); (case zqhk => first | exact rfl | assumption); (case zqhd => first | exact room (by assumption) (by decide) | exact room0 (by assumption) (by decide) | ktr_room); (case zqhu => first | exact room (by assumption) (by decide) | exact room0 (by assumption) (by decide) | ktr_units); intro h9 tk9 t9 F9 N9; (try dsimp only); (try k_sweep); (try k_fold))))) | ((with_reducible show wpAny _ _ (subscriptTail _ _ (Value.ref _) _) _ _ _); ((k_here; (with_reducible show wpAny _ _ (subscriptTail _ _ (Value.ref _) (Value.int (Int.fmod _ 3) _)) _ _ _); (with_unfolding_all refine' item_f3 ?zqk1 ?zqk2 ?zqk3 ?_ ?zqk6; (case zqk1 => is_list); (case zqk2 => exact fmod3_lo _); (case zqk3 => exact fmod3_hi _); (case zqk6 => with_unfolding_all rfl); k_whole); intro t9))) | ((with_reducible show wpAny _ _ (storeName _ _ _) _ _ _); ((k_here; k_dflt ((refine' store_let ?zqF ?zqN ?_ ?zqa ?zqb; (case zqF => k_asm); (case zqN => k_asm); (case zqa => rfl); (case zqb => rfl); k_whole; intro m' h' tk' F' N'; (try k_sweep)))))) | walk1 | (dsimp only; walk1) | (leave1; (try dsimp only)) | fail "no step")
    all_goals first
      | (refine' ⟨rfl, _, _, _, rfl, ⟨_, val_pos ?w⟩, ?f, ?n⟩; (case f => assumption); (case w => assumption); (case n => first | assumption | (refine' cb_drop ?n ?s; (case n => assumption); (case s => (intro p hp; repeat (first | with_reducible exact hp | refine List.mem_cons_of_mem _ ?_))))))
      | (refine' ⟨rfl, _, _, _, rfl, ⟨_, val_neg ?w⟩, fr_same ?f ?e, ?n⟩; (case f => assumption); (case e => rfl); (case w => assumption); (case n => first | assumption | (refine' cb_drop ?n ?s; (case n => assumption); (case s => (intro p hp; repeat (first | with_reducible exact hp | refine List.mem_cons_of_mem _ ?_))))))
  intro v hv; obtain ⟨t, rfl⟩ := hv; intro m' h' tk' F' N'
  repeat' (first | ((k_unfold); (try dsimp only)) | (k_end; kc_close) | ((with_reducible show wpAny _ _ (call (Value.ref _) _ _) _ _ _); ((k_here; (with_reducible show wpAny _ _ (call (Value.ref 59) [Value.float _ _, Value.float _ _, Value.float _ _] _) _ _ _); k_dflt (refine' use_3 (hls_at _ _ _ _ _ _ _ _ _ _ _ _ ?zqhp) ?zqB ?zqF ?zqX ?zqN ?zqT ?zqhk ?zqhd ?zqhu ?_; (case zqhp => with_reducible assumption); (case zqB => k_asm); (case zqF => k_asm); (case zqX => k_asm); (case zqN => k_asm); (case zqT => k_asm); (case zqhk => first | exact rfl | assumption); (case zqhd => first | exact room (by assumption) (by decide) | exact room0 (by assumption) (by decide) | ktr_room); (case zqhu => first | exact room (by assumption) (by decide) | exact room0 (by assumption) (by decide) | ktr_units); intro d9 t91 t92 t93 h9 tk9 l9 F9 N9; (try k_lt l9); (try dsimp only); (try k_sweep); (try k_fold))))) | ((with_reducible show wpAny _ _ (call (Value.ref _) _ _) _ _ _); ((k_here; (with_reducible show wpAny _ _ (call (Value.ref 251) [Value.float _ _, Value.float _ _, Value.float _ _, Value.str _ _] _) _ _ _); k_dflt (refine' use_val (law_read _ _ _ _ _ _ _ _ _ _ _ _ _ _ ?zqhp) ?zqB ?zqF ?zqX ?zqN ?zqT ?zqhk ?zqhd ?zqhu ?_; (case zqhp => with_reducible assumption); (case zqB => k_asm); (case zqF => k_asm); (case zqX => k_asm); (case zqN => k_asm); (case zqT => k_asm); (case zqhk => first | exact rfl | assumption); (case zqhd => first | exact room (by assumption) (by decide) | exact room0 (by assumption) (by decide) | ktr_room); (case zqhu => first | exact room (by assumption) (by decide) | exact room0 (by assumption) (by decide) | ktr_units); intro h9 tk9 t9 F9 N9; (try dsimp only); (try k_sweep); (try k_fold))))) | ((with_reducible show wpAny _ _ (execs (_ :: _) _) _ _ _); first | with_reducible ((k_here; (with_reducible show wpAny _ _ (execs (Stmt.If _ _ _ _ :: _) _) _ _ _); refine halt ?_)) | ((k_here; (with_reducible show wpAny _ _ (execs (Stmt.If _ _ _ _ :: _) _) _ _ _); refine halt ?_))) | ((with_reducible show wpAny _ _ (call (Value.ref _) _ _) _ _ _); ((k_here; (with_reducible show wpAny _ _ (call (Value.ref 52) [Value.float _ _, Value.float _ _, Value.float _ _] _) _ _ _); k_dflt (refine' use_3 (rgb_to_hls _ _ _ _ _ _ _ _ _ _ _ _ ?zqhp) ?zqB ?zqF ?zqX ?zqN ?zqT ?zqhk ?zqhd ?zqhu ?_; (case zqhp => with_reducible assumption); (case zqB => k_asm); (case zqF => k_asm); (case zqX => k_asm); (case zqN => k_asm); (case zqT => k_asm); (case zqhk => first | exact rfl | assumption); (case zqhd => first | exact room (by assumption) (by decide) | exact room0 (by assumption) (by decide) | ktr_room); (case zqhu => first | exact room (by assumption) (by decide) | exact room0 (by assumption) (by decide) | ktr_units); intro d9 t91 t92 t93 h9 tk9 l9 F9 N9; (try k_lt l9); (try dsimp only); (try k_sweep); (try k_fold))))) | ((with_reducible show wpAny _ _ (call (Value.ref _) _ _) _ _ _); ((k_here; (with_reducible show wpAny _ _ (call (Value.ref 73) [Value.float _ _, Value.float _ _, Value.float _ _] _) _ _ _); k_dflt (refine' use_3 (rgb_to_hsv _ _ _ _ _ _ _ _ _ _ _ _ ?zqhp) ?zqB ?zqF ?zqX ?zqN ?zqT ?zqhk ?zqhd ?zqhu ?_; (case zqhp => with_reducible assumption); (case zqB => k_asm); (case zqF => k_asm); (case zqX => k_asm); (case zqN => k_asm); (case zqT => k_asm); (case zqhk => first | exact rfl | assumption); (case zqhd => first | exact room (by assumption) (by decide) | exact room0 (by assumption) (by decide) | ktr_room); (case zqhu => first | exact room (by assumption) (by decide) | exact room0 (by assumption) (by decide) | ktr_units); intro d9 t91 t92 t93 h9 tk9 l9 F9 N9; (try k_lt l9); (try dsimp only); (try k_sweep); (try k_fold))))) | ((with_reducible show wpAny _ _ (call (Value.ref _) _ _) _ _ _); ((k_here; (with_reducible show wpAny _ _ (call (Value.ref 80) [Value.float _ _, Value.float _ _, Value.float _ _] _) _ _ _); k_dflt (refine' use_3 (hsv_to_rgb _ _ _ _ _ _ _ _ _ _ _ _ ?zqhp) ?zqB ?zqF ?zqX ?zqN ?zqT ?zqhk ?zqhd ?zqhu ?_; (case zqhp => with_reducible assumption); (case zqB => k_asm); (case zqF => k_asm); (case zqX => k_asm); (case zqN => k_asm); (case zqT => k_asm); (case zqhk => first | exact rfl | assumption); (case zqhd => first | exact room (by assumption) (by decide) | exact room0 (by assumption) (by decide) | ktr_room); (case zqhu => first | exact room (by assumption) (by decide) | exact room0 (by assumption) (by decide) | ktr_units); intro d9 t91 t92 t93 h9 tk9 l9 F9 N9; (try k_lt l9); (try dsimp only); (try k_sweep); (try k_fold))))) | ((with_reducible show wpAny _ _ (call (Value.ref _) _ _) _ _ _); ((k_here; (with_reducible show wpAny _ _ (call (Value.ref 66) [Value.float _ _, Value.float _ _, Value.float _ _] _) _ _ _); k_dflt (refine' use_val (law_v _ _ _ _ _ _ _ _ _ _ _) ?zqB ?zqF ?zqX ?zqN ?zqT ?zqhk ?zqhd ?zqhu ?_; (case zqB => k_asm); (case zqF => k_asm); (case zqX => k_asm); (case zqN => k_asm); (case zqT => k_asm); (case zqhk => first | exact rfl | assumption); (case zqhd => first | exact room (by assumption) (by decide) | exact room0 (by assumption) (by decide) | ktr_room); (case zqhu => first | exact room (by assumption) (by decide) | exact room0 (by assumption) (by decide) | ktr_units); intro h9 tk9 t9 F9 N9; (try dsimp only); (try k_sweep); (try k_fold))))) | ((with_reducible show wpAny _ _ (call (Value.ref _) _ _) _ _ _); ((k_here; (with_reducible show wpAny _ _ (call (Value.ref 244) [Value.int _ _, Value.str _ _] _) _ _ _); k_dflt (refine' use_val (law_sign _ _ _ _ _ _ _ _ _ ?zqp1 ?zqp2) ?zqB ?zqF ?zqX ?zqN ?zqT ?zqhk ?zqhd ?zqhu ?_; (case zqp1 => first | omega | exact fmod6_lo _ | (simp; done)); (case zqp2 => first | omega | exact fmod6_hi _ | (simp; done)); (case zqB => k_asm); (case zqF => k_asm); (case zqX => k_asm); (case zqN => k_asm); (case zqT => k_asm); (case zqhk => first | exact rfl | assumption); (case zqhd => first | exact room (by assumption) (by decide) | exact room0 (by assumption) (by decide) | ktr_room); (case zqhu => first | exact room (by assumption) (by decide) | exact room0 (by assumption) (by decide) | ktr_units); intro h9 tk9 t9 F9 N9; (try dsimp only); (try k_sweep); (try k_fold))))) | ((with_reducible show wpAny _ _ (subscriptTail _ _ (Value.ref _) _) _ _ _); ((k_here; (with_reducible show wpAny _ _ (subscriptTail _ _ (Value.ref _) (Value.int (Int.fmod _ 3) _)) _ _ _); (with_unfolding_all refine' item_f3 ?zqk1 ?zqk2 ?zqk3 ?_ ?zqk6; (case zqk1 => is_list); (case zqk2 => exact fmod3_lo _); (case zqk3 => exact fmod3_hi _); (case zqk6 => with_unfolding_all rfl); k_whole); intro t9))) | ((with_reducible show wpAny _ _ (storeName _ _ _) _ _ _); ((k_here; k_dflt ((refine' store_let ?zqF ?zqN ?_ ?zqa ?zqb; (case zqF => k_asm); (case zqN => k_asm); (case zqa => rfl); (case zqb => rfl); k_whole; intro m' h' tk' F' N'; (try k_sweep)))))) | walk1 | (dsimp only; walk1) | (leave1; (try dsimp only)) | fail "no step")
  all_goals first | exact hret _ _ _ _ ⟨rfl, _, rfl⟩ (by assumption) (by refine' cb_drop ?n ?s; (case n => assumption); (case s => (intro p hp; repeat (first | with_reducible exact hp | refine List.mem_cons_of_mem _ ?_)))) | (exfalso; omega)
end
end Mine
end PartF3
section PartS1
open PySem PySem.W PyProof.Rows
namespace Mine
theorem offS1 : True := by w_top off; trivial
theorem plainAttrs_re : PlainAttrs "re.Pattern" :=
  ⟨⟨"object.__getattribute__", by rw [typeLookup_type, builtinLookup_eq_fast]; kernel_rfl, by decide +kernel⟩, by rw [typeLookup_type, builtinLookup_eq_fast]; kernel_rfl⟩
theorem slot_re_search : Slot "re.Pattern" "search" "re.Pattern.search" :=
  .of (owner := "re.Pattern") (n := "search") (by rw [typeLookup_type, builtinLookup_eq_fast]; kernel_rfl) (by decide +kernel) (by decide +kernel) (by decide +kernel)
    (by first | exact .inl (by decide +kernel) | exact .inr (by decide +kernel)) (by rw [isSubtype_type]; kernel_rfl)
theorem type_re_search : typeOf (.builtin "re.Pattern.search") = pure (.type "method_descriptor") := by show builtinType _ = _; rw [builtinType_eq_fast]; kernel_rfl
theorem entry_re_search : entryFor table "re.Pattern.search" = some Builtin.«re.Pattern.search» := entryFor_of_tree (by kernel_rfl)
theorem args_re_search (a b : Value) : argsOk "re.Pattern.search" ⟨[a, b], []⟩ := by unfold argsOk; kernel_rfl

section
variable {prog : Program} {w : World} {A : Around} {E : Value → Shared → Prop} {s : Shared}
theorem re_method {K : Frag} {h₀ : Heap} {L : Addr} {m : Str → Option Value} {a : Addr} {vs : Array Value} {pl : Sem Bool} {Q : Value × List Value → Shared → Prop} (F : Fr h₀ L s.heap m) (X₀ : K.In h₀)
    (hl : K.lookup a = some ⟨.type "re.Pattern", none, .fields vs, #[]⟩) (h : Q (.builtin "re.Pattern.search", [.ref a]) s) :
    wpAny (model prog w) A (getMethod (.ref a) "search" pl) Q E s :=
  getMethod_builtin ⟨_, (X₀.keeps F.keep) _ _ hl, rfl⟩ plainAttrs_re slot_re_search type_re_search (fun b e => by cases e; exact ⟨_, (X₀.keeps F.keep) _ _ hl, rfl⟩) h
end

/-! the machine -/
open PySem.Sre PySem.Builtin.Re in
theorem reDrive_succ (n : Nat) (m : Sre.M) : reDrive (n + 1) m = (if (m.runFor reTurnSteps).outcome.isSome then pure (m.runFor reTurnSteps) else do rule "sre.turn"; reDrive n (m.runFor reTurnSteps)) := rfl
theorem two64 : (2 ^ 64 : Nat) = (2 ^ 64 - 1) + 1 := by decide
section
variable {M : Model} {A : Around} {E : Value → Shared → Prop} {s : Shared}
open PySem.Sre PySem.Builtin.Re
theorem wpAny_rules (c : Nat → Bool) (t : Nat → String) {Q : PUnit → Shared → Prop} (h : Q ⟨⟩ s) : ∀ l : List Nat,
    wpAny M A (forIn l PUnit.unit fun i _ => do if c i = true then do rule (t i); pure (ForInStep.yield PUnit.unit) else pure (ForInStep.yield PUnit.unit)) Q E s
  | [] => by rw [List.forIn_nil]; exact wpAny_pure h
  | i :: l => by
    rw [List.forIn_cons]
    refine wpAny_bind ?_
    split
    · exact wpAny_bind (wpAny_rule (wpAny_pure (wpAny_rules c t h l)))
    · exact wpAny_pure (wpAny_rules c t h l)
theorem runToEnd_of {m : Sre.M} {Q : Option Sre.M → Shared → Prop} (hs : (m.runFor reTurnSteps).outcome = some .failed) (h : Q none s) : wpAny M A (reRunToEnd m) Q E s := by
  unfold reRunToEnd
  rw [two64, reDrive_succ, if_pos (by rw [hs]; rfl)]
  refine wpAny_bind (wpAny_pure ?_)
  refine wpAny_bind (wpAny_rules _ _ ?_ _)
  rw [hs]
  exact wpAny_pure h
theorem runToEnd_yes {m : Sre.M} {Q : Option Sre.M → Shared → Prop} (hs : (m.runFor reTurnSteps).outcome = some .matched) (h : Q (some (m.runFor reTurnSteps)) s) : wpAny M A (reRunToEnd m) Q E s := by
  unfold reRunToEnd
  rw [two64, reDrive_succ, if_pos (by rw [hs]; rfl)]
  refine wpAny_bind (wpAny_pure ?_)
  refine wpAny_bind (wpAny_rules _ _ ?_ _)
  rw [hs]
  exact wpAny_pure h
end

/-! the two sets -/
open PySem.Sre
noncomputable def nameCode : Array Nat := #[14, 10, 4, 1, 1, 22, 0, 31, 16, 127, 0, 13, 7, 22, 0, 31, 16, 127, 0, 1]
noncomputable def valCode : Array Nat := #[14, 14, 4, 1, 1, 9, 4294966783, 0, 0, 2147483648, 0, 0, 0, 0, 0, 13, 11, 9, 4294966783, 0, 0, 2147483648, 0, 0, 0, 0, 0, 1]
noncomputable def nameBad (c : Nat) : Bool := c ≤ 31 || c == 127
noncomputable def valBad (c : Nat) : Bool := c < 256 && ((#[4294966783, 0, 0, 2147483648, 0, 0, 0, 0] : Array Nat).getD (c / 32) 0).testBit (c % 32)
theorem name_set (c : Nat) (seen : Sre.Seen) : ∃ seen', inSet nameCode c nameCode.size 5 true seen = .ok (nameBad c, seen') := by
  have e1 : inSet nameCode c nameCode.size 5 true seen = (if (decide (0 ≤ c) && decide (c ≤ 31)) = true then .ok (true, seen.add 22) else inSet nameCode c 19 8 true (seen.add 22)) := rfl
  have e2 : inSet nameCode c 19 8 true (seen.add 22) = (if (c == 127) = true then .ok (true, (seen.add 22).add 16) else inSet nameCode c 18 10 true ((seen.add 22).add 16)) := rfl
  have e3 : inSet nameCode c 18 10 true ((seen.add 22).add 16) = .ok (false, ((seen.add 22).add 16).add 0) := rfl
  rw [e1, e2, e3]
  unfold nameBad
  by_cases h1 : c ≤ 31
  · exact ⟨seen.add 22, by simp [h1]⟩
  · by_cases h2 : c = 127
    · exact ⟨(seen.add 22).add 16, by simp [h2]⟩
    · exact ⟨((seen.add 22).add 16).add 0, by simp [h1, h2]⟩
theorem val_get (c : Nat) (h : c < 256) : valCode.getD (5 + (1 + c / 32)) 0 = (#[4294966783, 0, 0, 2147483648, 0, 0, 0, 0] : Array Nat).getD (c / 32) 0 := by
  have : c / 32 < 8 := by omega
  generalize c / 32 = k at this
  match k, this with
  | 0, _ => rfl
  | 1, _ => rfl
  | 2, _ => rfl
  | 3, _ => rfl
  | 4, _ => rfl
  | 5, _ => rfl
  | 6, _ => rfl
  | 7, _ => rfl
  | n + 8, h => omega
theorem val_set (c : Nat) (seen : Sre.Seen) : ∃ seen', inSet valCode c valCode.size 5 true seen = .ok (valBad c, seen') := by
  have e1 : inSet valCode c valCode.size 5 true seen = (if (decide (c < 256) && (valCode.getD (5 + (1 + c / 32)) 0).testBit (c % 32)) = true then .ok (true, seen.add 9) else inSet valCode c 27 14 true (seen.add 9)) := rfl
  have e2 : inSet valCode c 27 14 true (seen.add 9) = .ok (false, (seen.add 9).add 0) := rfl
  rw [e1, e2]
  unfold valBad
  by_cases h : c < 256
  · rw [val_get c h]
    split
    · exact ⟨seen.add 9, by simp_all⟩
    · exact ⟨(seen.add 9).add 0, by simp_all⟩
  · exact ⟨(seen.add 9).add 0, by simp [h]⟩
theorem val_get2 (c : Nat) (h : c < 256) : valCode.getD (17 + (1 + c / 32)) 0 = (#[4294966783, 0, 0, 2147483648, 0, 0, 0, 0] : Array Nat).getD (c / 32) 0 := by
  have : c / 32 < 8 := by omega
  generalize c / 32 = k at this
  match k, this with
  | 0, _ => rfl
  | 1, _ => rfl
  | 2, _ => rfl
  | 3, _ => rfl
  | 4, _ => rfl
  | 5, _ => rfl
  | 6, _ => rfl
  | 7, _ => rfl
  | n + 8, h => omega
theorem val_set2 (c : Nat) (seen : Sre.Seen) : ∃ seen', inSet valCode c valCode.size 17 true seen = .ok (valBad c, seen') := by
  have e1 : inSet valCode c valCode.size 17 true seen = (if (decide (c < 256) && (valCode.getD (17 + (1 + c / 32)) 0).testBit (c % 32)) = true then .ok (true, seen.add 9) else inSet valCode c 27 26 true (seen.add 9)) := rfl
  have e2 : inSet valCode c 27 26 true (seen.add 9) = .ok (false, (seen.add 9).add 0) := rfl
  rw [e1, e2]
  unfold valBad
  by_cases h : c < 256
  · rw [val_get2 c h]
    split
    · exact ⟨seen.add 9, by simp_all⟩
    · exact ⟨(seen.add 9).add 0, by simp_all⟩
  · exact ⟨(seen.add 9).add 0, by simp [h]⟩
theorem admitted_none {m : Sre.M} {B : Nat → Bool} (hB : ∀ c seen, ∃ seen', inSet m.code c m.code.size 5 true seen = .ok (B c, seen')) (h : ∀ i, i < m.lim → B (m.text.getD i 0) = false) :
    ∀ (fuel s : Nat) (seen : Sre.Seen), ∃ seen', M.admitted m fuel s seen = .ok (none, seen')
  | 0, _, seen => ⟨seen, rfl⟩
  | fuel + 1, s, seen => by
    unfold M.admitted
    by_cases hs : s ≥ m.lim
    · exact ⟨seen, by rw [if_pos hs]⟩
    · rw [if_neg hs]
      obtain ⟨seen', e⟩ := hB (m.text.getD s 0) seen
      rw [h s (by omega)] at e
      rw [e]
      exact admitted_none hB h fuel (s + 1) seen'
theorem admitted_some {m : Sre.M} {B : Nat → Bool} (hB : ∀ c seen, ∃ seen', inSet m.code c m.code.size 5 true seen = .ok (B c, seen')) :
    ∀ (fuel s : Nat) (seen : Sre.Seen), (∃ i, s ≤ i ∧ i < m.lim ∧ B (m.text.getD i 0) = true) → m.lim + 1 ≤ s + fuel → ∃ i seen', M.admitted m fuel s seen = .ok (some i, seen') ∧ i < m.lim ∧ B (m.text.getD i 0) = true
  | 0, s, seen, ⟨i, h1, h2, _⟩, hf => by omega
  | fuel + 1, s, seen, ⟨i, h1, h2, h3⟩, hf => by
    unfold M.admitted
    rw [if_neg (by omega)]
    obtain ⟨seen', e⟩ := hB (m.text.getD s 0) seen
    rw [e]
    cases hb : B (m.text.getD s 0) with
    | true => exact ⟨s, seen', rfl, by omega, hb⟩
    | false =>
      refine admitted_some hB fuel (s + 1) seen' ⟨i, ?_, h2, h3⟩ (by omega)
      have : s ≠ i := fun q => by subst q; rw [hb] at h3; cases h3
      omega
/-- the machine as «forSearch» sets it up -/
noncomputable def mach (code text : Array Nat) (pc : Nat) : Sre.M := { code, text, lim := text.size, start := 0, pc, pos := 0, handed := 0, marks := #[], mustAdvance := false, seen := ({} : Sre.Seen).add 14, lastStart := text.size }
theorem hdr_name : header nameCode = (1, 11) := by decide +kernel
theorem hdr_val : header valCode = (1, 15) := by decide +kernel
theorem hint_name : (nameCode.getD 2 0 &&& 5 != 0) = true := by decide +kernel
theorem hint_val : (valCode.getD 2 0 &&& 5 != 0) = true := by decide +kernel
theorem cond_pos {n : Nat} (h : 0 < n) : (decide (0 > n) || decide (n - 0 < 1)) = false := by
  have h1 : ¬ (0 > n) := by omega
  have h2 : ¬ (n - 0 < 1) := by omega
  rw [decide_eq_false h1, decide_eq_false h2]; rfl
theorem cond_zero {n : Nat} (h : ¬ 0 < n) : (decide (0 > n) || decide (n - 0 < 1)) = true := by
  have h2 : (n - 0 < 1) := by omega
  rw [decide_eq_true h2, Bool.or_true]
theorem fs_name (text : Array Nat) : forSearch nameCode text 0 0 text.size false = (if (decide (0 > text.size) || decide (text.size - 0 < 1)) = true then ({ mach nameCode text 11 with lastStart := 0 } : Sre.M).say false else (mach nameCode text 11).attemptFrom 0 true) := by
  unfold forSearch
  rw [hdr_name]
  rfl
theorem fs_val (text : Array Nat) : forSearch valCode text 0 0 text.size false = (if (decide (0 > text.size) || decide (text.size - 0 < 1)) = true then ({ mach valCode text 15 with lastStart := 0 } : Sre.M).say false else (mach valCode text 15).attemptFrom 0 true) := by
  unfold forSearch
  rw [hdr_val]
  rfl
theorem search_name (text : Array Nat) (h : 0 < text.size) : forSearch nameCode text 0 0 text.size false = (mach nameCode text 11).attemptFrom 0 true := by
  rw [fs_name, cond_pos h]; rfl
theorem search_val (text : Array Nat) (h : 0 < text.size) : forSearch valCode text 0 0 text.size false = (mach valCode text 15).attemptFrom 0 true := by
  rw [fs_val, cond_pos h]; rfl
theorem none_name (text : Array Nat) (hc : ∀ i, i < text.size → nameBad (text.getD i 0) = false) : ((forSearch nameCode text 0 0 text.size false).runFor 4).outcome = some .failed := by
  by_cases h : 0 < text.size
  · rw [search_name text h]
    obtain ⟨seen', e⟩ := admitted_none (m := mach nameCode text 11) name_set hc (text.size + 1 - 0) 0 (({} : Sre.Seen).add 14)
    have e2 : (mach nameCode text 11).attemptFrom 0 true = (match M.admitted (mach nameCode text 11) (text.size + 1 - 0) 0 (({} : Sre.Seen).add 14) with
      | .ok (some s, seen) => ({ mach nameCode text 11 with mustAdvance := false, seen } : Sre.M).attemptAt s true
      | .ok (none, seen) => ({ mach nameCode text 11 with seen } : Sre.M).say false
      | .error why => (mach nameCode text 11).stick why) := rfl
    rw [e2, e]
    rfl
  · rw [fs_name, cond_zero h]; rfl
theorem none_val (text : Array Nat) (hc : ∀ i, i < text.size → valBad (text.getD i 0) = false) : ((forSearch valCode text 0 0 text.size false).runFor 4).outcome = some .failed := by
  by_cases h : 0 < text.size
  · rw [search_val text h]
    obtain ⟨seen', e⟩ := admitted_none (m := mach valCode text 15) val_set hc (text.size + 1 - 0) 0 (({} : Sre.Seen).add 14)
    have e2 : (mach valCode text 15).attemptFrom 0 true = (match M.admitted (mach valCode text 15) (text.size + 1 - 0) 0 (({} : Sre.Seen).add 14) with
      | .ok (some s, seen) => ({ mach valCode text 15 with mustAdvance := false, seen } : Sre.M).attemptAt s true
      | .ok (none, seen) => ({ mach valCode text 15 with seen } : Sre.M).say false
      | .error why => (mach valCode text 15).stick why) := rfl
    rw [e2, e]
    rfl
  · rw [fs_val, cond_zero h]; rfl
theorem some_val (text : Array Nat) (hc : ∃ i, i < text.size ∧ valBad (text.getD i 0) = true) : ((forSearch valCode text 0 0 text.size false).runFor 4).outcome = some .matched := by
  obtain ⟨i, hi, hb⟩ := hc
  rw [search_val text (by omega)]
  obtain ⟨j, seen', e, hj, hbj⟩ := admitted_some (m := mach valCode text 15) val_set (text.size + 1 - 0) 0 (({} : Sre.Seen).add 14) ⟨i, Nat.zero_le _, hi, hb⟩ (by show text.size + 1 ≤ 0 + (text.size + 1 - 0); omega)
  have e2 : (mach valCode text 15).attemptFrom 0 true = (match M.admitted (mach valCode text 15) (text.size + 1 - 0) 0 (({} : Sre.Seen).add 14) with
      | .ok (some s, seen) => ({ mach valCode text 15 with mustAdvance := false, seen } : Sre.M).attemptAt s true
      | .ok (none, seen) => ({ mach valCode text 15 with seen } : Sre.M).say false
      | .error why => (mach valCode text 15).stick why) := rfl
  rw [e2, e]
  obtain ⟨seen2, e3⟩ := val_set2 (text.getD j 0) (seen'.add 13)
  rw [show valBad (text.getD j 0) = true from hbj] at e3
  have hj' : ¬ (j ≥ text.size) := by have : j < text.size := hj; omega
  show ((({ mach valCode text 15 with mustAdvance := false, seen := seen' } : Sre.M).attemptAt j true).runFor 4).outcome = _
  have s1 : (({ mach valCode text 15 with mustAdvance := false, seen := seen' } : Sre.M).attemptAt j true).step = (if j ≥ text.size then _ else match inSet valCode (text.getD j 0) valCode.size 17 true (seen'.add 13) with
      | .error why => _
      | .ok (false, seen) => _
      | .ok (true, seen) => ({ mach valCode text 15 with mustAdvance := false, start := j, seen, frames := [{ wait := .nextStart, pc := 15, pos := j, outermost := true }], weight := 1, pc := 27, pos := j + 1, handed := j } : Sre.M)) := rfl
  rw [if_neg hj', e3] at s1
  show (M.runFor 3 ((({ mach valCode text 15 with mustAdvance := false, seen := seen' } : Sre.M).attemptAt j true).step)).outcome = _
  rw [s1]
  rfl

section
variable {prog : Program} {w : World} {A : Around} {E : Value → Shared → Prop} {s : Shared}
open PySem.Sre PySem.Builtin.Re
noncomputable abbrev reObj (f0 f1 f3 f4 : Value) (c : Addr) : Obj := ⟨.type "re.Pattern", none, .fields #[f0, f1, .int 0 0, f3, f4, .ref c, .int 0 0], #[]⟩
theorem re_target {a c : Addr} {f0 f1 f3 f4 : Value} {items : Array Value} {n : Nat} {oc : Obj} {t : Str} {tk : Tok} {Q : ReTarget → Shared → Prop} (ha : s.heap.get? a = some (reObj f0 f1 f3 f4 c)) (hc : s.heap.get? c = some oc) (hd : oc.data = .seq items n)
    (hz : t.cps.size < 2 ^ 63)
    (h : Q { pattern := .ref a, string := .str t tk, code := (items.map reRawOf).map (·.toNat), text := t.cps, kind := 0, groups := 0, pos := 0, lim := t.cps.size } s) :
    wpAny (model prog w) A (reTarget "re.Pattern.search" "search" ⟨[.ref a, .str t tk], []⟩) Q E s := by
  show wpAny _ A (reNamed "re.Pattern.search" "search" ["string", "pos", "endpos"] 1 [.str t tk] [] >>= _) _ _ s
  refine wpAny_bind (wpAny_of_eq (show reNamed "re.Pattern.search" "search" ["string", "pos", "endpos"] 1 [.str t tk] [] = pure [some (.str t tk), none, none] from rfl) ?_)
  refine wpAny_bind (wpAny_pure ?_)
  refine wpAny_bind (wpAny_pure ?_)
  refine wpAny_bind (wpAny_fieldsOf ha rfl ?_)
  show wpAny _ A (reTextOf (.str t tk) >>= _) _ _ s
  refine wpAny_bind (wpAny_of_eq (show reTextOf (.str t tk) = pure (t.cps, 0) from rfl) ?_)
  dsimp only
  refine wpAny_bind (wpAny_pure ?_)
  refine wpAny_bind ?_
  show wpAny _ A (seqItems? (.ref c) >>= _) _ _ s
  refine wpAny_bind (wpAny_seqItems hc hd (wpAny_pure (wpAny_pure ?_)))
  have e : min ((2 ^ 63 - 1 : Int)).toNat t.cps.size = t.cps.size := by
    have : ((2 ^ 63 - 1 : Int)).toNat = 2 ^ 63 - 1 := by decide
    omega
  have e2 : min (Int.toNat 0) t.cps.size = 0 := by simp
  rw [e, e2]
  exact h
theorem re_none {a c : Addr} {f0 f1 f3 f4 : Value} {items : Array Value} {n : Nat} {oc : Obj} {t : Str} {tk : Tok} {Q : Value → Shared → Prop} (ha : s.heap.get? a = some (reObj f0 f1 f3 f4 c)) (hc : s.heap.get? c = some oc) (hd : oc.data = .seq items n)
    (hz : t.cps.size < 2 ^ 63) (hm : ((forSearch ((items.map reRawOf).map (·.toNat)) t.cps 0 0 t.cps.size false).runFor 4).outcome = some .failed) (h : Q .none s) :
    wpAny (model prog w) A (call (.builtin "re.Pattern.search") [.ref a, .str t tk]) Q E s := by
  refine wpAny_call (codeAny_call_builtin slot_re_search.plain entry_re_search (slot_re_search.check _ _ _ _ _ _ _ _ ⟨_, ha, rfl⟩ (args_re_search _ _) ?_))
  show wpAny _ A.in1 (reTarget "re.Pattern.search" "search" ⟨[.ref a, .str t tk], []⟩ >>= _) _ _ s
  refine wpAny_bind (re_target ha hc hd hz ?_)
  show wpAny _ A.in1 (reRunToEnd _ >>= _) _ _ s
  refine wpAny_bind (runToEnd_of hm ?_)
  exact wpAny_pure h
theorem re_some {a c : Addr} {f0 f1 f3 f4 : Value} {items : Array Value} {n : Nat} {oc : Obj} {t : Str} {tk : Tok} {Q : Value → Shared → Prop} {h₀ : Heap} {L : Addr} {m : Str → Option Value} {news : List (Addr × Obj)} (F : Fr h₀ L s.heap m) (N : News h₀ L s.heap news)
    (ha : s.heap.get? a = some (reObj f0 f1 f3 f4 c)) (hc : s.heap.get? c = some oc) (hd : oc.data = .seq items n)
    (hz : t.cps.size < 2 ^ 63) (hm : ((forSearch ((items.map reRawOf).map (·.toNat)) t.cps 0 0 t.cps.size false).runFor 4).outcome = some .matched)
    (h : ∀ D h' vs, Fr h₀ L h' m → News h₀ L h' ((D, (⟨.type "re.Match", none, .fields vs, #[]⟩ : Obj)) :: news) → (∀ p ∈ news, p.1 < D) → Q (.ref D) { s with heap := h' }) :
    wpAny (model prog w) A (call (.builtin "re.Pattern.search") [.ref a, .str t tk]) Q E s := by
  refine wpAny_call (codeAny_call_builtin slot_re_search.plain entry_re_search (slot_re_search.check _ _ _ _ _ _ _ _ ⟨_, ha, rfl⟩ (args_re_search _ _) ?_))
  show wpAny _ A.in1 (reTarget "re.Pattern.search" "search" ⟨[.ref a, .str t tk], []⟩ >>= _) _ _ s
  refine wpAny_bind (re_target ha hc hd hz ?_)
  show wpAny _ A.in1 (reRunToEnd _ >>= _) _ _ s
  refine wpAny_bind (runToEnd_yes hm ?_)
  show wpAny _ A.in1 (reNewMatch _ _ 0 _ _ _ >>= _) _ _ s
  refine wpAny_bind ?_
  show wpAny _ A.in1 (newTuple _ >>= _) _ _ s
  refine wpAny_bind (newTuple_N F N (fun h1 F1 N1 => ?_) (by show 2 ≤ sizeLine; decide))
  show wpAny _ A.in1 (newObj _ _) _ _ _
  refine wpAny_newObj_type ?_
  · exact wpAny_pure (h _ _ _ (F1.push _) (fun p hp => N1.push F1 _ rfl p (by rcases List.mem_cons.mp hp with rfl | hp; exact .head _; exact .tail _ (.tail _ hp))) fun p hp => Heap.lt_size (N1 p (.tail _ hp)).1)
end
end Mine
end PartS1
section PartS2
open PySem PySem.W PyProof.Rows
namespace Mine
theorem offS2 : True := by w_top off; trivial
noncomputable def valItems : Array Value := #[.int 14 0, .int 14 0, .int 4 0, .int 1 0, .int 1 0, .int 9 0, .int 4294966783 0, .int 0 0, .int 0 0, .int 2147483648 0, .int 0 0, .int 0 0, .int 0 0, .int 0 0, .int 0 0, .int 13 0, .int 11 0, .int 9 0, .int 4294966783 0, .int 0 0, .int 0 0, .int 2147483648 0, .int 0 0, .int 0 0, .int 0 0, .int 0 0, .int 0 0, .int 1 0]
noncomputable def nameItems : Array Value := #[.int 14 0, .int 10 0, .int 4 0, .int 1 0, .int 1 0, .int 22 0, .int 0 0, .int 31 0, .int 16 0, .int 127 0, .int 0 0, .int 13 0, .int 7 0, .int 22 0, .int 0 0, .int 31 0, .int 16 0, .int 127 0, .int 0 0, .int 1 0]
theorem look95 (P : Params) : ∃ f0 f1, (Mine.hd.heap_1 P).lookup 95 = some (reObj f0 f1 .none .none 94) := ⟨_, _, by k_is⟩
theorem look90 (P : Params) : ∃ f0 f1, (Mine.hd.heap_1 P).lookup 90 = some (reObj f0 f1 .none .none 89) := ⟨_, _, by k_is⟩
theorem look94 (P : Params) : (Mine.hd.heap_1 P).lookup 94 = some ⟨.type "tuple", none, .seq valItems 0, #[]⟩ := by unfold valItems; k_is
theorem look89 (P : Params) : (Mine.hd.heap_1 P).lookup 89 = some ⟨.type "tuple", none, .seq nameItems 0, #[]⟩ := by unfold nameItems; k_is
theorem val_code : (valItems.map Builtin.Re.reRawOf).map (·.toNat) = valCode := by decide +kernel
theorem name_code : (nameItems.map Builtin.Re.reRawOf).map (·.toNat) = nameCode := by decide +kernel
/-- no sign that a header's value may not hold -/
noncomputable def cleanV (t : Str) : Prop := ∀ i, i < t.cps.size → valBad (t.cps.getD i 0) = false
noncomputable def dirtyV (t : Str) : Prop := ∃ i, i < t.cps.size ∧ valBad (t.cps.getD i 0) = true
noncomputable def cleanN (t : Str) : Prop := ∀ i, i < t.cps.size → nameBad (t.cps.getD i 0) = false
section
variable {prog : Program} {w : World} {A : Around} {E : Value → Shared → Prop} {s : Shared} {h₀ : Heap} {L : Addr} {m : Str → Option Value} {news : List (Addr × Obj)} {t : Str} {tk : Tok} {Q : Value → Shared → Prop}
theorem method95 {pl : Sem Bool} {Q : Value × List Value → Shared → Prop} (F : Fr h₀ L s.heap m) (X : (Mine.hd.heap_1 w.params).In h₀) (h : Q (.builtin "re.Pattern.search", [.ref 95]) s) :
    wpAny (model prog w) A (getMethod (.ref 95) "search" pl) Q E s := by
  obtain ⟨f0, f1, e⟩ := look95 w.params
  exact re_method F X e h
theorem method90 {pl : Sem Bool} {Q : Value × List Value → Shared → Prop} (F : Fr h₀ L s.heap m) (X : (Mine.hd.heap_1 w.params).In h₀) (h : Q (.builtin "re.Pattern.search", [.ref 90]) s) :
    wpAny (model prog w) A (getMethod (.ref 90) "search" pl) Q E s := by
  obtain ⟨f0, f1, e⟩ := look90 w.params
  exact re_method F X e h
theorem val_clean (F : Fr h₀ L s.heap m) (X : (Mine.hd.heap_1 w.params).In h₀) (hc : cleanV t) (hz : t.length ≤ sizeLine) (h : Q .none s) :
    wpAny (model prog w) A (call (.builtin "re.Pattern.search") [.ref 95, .str t tk]) Q E s := by
  obtain ⟨f0, f1, e⟩ := look95 w.params
  have hz' : t.cps.size ≤ 2 ^ 24 := hz
  exact re_none ((X.keeps F.keep) _ _ e) ((X.keeps F.keep) _ _ (look94 _)) rfl (by omega) (by rw [val_code]; exact none_val _ hc) h
theorem name_clean (F : Fr h₀ L s.heap m) (X : (Mine.hd.heap_1 w.params).In h₀) (hc : cleanN t) (hz : t.length ≤ sizeLine) (h : Q .none s) :
    wpAny (model prog w) A (call (.builtin "re.Pattern.search") [.ref 90, .str t tk]) Q E s := by
  obtain ⟨f0, f1, e⟩ := look90 w.params
  have hz' : t.cps.size ≤ 2 ^ 24 := hz
  exact re_none ((X.keeps F.keep) _ _ e) ((X.keeps F.keep) _ _ (look89 _)) rfl (by omega) (by rw [name_code]; exact none_name _ hc) h
theorem val_dirty (F : Fr h₀ L s.heap m) (X : (Mine.hd.heap_1 w.params).In h₀) (N : News h₀ L s.heap news) (hc : dirtyV t) (hz : t.length ≤ sizeLine)
    (h : ∀ D h' vs, Fr h₀ L h' m → News h₀ L h' ((D, (⟨.type "re.Match", none, .fields vs, #[]⟩ : Obj)) :: news) → (∀ p ∈ news, p.1 < D) → Q (.ref D) { s with heap := h' }) :
    wpAny (model prog w) A (call (.builtin "re.Pattern.search") [.ref 95, .str t tk]) Q E s := by
  obtain ⟨f0, f1, e⟩ := look95 w.params
  have hz' : t.cps.size ≤ 2 ^ 24 := hz
  exact re_some F N ((X.keeps F.keep) _ _ e) ((X.keeps F.keep) _ _ (look94 _)) rfl (by omega) (by rw [val_code]; exact some_val _ hc) h
end
end Mine
end PartS2
local macro_rules | `(tactic| k_mem) => `(tactic| ((repeat refine List.mem_cons_of_mem _ ?_); assumption))
section PartH1
open PySem PySem.W PyProof.Rows
namespace Mine
theorem offH1 : True := by w_top off; trivial
noncomputable abbrev CtrK (w : World) (mean : ExcName → Option Value) (mg mb : Str → Option Value) (f : Addr) (vs : List Value) (kw : List (Str × Value)) (news : Led) (D U : Nat) (Ret : Value → Led → Prop) : Prop :=
  ∀ (dp un : Nat) (gd : Option (List Code)) (cn : Str) (cs : Scope) (a : Addr) (ccd : Value) (cl : List (Str × Addr)) (outer : List Env) (A₀ : Around) (base h₀ : Heap) (L : Addr) (m : Str → Option Value) (s : Shared) (Q E : Value → Shared → Prop),
    Below A₀ base outer h₀ → Fr h₀ L s.heap m → (Mine.hd.heap_1 w.params).In h₀ → News h₀ L s.heap news → Top Mine.view lawLoose mean mg mb h₀ → cs.kind = .function →
    dp + D < recursionLimit → un + U < cLine →
    (∀ v news' h' tk', Ret v news' → Fr h₀ L h' m → News h₀ L h' news' → Q v { s with heap := h', toks := tk' }) →
    wpAny (model lawProg w) (ktrTop dp un gd cn cs L a ccd cl outer) (call (.ref f) vs kw) Q E s
theorem ctrK_use {w : World} {mean : ExcName → Option Value} {mg mb : Str → Option Value} {f : Addr} {vs : List Value} {kw : List (Str × Value)} {news : Led} {D U : Nat} {Ret : Value → Led → Prop}
    {dp un : Nat} {gd : Option (List Code)} {cn : Str} {cs : Scope} {a : Addr} {ccd : Value} {cl : List (Str × Addr)} {outer : List Env} {A₀ : Around} {base h₀ : Heap} {L : Addr} {m : Str → Option Value} {s : Shared} {Q E : Value → Shared → Prop}
    (C : CtrK w mean mg mb f vs kw news D U Ret) (B : Below A₀ base outer h₀) (F : Fr h₀ L s.heap m) (X : (Mine.hd.heap_1 w.params).In h₀) (N : News h₀ L s.heap news) (T : Top Mine.view lawLoose mean mg mb h₀) (hk : cs.kind = .function)
    (hd : dp + D < recursionLimit) (hu : un + U < cLine)
    (ret : ∀ v news' h' tk', Ret v news' → Fr h₀ L h' m → News h₀ L h' news' → Q v { s with heap := h', toks := tk' }) :
    wpAny (model lawProg w) (ktrTop dp un gd cn cs L a ccd cl outer) (call (.ref f) vs kw) Q E s := C _ _ _ _ _ _ _ _ _ _ _ _ _ _ _ _ _ B F X N T hk hd hu ret
theorem useK_val {w : World} {mean : ExcName → Option Value} {mg mb : Str → Option Value} {f : Addr} {vs : List Value} {kw : List (Str × Value)} {news : Led} {D U : Nat} {val : Tok → Value}
    {dp un : Nat} {gd : Option (List Code)} {cn : Str} {cs : Scope} {a : Addr} {ccd : Value} {cl : List (Str × Addr)} {outer : List Env} {A₀ : Around} {base h₀ : Heap} {L : Addr} {m : Str → Option Value} {s : Shared} {Q E : Value → Shared → Prop}
    (C : CtrK w mean mg mb f vs kw news D U (fun v news' => news' = news ∧ ∃ t, v = val t)) (B : Below A₀ base outer h₀) (F : Fr h₀ L s.heap m) (X : (Mine.hd.heap_1 w.params).In h₀) (N : News h₀ L s.heap news) (T : Top Mine.view lawLoose mean mg mb h₀) (hk : cs.kind = .function)
    (hd : dp + D < recursionLimit) (hu : un + U < cLine)
    (ret : ∀ h' tk' t, Fr h₀ L h' m → News h₀ L h' news → Q (val t) { s with heap := h', toks := tk' }) :
    wpAny (model lawProg w) (ktrTop dp un gd cn cs L a ccd cl outer) (call (.ref f) vs kw) Q E s :=
  C _ _ _ _ _ _ _ _ _ _ _ _ _ _ _ _ _ B F X N T hk hd hu fun v n h' tk' R F' N' => by obtain ⟨rfl, t, rfl⟩ := R; exact ret h' tk' t F' N'
section
variable (w : World) (mean : ExcName → Option Value) (mg mb : Str → Option Value) (news : Led)
theorem conv_val (x : Addr) (t : Str) (tk : Tok) (hc : cleanV t) (hz : t.length ≤ 10000) :
    CtrK w mean mg mb 125 [.ref x, .str t tk] [(Str.ofString "name", .bool false)] news 1 8 (fun v news' => news' = news ∧ ∃ t', v = .str t t') := by
  intro dp un gd cn cs a ccd cl outer A₀ base h₀ L m s Q E B F X N T hk hd hu hret
  refine wpAny_call ?_
  k_dflt (refine' code_def ?k1 ?k2 ?k3 ?k4 ?k5 ?kA ?kF ?kK ?k6 ?k7 ?k8 ?k9 ?kB ?_ ?c2 ?c3 ?c4 ?c5; (case kA => exact rfl); (case kF => exact rfl); (case kK => assumption); (case k1 => k_asm); (case k2 => k_asm); (case k3 => k_asm); (case k4 => k_asm); (case k5 => k_asm); (case k6 => k_is); (case k7 => k_is); (case k8 => ktr_room); (case k9 => first | exact BindsTo.of_eq rfl | exact binds_K (by k_in) rfl (by k_is) rfl rfl rfl | fail "no rule for these arguments"); (case c5 => decide); (case kB => exact locs rfl); (case c2 => exact rfl); (case c3 => exact rfl); (case c4 => exact rfl); k_whole; intro g' L' h' FG' F' N' B' X' T'; (try dsimp only); (try k_fold))
  (rename Fr _ _ _ _ => lF9); refine map_let lF9 ?_; clear lF9; intro m9 lF9; refine frame_let ?_; intro A9 env9
  repeat' (first | ((k_unfold); (try dsimp only)) | (k_end; kc_close) | ((with_reducible show wpAny _ _ (call (Value.builtin "re.Pattern.search") _ _) _ _ _); first | with_reducible ((k_here; first | (refine' val_clean ?zqF ?zqX ?zqh ?zqz ?_; (case zqF => k_asm); (case zqX => k_asm); (case zqh => assumption); (case zqz => size_fits)) | (refine' name_clean ?zqF ?zqX ?zqh ?zqz ?_; (case zqF => k_asm); (case zqX => k_asm); (case zqh => assumption); (case zqz => size_fits)))) | ((k_here; first | (refine' val_clean ?zqF ?zqX ?zqh ?zqz ?_; (case zqF => k_asm); (case zqX => k_asm); (case zqh => assumption); (case zqz => size_fits)) | (refine' name_clean ?zqF ?zqX ?zqh ?zqz ?_; (case zqF => k_asm); (case zqX => k_asm); (case zqh => assumption); (case zqz => size_fits))))) | ((with_reducible show wpAny _ _ (getMethod (Value.ref _) _ _) _ _ _); first | with_reducible ((k_here; first | ((with_reducible show wpAny _ _ (getMethod (Value.ref 95) _ _) _ _ _); refine' method95 ?zqF ?zqX ?_; (case zqF => k_asm); (case zqX => k_asm)) | ((with_reducible show wpAny _ _ (getMethod (Value.ref 90) _ _) _ _ _); refine' method90 ?zqF ?zqX ?_; (case zqF => k_asm); (case zqX => k_asm)))) | ((k_here; first | ((with_reducible show wpAny _ _ (getMethod (Value.ref 95) _ _) _ _ _); refine' method95 ?zqF ?zqX ?_; (case zqF => k_asm); (case zqX => k_asm)) | ((with_reducible show wpAny _ _ (getMethod (Value.ref 90) _ _) _ _ _); refine' method90 ?zqF ?zqX ?_; (case zqF => k_asm); (case zqX => k_asm))))) | ((with_reducible show wpAny _ _ (storeName _ _ _) _ _ _); ((k_here; k_dflt ((refine' store_let ?zqF ?zqN ?_ ?zqa ?zqb; (case zqF => k_asm); (case zqN => k_asm); (case zqa => rfl); (case zqb => rfl); k_whole; intro m' h' tk' F' N'; (try k_sweep)))))) | walk1 | (dsimp only; walk1) | (leave1; (try dsimp only)) | fail "no step")
  all_goals exact hret _ _ _ _ ⟨rfl, _, rfl⟩ (by assumption) (by assumption)
theorem conv_name (x : Addr) (t : Str) (tk : Tok) (hc : cleanN t) (hz : t.length ≤ 10000) :
    CtrK w mean mg mb 125 [.ref x, .str t tk] [(Str.ofString "name", .bool true)] news 1 8 (fun v news' => news' = news ∧ ∃ t', v = .str t t') := by
  intro dp un gd cn cs a ccd cl outer A₀ base h₀ L m s Q E B F X N T hk hd hu hret
  refine wpAny_call ?_
  k_dflt (refine' code_def ?k1 ?k2 ?k3 ?k4 ?k5 ?kA ?kF ?kK ?k6 ?k7 ?k8 ?k9 ?kB ?_ ?c2 ?c3 ?c4 ?c5; (case kA => exact rfl); (case kF => exact rfl); (case kK => assumption); (case k1 => k_asm); (case k2 => k_asm); (case k3 => k_asm); (case k4 => k_asm); (case k5 => k_asm); (case k6 => k_is); (case k7 => k_is); (case k8 => ktr_room); (case k9 => first | exact BindsTo.of_eq rfl | exact binds_K (by k_in) rfl (by k_is) rfl rfl rfl | fail "no rule for these arguments"); (case c5 => decide); (case kB => exact locs rfl); (case c2 => exact rfl); (case c3 => exact rfl); (case c4 => exact rfl); k_whole; intro g' L' h' FG' F' N' B' X' T'; (try dsimp only); (try k_fold))
  (rename Fr _ _ _ _ => lF9); refine map_let lF9 ?_; clear lF9; intro m9 lF9; refine frame_let ?_; intro A9 env9
  repeat' (first | ((k_unfold); (try dsimp only)) | (k_end; kc_close) | ((with_reducible show wpAny _ _ (call (Value.builtin "re.Pattern.search") _ _) _ _ _); first | with_reducible ((k_here; first | (refine' val_clean ?zqF ?zqX ?zqh ?zqz ?_; (case zqF => k_asm); (case zqX => k_asm); (case zqh => assumption); (case zqz => size_fits)) | (refine' name_clean ?zqF ?zqX ?zqh ?zqz ?_; (case zqF => k_asm); (case zqX => k_asm); (case zqh => assumption); (case zqz => size_fits)))) | ((k_here; first | (refine' val_clean ?zqF ?zqX ?zqh ?zqz ?_; (case zqF => k_asm); (case zqX => k_asm); (case zqh => assumption); (case zqz => size_fits)) | (refine' name_clean ?zqF ?zqX ?zqh ?zqz ?_; (case zqF => k_asm); (case zqX => k_asm); (case zqh => assumption); (case zqz => size_fits))))) | ((with_reducible show wpAny _ _ (getMethod (Value.ref _) _ _) _ _ _); first | with_reducible ((k_here; first | ((with_reducible show wpAny _ _ (getMethod (Value.ref 95) _ _) _ _ _); refine' method95 ?zqF ?zqX ?_; (case zqF => k_asm); (case zqX => k_asm)) | ((with_reducible show wpAny _ _ (getMethod (Value.ref 90) _ _) _ _ _); refine' method90 ?zqF ?zqX ?_; (case zqF => k_asm); (case zqX => k_asm)))) | ((k_here; first | ((with_reducible show wpAny _ _ (getMethod (Value.ref 95) _ _) _ _ _); refine' method95 ?zqF ?zqX ?_; (case zqF => k_asm); (case zqX => k_asm)) | ((with_reducible show wpAny _ _ (getMethod (Value.ref 90) _ _) _ _ _); refine' method90 ?zqF ?zqX ?_; (case zqF => k_asm); (case zqX => k_asm))))) | ((with_reducible show wpAny _ _ (storeName _ _ _) _ _ _); ((k_here; k_dflt ((refine' store_let ?zqF ?zqN ?_ ?zqa ?zqb; (case zqF => k_asm); (case zqN => k_asm); (case zqa => rfl); (case zqb => rfl); k_whole; intro m' h' tk' F' N'; (try k_sweep)))))) | walk1 | (dsimp only; walk1) | (leave1; (try dsimp only)) | fail "no step")
  all_goals exact hret _ _ _ _ ⟨rfl, _, rfl⟩ (by assumption) (by assumption)
end
noncomputable def escOf (t : Str) : Str := Txt.replace (Txt.replace t (Str.ofString "\\") (Str.ofString "\\\\")) (Str.ofString "\"") (Str.ofString "\\\"")
noncomputable def wrapOf (pn t : Str) : Str := Str.empty ++ pn ++ Str.ofString "=\"" ++ escOf t ++ Str.ofString "\""
theorem len_bs : (Str.ofString "\\\\").length = 2 := by decide +kernel
theorem len_bq : (Str.ofString "\\\"").length = 2 := by decide +kernel
theorem rep_fit1 {t : Str} (h : t.length ≤ 10000) : t.length + (t.length + 1) * (Str.ofString "\\\\").length ≤ 16777216 := by rw [len_bs]; omega
theorem rep_fit2 {t : Str} (h : t.length ≤ 100000) : t.length + (t.length + 1) * (Str.ofString "\\\"").length ≤ 16777216 := by rw [len_bq]; omega
theorem gen_pos {M : Model} {A : Around} {α : Type} {t : Sem α} {Q : α → Shared → Prop} {E : Value → Shared → Prop} {h : Heap} {g : Array GenState} {d : Drawn} {n : Nat} {o : OsState} (hn : 0 < n) (H : ∀ tk, 0 < tk → wpAny M A t Q E ⟨h, g, d, tk, o⟩) : wpAny M A t Q E ⟨h, g, d, n, o⟩ := H n hn
section
open Builtin Builtin.Str
variable {prog : Program} {w : World} {A : Around} {E : Value → Shared → Prop} {s : Shared} {x y z : Str} {t u v : Tok} {Q : Value → Shared → Prop}
theorem replace_no (hf : (occurrences x y 0 x.length (x.length + 1)).isEmpty = true) (hq : Q (.str x t) s) : wpAny (model prog w) A (call (.builtin "str.replace") [.str x t, .str y u, .str z v]) Q E s := by
  refine call_gives PySem.F.slot_str_replace (typeIs_str _ _ _) PySem.F.entry_str_replace (PySem.F.args_str_replace_3 _ _ _) (gives_str_replace x y z t u v fun h => ?_) ?_
  · rw [hf, Bool.true_or] at h; cases h
  · rw [hf, Bool.true_or]; exact hq
theorem replace_yes (hu : u ≠ 0) (hv : v ≠ 0) (huv : u ≠ v) (hyz : (y == z) = false) (hb : x.length + (x.length + 1) * z.length ≤ 16777216)
    (hq : ∀ t' k, s.toks ≤ k → Q (.str (Txt.replace x y z) t') { s with toks := k }) : wpAny (model prog w) A (call (.builtin "str.replace") [.str x t, .str y u, .str z v]) Q E s := by
  have hl : tooLong (x.length + (occurrences x y 0 x.length (x.length + 1)).length * z.length) = false := by
    have h1 := StrLaws.occ_length_le x y 0 x.length (x.length + 1)
    have h2 : (occurrences x y 0 x.length (x.length + 1)).length * z.length ≤ (x.length + 1) * z.length := Nat.mul_le_mul_right _ h1
    unfold tooLong sizeLine
    exact decide_eq_false (by omega)
  refine call_gives PySem.F.slot_str_replace (typeIs_str _ _ _) PySem.F.entry_str_replace (PySem.F.args_str_replace_3 _ _ _)
    (gives_str_replace x y z t u v fun _ => ⟨by simp [hu, hv], by simp [huv], hyz, hl⟩) ?_
  unfold Txt.replace at hq
  split
  · rename_i hc
    rw [if_pos hc] at hq
    exact hq t s.toks (Nat.le_refl _)
  · rename_i hc
    rw [if_neg hc] at hq
    exact ⟨fits_replaced y hb, hq _ _ (Nat.le_succ _)⟩
end
section
variable (w : World) (mean : ExcName → Option Value) (mg mb : Str → Option Value) (news : Led)
theorem formatparam (pn t : Str) (t1 t2 : Tok) (hp : pn.length ≤ 100) (hz : t.length ≤ 10000) (h0 : 0 < t.length) (hz2 : (Txt.replace t (Str.ofString "\\") (Str.ofString "\\\\")).length ≤ 100000) (hz3' : (escOf t).length ≤ 100000) :
    CtrK w mean mg mb 103 [.str pn t1, .str t t2] [] news 1 8 (fun v news' => news' = news ∧ ∃ t', v = .str (wrapOf pn t) t') := by
  have hz3 : (Txt.replace (Txt.replace t (Str.ofString "\\") (Str.ofString "\\\\")) (Str.ofString "\"") (Str.ofString "\\\"")).length ≤ 100000 := hz3'
  intro dp un gd cn cs a ccd cl outer A₀ base h₀ L m s Q E B F X N T hk hd hu hret
  refine wpAny_call ?_
  k_dflt (refine' code_def ?k1 ?k2 ?k3 ?k4 ?k5 ?kA ?kF ?kK ?k6 ?k7 ?k8 ?k9 ?kB ?_ ?c2 ?c3 ?c4 ?c5; (case kA => exact rfl); (case kF => exact rfl); (case kK => assumption); (case k1 => k_asm); (case k2 => k_asm); (case k3 => k_asm); (case k4 => k_asm); (case k5 => k_asm); (case k6 => k_is); (case k7 => k_is); (case k8 => ktr_room); (case k9 => first | exact BindsTo.of_eq rfl | exact binds_K (by k_in) rfl (by k_is) rfl rfl rfl | fail "no rule for these arguments"); (case c5 => decide); (case kB => exact locs rfl); (case c2 => exact rfl); (case c3 => exact rfl); (case c4 => exact rfl); k_whole; intro g' L' h' FG' F' N' B' X' T'; (try dsimp only); (try k_fold))
  (rename Fr _ _ _ _ => lF9); refine map_let lF9 ?_; clear lF9; intro m9 lF9; refine frame_let ?_; intro A9 env9
  repeat' (first | ((k_unfold); (try dsimp only)) | (k_end; kc_close) | ((with_reducible show wpAny _ _ (call (Value.builtin "str.replace") _ _) _ _ _); first | with_reducible ((k_here; first | (refine' replace_no ?zqhf ?_; (case zqhf => decide +kernel)) | (refine' replace_yes ?zqhu ?zqhv ?zqhuv ?zqhyz ?zqhb ?_; (case zqhu => ((show @Ne Nat _ _); (try dsimp only at *); omega)); (case zqhv => ((show @Ne Nat _ _); (try dsimp only at *); omega)); (case zqhuv => ((show @Ne Nat _ _); omega)); (case zqhyz => decide +kernel); (case zqhb => first | exact rep_fit1 (by assumption) | exact rep_fit2 (by assumption)); intro t9 tk9 hk9))) | ((k_here; first | (refine' replace_no ?zqhf ?_; (case zqhf => decide +kernel)) | (refine' replace_yes ?zqhu ?zqhv ?zqhuv ?zqhyz ?zqhb ?_; (case zqhu => ((show @Ne Nat _ _); (try dsimp only at *); omega)); (case zqhv => ((show @Ne Nat _ _); (try dsimp only at *); omega)); (case zqhuv => ((show @Ne Nat _ _); omega)); (case zqhyz => decide +kernel); (case zqhb => first | exact rep_fit1 (by assumption) | exact rep_fit2 (by assumption)); intro t9 tk9 hk9)))) | ((with_reducible show wpAny _ _ (execs [] _) _ _ _); first | with_reducible ((k_here; (with_reducible show wpAny _ _ _ _ _ (Shared.mk _ _ _ (_ + _) _)); refine gen_pos ?zqk ?_; (case zqk => first | exact Nat.succ_pos _ | exact Nat.add_pos_right _ (by decide) | omega); intro tk' htk')) | ((k_here; (with_reducible show wpAny _ _ _ _ _ (Shared.mk _ _ _ (_ + _) _)); refine gen_pos ?zqk ?_; (case zqk => first | exact Nat.succ_pos _ | exact Nat.add_pos_right _ (by decide) | omega); intro tk' htk'))) | ((with_reducible show wpAny _ _ (execs (_ :: _) _) _ _ _); first | with_reducible ((k_here; (with_reducible show wpAny _ _ _ _ _ (Shared.mk _ _ _ (_ + _) _)); refine gen_pos ?zqk ?_; (case zqk => first | exact Nat.succ_pos _ | exact Nat.add_pos_right _ (by decide) | omega); intro tk' htk')) | ((k_here; (with_reducible show wpAny _ _ _ _ _ (Shared.mk _ _ _ (_ + _) _)); refine gen_pos ?zqk ?_; (case zqk => first | exact Nat.succ_pos _ | exact Nat.add_pos_right _ (by decide) | omega); intro tk' htk'))) | ((with_reducible show wpAny _ _ (call (Value.builtin "re.Pattern.search") _ _) _ _ _); first | with_reducible ((k_here; first | (refine' val_clean ?zqF ?zqX ?zqh ?zqz ?_; (case zqF => k_asm); (case zqX => k_asm); (case zqh => assumption); (case zqz => size_fits)) | (refine' name_clean ?zqF ?zqX ?zqh ?zqz ?_; (case zqF => k_asm); (case zqX => k_asm); (case zqh => assumption); (case zqz => size_fits)))) | ((k_here; first | (refine' val_clean ?zqF ?zqX ?zqh ?zqz ?_; (case zqF => k_asm); (case zqX => k_asm); (case zqh => assumption); (case zqz => size_fits)) | (refine' name_clean ?zqF ?zqX ?zqh ?zqz ?_; (case zqF => k_asm); (case zqX => k_asm); (case zqh => assumption); (case zqz => size_fits))))) | ((with_reducible show wpAny _ _ (getMethod (Value.ref _) _ _) _ _ _); first | with_reducible ((k_here; first | ((with_reducible show wpAny _ _ (getMethod (Value.ref 95) _ _) _ _ _); refine' method95 ?zqF ?zqX ?_; (case zqF => k_asm); (case zqX => k_asm)) | ((with_reducible show wpAny _ _ (getMethod (Value.ref 90) _ _) _ _ _); refine' method90 ?zqF ?zqX ?_; (case zqF => k_asm); (case zqX => k_asm)))) | ((k_here; first | ((with_reducible show wpAny _ _ (getMethod (Value.ref 95) _ _) _ _ _); refine' method95 ?zqF ?zqX ?_; (case zqF => k_asm); (case zqX => k_asm)) | ((with_reducible show wpAny _ _ (getMethod (Value.ref 90) _ _) _ _ _); refine' method90 ?zqF ?zqX ?_; (case zqF => k_asm); (case zqX => k_asm))))) | ((with_reducible show wpAny _ _ (storeName _ _ _) _ _ _); ((k_here; k_dflt ((refine' store_let ?zqF ?zqN ?_ ?zqa ?zqb; (case zqF => k_asm); (case zqN => k_asm); (case zqa => rfl); (case zqb => rfl); k_whole; intro m' h' tk' F' N'; (try k_sweep)))))) | walk1 | (dsimp only; walk1) | (leave1; (try dsimp only)) | fail "no step")
  all_goals exact hret _ _ _ _ ⟨rfl, _, rfl⟩ (by assumption) (by assumption)
end
section
variable {prog : Program} {w : World} {A : Around} {E : Value → Shared → Prop} {s : Shared} {h₀ : Heap} {L : Addr}
theorem unrEndW_one {I : Addr} {oi : Obj} {keep : List (Addr × Obj)} {rest : (Str → Option Value) → List (Addr × Obj) → Prop} {s₁ : Shared} {h' : Heap} {tk : Nat} {m' : Str → Option Value} {news' : List (Addr × Obj)} (F : Fr h₀ L h' m') (N : News h₀ L h' ((I, oi) :: news'))
    (off : ∀ p ∈ news', p.1 < I) (r : SubL keep news' ∧ rest m' news') : UnrEndW h₀ L s₁ [(I, oi)] (fun m' n' => SubL keep n' ∧ rest m' n') { s₁ with heap := h', toks := tk } :=
  ⟨h', tk, m', news', rfl, F, N, fun p hp q hq => by rw [List.mem_singleton.mp hq]; exact Nat.ne_of_lt (off p hp), r⟩
end
theorem allLt_mem {d : Nat} : ∀ {l : List (Addr × Obj)}, AllLt d l → ∀ p ∈ l, p.1 < d
  | [], _, p, hp => nomatch hp
  | q :: r, h, p, hp => by
    rcases List.mem_cons.mp hp with rfl | hp
    · exact h.1
    · exact allLt_mem h.2 p hp
theorem wrap_len (pn t : Str) : (wrapOf pn t).length = pn.length + (escOf t).length + 3 := by
  unfold wrapOf
  rw [Str.length_append, Str.length_append, Str.length_append, Str.length_append, show Str.empty.length = 0 from rfl, show (Str.ofString "=\"").length = 2 from by decide +kernel, show (Str.ofString "\"").length = 1 from by decide +kernel]
  omega
theorem wrap_fit {t : Str} (h : (escOf t).length ≤ 100000) : (([wrapOf (Str.ofString "p") t] : List Str).map (·.length)).sum + [wrapOf (Str.ofString "p") t].length ≤ 1048576 := by
  simp only [List.map_cons, List.map_nil, List.sum_cons, List.sum_nil, List.length_cons, List.length_nil]
  rw [wrap_len, show (Str.ofString "p").length = 1 from by decide +kernel]
  omega
section
variable (w : World) (mean : ExcName → Option Value) (mg mb : Str → Option Value) (rest : Led)
noncomputable abbrev hdrTup (nm t : Str) (ta tb : Tok) : Obj := { cls := .type "tuple", data := .seq #[.str nm ta, .str t tb] }
theorem add_end {h₀ h : Heap} {L T P D lx : Addr} {ta tb : Tok} {op od : Obj} {nm t : Str} {rest : Led} {its : List Value} {n : Nat}
    (N : News h₀ L h ((T, ({ cls := .type "tuple", data := .seq #[.str nm ta, .str (Txt.join (Str.ofString "; ") [wrapOf (Str.ofString "p") t]) tb] } : Obj)) :: (P, op) :: (D, od) :: (lx, listOf (its.toArray.push (Value.ref T)) (n + 1)) :: rest)) :
    News h₀ L h ((T, hdrTup nm (wrapOf (Str.ofString "p") t) ta tb) :: (lx, listOf (its ++ [Value.ref T]).toArray (n + 1)) :: rest) := by
  intro p hp
  rcases List.mem_cons.mp hp with rfl | hp
  · exact N _ (.head _)
  · rcases List.mem_cons.mp hp with rfl | hp
    · have q := N _ (.tail _ (.tail _ (.tail _ (.head _))))
      rw [show (its ++ [Value.ref T]).toArray = its.toArray.push (Value.ref T) from by simp]
      exact q
    · exact N _ (.tail _ (.tail _ (.tail _ (.tail _ hp))))
theorem add_header (x dx lx : Addr) (its : List Value) (n n2 : Nat) (t0 t1 t2 : Tok) (nm t : Str) (m1 : (x, instObj 226 dx) ∈ rest) (m2 : (dx, dictOf [⟨PyData.keyHash w.params (Str.ofString "_headers"), .str (Str.ofString "_headers") t0, .ref lx⟩] n2) ∈ rest) (off : OwnOff rest [lx])
    (hn : cleanN nm) (hnl : nm.length ≤ 100) (hc : cleanV t) (hz : t.length ≤ 10000) (h0 : 0 < t.length) (hi : its.length ≤ 100) (hp : cleanN (Str.ofString "p")) (hz2 : (Txt.replace t (Str.ofString "\\") (Str.ofString "\\\\")).length ≤ 100000) (hz3 : (escOf t).length ≤ 100000) :
    CtrK w mean mg mb 223 [.ref x, .str nm t1, .none] [(Str.ofString "p", .str t t2)] ((lx, listOf its.toArray n) :: rest) 4 32 (fun v news' => ∃ T ta tb, v = .none ∧ news' = (T, hdrTup nm (wrapOf (Str.ofString "p") t) ta tb) :: (lx, listOf (its ++ [Value.ref T]).toArray (n + 1)) :: rest ∧ lx < T ∧ AllLt T rest) := by
  intro dp un gd cn cs a ccd cl outer A₀ base h₀ L m s Q E B F X N T hk hd hu hret
  refine wpAny_call ?_
  k_dflt (refine' kp_more ?k1 ?k2 ?k3 ?k4 ?k5 ?kA ?kF ?kK ?k6 ?k7 ?k8 ?kX ?kM ?kN ?kD ?kR ?kP ?kT ?kB ?_ ?c2 ?c3 ?c4 ?c5; (case kA => exact rfl); (case kF => exact rfl); (case kK => assumption); (case k1 => k_asm); (case k2 => k_asm); (case k3 => k_asm); (case k4 => k_asm); (case k5 => k_asm); (case k6 => k_is); (case k7 => k_is); (case k8 => ktr_room); (case kX => kp_lit); (case kM => exact rfl); (case kN => exact rfl); (case kD => kp_flats); (case kR => exact rfl); (case kP => exact rfl); (case kT => exact fun _ => rfl); (case kB => exact fun _ => locs rfl); (case c5 => decide); (case c2 => exact rfl); (case c3 => exact rfl); (case c4 => exact rfl); k_whole; intro D' o' g' L' h' tk' l1 lo' hs' fs' FG' F' N' B' X' T'; (try k_lt l1); (try dsimp only); (try k_fold))
  repeat' (first | ((k_unfold); (try dsimp only)) | (k_end; kc_close) | ((with_reducible show wpAny _ _ (exec (Stmt.For (PySem.Expr.Tuple _ _ _) (PySem.Expr.Call _ _ _ _) _ _ _) _) _ _ _); ((k_here; ((rename Fr _ _ _ _ => lF'); (rename News _ _ _ _ => lN'); (with_unfolding_all ((refine' For_turns lF' ?_); k_whole; (refine MethodCall_ ?_); (refine ld lF' (by rfl) ?_); (refine kdl_method (knd := PySem.strKind _ _) PySem.F.slot_dict_items PySem.F.type_dict_items lN' (by k_mem) (by k_asm) ?_); (refine callWith_method0 ?_); (refine kta_callItems (knd := PySem.strKind _ _) lF' lN' (by k_mem) (by k_asm) (by k_asm) ?_); intro h' hv' F' N'; (refine kta_items (knd := PySem.strKind _ _) (enc := PyData.str) (xs := [Itm.pair (fun t => Value.str (Str.ofString "p") t) (Value.str _ _)]) (by rfl) F' N' hv' (by k_mem) (by k_asm) (fun _ _ h => Value.isStrOf_shape h) (by rfl) ?_)); clear lF' lN'; intro i' l1; (try k_lt l1)))))) | ((with_reducible show wpAny _ _ (call (Value.ref _) _ _) _ _ _); ((k_here; (with_reducible show wpAny _ _ (call (Value.ref 103) [Value.str _ _, Value.str _ _] _) _ _ _); k_dflt (refine' useK_val (formatparam _ _ _ _ _ _ _ _ _ ?zqh1 ?zqh2 ?zqh3 ?zqh4 ?zqh5) ?zqB ?zqF ?zqX ?zqN ?zqT ?zqhk ?zqhd ?zqhu ?_; (case zqh1 => decide); (case zqh2 => assumption); (case zqh3 => assumption); (case zqh4 => assumption); (case zqh5 => assumption); (case zqB => k_asm); (case zqF => k_asm); (case zqX => k_asm); (case zqN => k_asm); (case zqT => k_asm); (case zqhk => first | exact rfl | assumption); (case zqhd => first | exact room (by assumption) (by decide) | exact room0 (by assumption) (by decide) | ktr_room); (case zqhu => first | exact room (by assumption) (by decide) | exact room0 (by assumption) (by decide) | ktr_units); intro h9 tk9 t9 F9 N9; (try dsimp only); (try k_sweep); (try k_fold))))) | ((with_reducible show wpAny _ _ (call (Value.builtin "str.join") _ _) _ _ _); ((k_here; (with_reducible show wpAny _ _ (call (Value.builtin _) [Value.str _ _, Value.ref _]) _ _ _); k_dflt (refine join_listW (by is_list) (by kct_strs) (by decide +kernel) (wrap_fit (by assumption)) ?_); intro _ _))) | ((with_reducible show wpAny _ _ (call (Value.ref _) _ _) _ _ _); ((k_here; (with_reducible show wpAny _ _ (call (Value.ref 125) [Value.ref _, Value.str _ _] _) _ _ _); k_dflt ((first | refine' useK_val (conv_val _ _ _ _ _ _ _ _ ?zqhc ?zqhz) ?zqB ?zqF ?zqX ?zqN ?zqT ?zqhk ?zqhd ?zqhu ?_ | refine' useK_val (conv_name _ _ _ _ _ _ _ _ ?zqhc ?zqhz) ?zqB ?zqF ?zqX ?zqN ?zqT ?zqhk ?zqhd ?zqhu ?_); (case zqhc => assumption); (case zqhz => first | assumption | omega | decide); (case zqB => k_asm); (case zqF => k_asm); (case zqX => k_asm); (case zqN => k_asm); (case zqT => k_asm); (case zqhk => first | exact rfl | assumption); (case zqhd => first | exact room (by assumption) (by decide) | exact room0 (by assumption) (by decide) | ktr_room); (case zqhu => first | exact room (by assumption) (by decide) | exact room0 (by assumption) (by decide) | ktr_units); intro h9 tk9 t9 F9 N9; (try dsimp only); (try k_sweep); (try k_fold))))) | ((with_reducible show wpAny _ _ (call (Value.builtin "str.replace") _ _) _ _ _); first | with_reducible ((k_here; first | (refine' replace_no ?zqhf ?_; (case zqhf => decide +kernel)) | (refine' replace_yes ?zqhu ?zqhv ?zqhuv ?zqhyz ?zqhb ?_; (case zqhu => ((show @Ne Nat _ _); (try dsimp only at *); omega)); (case zqhv => ((show @Ne Nat _ _); (try dsimp only at *); omega)); (case zqhuv => ((show @Ne Nat _ _); omega)); (case zqhyz => decide +kernel); (case zqhb => first | exact rep_fit1 (by assumption) | exact rep_fit2 (by assumption)); intro t9 tk9 hk9))) | ((k_here; first | (refine' replace_no ?zqhf ?_; (case zqhf => decide +kernel)) | (refine' replace_yes ?zqhu ?zqhv ?zqhuv ?zqhyz ?zqhb ?_; (case zqhu => ((show @Ne Nat _ _); (try dsimp only at *); omega)); (case zqhv => ((show @Ne Nat _ _); (try dsimp only at *); omega)); (case zqhuv => ((show @Ne Nat _ _); omega)); (case zqhyz => decide +kernel); (case zqhb => first | exact rep_fit1 (by assumption) | exact rep_fit2 (by assumption)); intro t9 tk9 hk9)))) | ((with_reducible show wpAny _ _ (execs [] _) _ _ _); first | with_reducible ((k_here; (with_reducible show wpAny _ _ _ _ _ (Shared.mk _ _ _ (_ + _) _)); refine gen_pos ?zqk ?_; (case zqk => first | exact Nat.succ_pos _ | exact Nat.add_pos_right _ (by decide) | omega); intro tk' htk')) | ((k_here; (with_reducible show wpAny _ _ _ _ _ (Shared.mk _ _ _ (_ + _) _)); refine gen_pos ?zqk ?_; (case zqk => first | exact Nat.succ_pos _ | exact Nat.add_pos_right _ (by decide) | omega); intro tk' htk'))) | ((with_reducible show wpAny _ _ (execs (_ :: _) _) _ _ _); first | with_reducible ((k_here; (with_reducible show wpAny _ _ _ _ _ (Shared.mk _ _ _ (_ + _) _)); refine gen_pos ?zqk ?_; (case zqk => first | exact Nat.succ_pos _ | exact Nat.add_pos_right _ (by decide) | omega); intro tk' htk')) | ((k_here; (with_reducible show wpAny _ _ _ _ _ (Shared.mk _ _ _ (_ + _) _)); refine gen_pos ?zqk ?_; (case zqk => first | exact Nat.succ_pos _ | exact Nat.add_pos_right _ (by decide) | omega); intro tk' htk'))) | ((with_reducible show wpAny _ _ (call (Value.builtin "re.Pattern.search") _ _) _ _ _); first | with_reducible ((k_here; first | (refine' val_clean ?zqF ?zqX ?zqh ?zqz ?_; (case zqF => k_asm); (case zqX => k_asm); (case zqh => assumption); (case zqz => size_fits)) | (refine' name_clean ?zqF ?zqX ?zqh ?zqz ?_; (case zqF => k_asm); (case zqX => k_asm); (case zqh => assumption); (case zqz => size_fits)))) | ((k_here; first | (refine' val_clean ?zqF ?zqX ?zqh ?zqz ?_; (case zqF => k_asm); (case zqX => k_asm); (case zqh => assumption); (case zqz => size_fits)) | (refine' name_clean ?zqF ?zqX ?zqh ?zqz ?_; (case zqF => k_asm); (case zqX => k_asm); (case zqh => assumption); (case zqz => size_fits))))) | ((with_reducible show wpAny _ _ (getMethod (Value.ref _) _ _) _ _ _); first | with_reducible ((k_here; first | ((with_reducible show wpAny _ _ (getMethod (Value.ref 95) _ _) _ _ _); refine' method95 ?zqF ?zqX ?_; (case zqF => k_asm); (case zqX => k_asm)) | ((with_reducible show wpAny _ _ (getMethod (Value.ref 90) _ _) _ _ _); refine' method90 ?zqF ?zqX ?_; (case zqF => k_asm); (case zqX => k_asm)))) | ((k_here; first | ((with_reducible show wpAny _ _ (getMethod (Value.ref 95) _ _) _ _ _); refine' method95 ?zqF ?zqX ?_; (case zqF => k_asm); (case zqX => k_asm)) | ((with_reducible show wpAny _ _ (getMethod (Value.ref 90) _ _) _ _ _); refine' method90 ?zqF ?zqX ?_; (case zqF => k_asm); (case zqX => k_asm))))) | ((with_reducible show UnrEndW _ _ _ _ _ _); first | with_reducible ((refine unrEndW_one (by assumption) (by assumption) (allLt_mem (by assumption)) ⟨⟨by k_mem, trivial⟩, ?_⟩)) | ((refine unrEndW_one (by assumption) (by assumption) (allLt_mem (by assumption)) ⟨⟨by k_mem, trivial⟩, ?_⟩))) | ((with_reducible show wpAny _ _ (storeName _ _ _) _ _ _); ((k_here; k_dflt ((refine' store_let ?zqF ?zqN ?_ ?zqa ?zqb; (case zqF => k_asm); (case zqN => k_asm); (case zqa => rfl); (case zqb => rfl); k_whole; intro m' h' tk' F' N'; (try k_sweep)))))) | walk1 | (dsimp only; walk1) | (leave1; (try dsimp only)) | fail "no step")
  (rename News h₀ _ _ _ => kN)
  obtain ⟨_, _, hlt, hall⟩ := (by assumption : _ < _ ∧ _ < _ ∧ lx < _ ∧ AllLt _ rest)
  exact hret _ _ _ _ ⟨_, _, _, rfl, rfl, hlt, hall⟩ (by assumption) (add_end kN)
end
end Mine
end PartH1
section PartG1
open PySem PySem.W PyProof.Rows
namespace Mine
theorem offG1 : True := by w_top off; trivial
section
variable {prog : Program} {w : World} {A : Around} {E : Value → Shared → Prop} {s : Shared} {env : Env} {h₀ : Heap} {target : Expr} {body : List Stmt} {Q : Flow → Shared → Prop}
theorem items_inv {I : Addr} {keep : Led} (J : List Value → (Str → Option Value) → Led → Prop)
    (done : ∀ m n h tk, J [] m n → Fr h₀ env.locals h m → News h₀ env.locals h n → Q .next { s with heap := h, toks := tk })
    (turn : ∀ x xs m n h tk o, J (x :: xs) m n → o.cls = .type "list_iterator" → Fr h₀ env.locals h m → News h₀ env.locals h ((I, o) :: n) →
      wpAny (model prog w) A (assign target env x) (fun _ s₂ => wpAny (model prog w) A (execs body env) (UnrPostW h₀ env.locals { s with heap := h, toks := tk } [(I, o)] (fun m' n' => SubL keep n' ∧ J xs m' n') Q) E s₂) E { s with heap := h, toks := tk }) :
    ∀ (xs : List Value) m n, J xs m n → ItemsRest prog w A E h₀ env target body Q s [(I, "list_iterator")] keep (xs.map .val) m n
  | [], m, n, hj => fun h tk F N => done m n h tk hj F N
  | x :: xs, m, n, hj => by
    refine ItemsRest.val fun h tk F => ?_
    refine AllObj.cons fun o ho => AllObj.nil fun N => ?_
    refine wpAny_mono (turn x xs m n h tk o hj ho F N) (fun _ s₂ h₂ => wpAny_mono h₂ (fun f s₃ p => ?_) fun _ _ e => e) fun _ _ e => e
    have fin : UnrEndW h₀ env.locals { s with heap := h, toks := tk } [(I, o)] (fun m' n' => SubL keep n' ∧ J xs m' n') s₃ → UnrEndW h₀ env.locals { s with heap := h, toks := tk } [(I, o)] (fun m' n' => SubL keep n' ∧ ItemsRest prog w A E h₀ env target body Q s [(I, "list_iterator")] keep (xs.map .val) m' n') s₃ := by
      rintro ⟨h', tk', m', n', e, F', N', ho', hk', r⟩
      exact ⟨h', tk', m', n', e, F', N', ho', hk', items_inv J done turn xs m' n' r⟩
    cases f with
    | ret v => exact p
    | brk => exact p
    | next => exact fin p
    | cont => exact fin p
theorem for_items {ax : Addr} {vs : List Value} {nn : Nat} {m₀ : Str → Option Value} {news : Led} (J : (Str → Option Value) → Addr → List Value → (Str → Option Value) → Led → Prop)
    (hh : A.handled = none) (F : Fr h₀ env.locals s.heap m₀) (N : News h₀ env.locals s.heap news) (hm : (ax, listOf vs.toArray nn) ∈ news)
    (start : ∀ I, (∀ p ∈ news, p.1 < I) → J m₀ I vs m₀ news)
    (done : ∀ I m n h tk, J m₀ I [] m n → Fr h₀ env.locals h m → News h₀ env.locals h n → Q .next { s with heap := h, toks := tk })
    (turn : ∀ I x xs m n h tk o, J m₀ I (x :: xs) m n → o.cls = .type "list_iterator" → Fr h₀ env.locals h m → News h₀ env.locals h ((I, o) :: n) →
      wpAny (model prog w) A (assign target env x) (fun _ s₂ => wpAny (model prog w) A (execs body env) (UnrPostW h₀ env.locals { s with heap := h, toks := tk } [(I, o)] (fun m' n' => SubL [(ax, listOf vs.toArray nn)] n' ∧ J m₀ I xs m' n') Q) E s₂) E { s with heap := h, toks := tk }) :
    wpAny (model prog w) A (pyIter (.ref ax)) (fun it s₂ => TurnsAt prog w A h₀ env target body Q E it s₂) E s :=
  iter_listTurns hh F N hm rfl rfl fun I hI => items_inv (J m₀ I) (done I) (turn I) vs m₀ news (start I hI)
end
noncomputable def Upd2 (a b : Str) (m' m : Str → Option Value) : Prop := ∀ y, y ≠ a → y ≠ b → m' y = m y
theorem Upd2.ex {a b : Str} {m' m : Str → Option Value} (h : Upd2 a b m' m) : ∃ u1 u2, m' = fun y => if y = b then u2 else if y = a then u1 else m y := by
  refine ⟨m' a, m' b, ?_⟩
  funext y
  by_cases h1 : y = b
  · subst h1; rw [if_pos rfl]
  · rw [if_neg h1]
    by_cases h2 : y = a
    · subst h2; rw [if_pos rfl]
    · rw [if_neg h2]; exact h y h2 h1
theorem news_tail {h₀ h : Heap} {L : Addr} {p : Addr × Obj} {n : Led} (N : News h₀ L h (p :: n)) : News h₀ L h n := fun _ hq => N _ (.tail _ hq)
inductive HdrsIn (led : Led) : List Value → List (Str × Str) → Prop
  | nil : HdrsIn led [] []
  | cons {T : Addr} {nm t : Str} {ta tb : Tok} {vs : List Value} {hs : List (Str × Str)} (h : (T, hdrTup nm t ta tb) ∈ led) (r : HdrsIn led vs hs) : HdrsIn led (.ref T :: vs) ((nm, t) :: hs)
noncomputable def getOf (hs : List (Str × Str)) (q : Str) : Option Str := (hs.find? fun p => Txt.lower p.1 == q).map (·.2)
section
variable (w : World) (mean : ExcName → Option Value) (mg mb : Str → Option Value) (rest : Led)
theorem get_ctr (x dx lx : Addr) (its : List Value) (hs : List (Str × Str)) (n n2 : Nat) (t0 t1 : Tok) (q t : Str) (m1 : (x, instObj 226 dx) ∈ rest) (m2 : (dx, dictOf [⟨PyData.keyHash w.params (Str.ofString "_headers"), .str (Str.ofString "_headers") t0, .ref lx⟩] n2) ∈ rest)
    (hm : (lx, listOf its.toArray n) ∈ rest) (hi : HdrsIn rest its hs) (hg : getOf hs (Txt.lower q) = some t) (hq : Builtin.Str.tooLong (Txt.lower q).length = false) (hn : cleanN (Txt.lower q)) (hz : (Txt.lower q).length ≤ 10000) (hb : ∀ p ∈ hs, Builtin.Str.tooLong (Txt.lower p.1).length = false) :
    CtrK w mean mg mb 173 [.ref x, .str q t1] [] rest 4 16 (fun v news' => news' = rest ∧ ∃ t', v = .str t t') := by
  intro dp un gd cn cs a ccd cl outer A₀ base h₀ L m s Q E B F X N T hk hd hu hret
  refine wpAny_call ?_
  k_dflt (refine' code_def ?k1 ?k2 ?k3 ?k4 ?k5 ?kA ?kF ?kK ?k6 ?k7 ?k8 ?k9 ?kB ?_ ?c2 ?c3 ?c4 ?c5; (case kA => exact rfl); (case kF => exact rfl); (case kK => assumption); (case k1 => k_asm); (case k2 => k_asm); (case k3 => k_asm); (case k4 => k_asm); (case k5 => k_asm); (case k6 => k_is); (case k7 => k_is); (case k8 => ktr_room); (case k9 => first | exact BindsTo.of_eq rfl | exact binds_K (by k_in) rfl (by k_is) rfl rfl rfl | fail "no rule for these arguments"); (case c5 => decide); (case kB => exact locs rfl); (case c2 => exact rfl); (case c3 => exact rfl); (case c4 => exact rfl); k_whole; intro g' L' h' FG' F' N' B' X' T'; (try dsimp only); (try k_fold))
  (rename Fr _ _ _ _ => lF9); refine map_let lF9 ?_; clear lF9; intro m9 lF9; refine frame_let ?_; intro A9 env9
  repeat' (first | ((k_unfold); (try dsimp only)) | (k_end; kc_close) | ((with_reducible show wpAny _ _ (call (Value.ref _) _ _) _ _ _); ((k_here; (with_reducible show wpAny _ _ (call (Value.ref 125) [Value.ref _, Value.str _ _] _) _ _ _); k_dflt ((first | refine' useK_val (conv_name _ _ _ _ _ _ _ _ ?zqhc ?zqhz) ?zqB ?zqF ?zqX ?zqN ?zqT ?zqhk ?zqhd ?zqhu ?_ | refine' useK_val (conv_val _ _ _ _ _ _ _ _ ?zqhc ?zqhz) ?zqB ?zqF ?zqX ?zqN ?zqT ?zqhk ?zqhd ?zqhu ?_); (case zqhc => assumption); (case zqhz => first | assumption | omega | decide); (case zqB => k_asm); (case zqF => k_asm); (case zqX => k_asm); (case zqN => k_asm); (case zqT => k_asm); (case zqhk => first | exact rfl | assumption); (case zqhd => first | exact room (by assumption) (by decide) | exact room0 (by assumption) (by decide) | ktr_room); (case zqhu => first | exact room (by assumption) (by decide) | exact room0 (by assumption) (by decide) | ktr_units); intro h9 tk9 t9 F9 N9; (try dsimp only); (try k_sweep); (try k_fold))))) | ((with_reducible show wpAny _ _ (call (Value.builtin "str.lower") _ _) _ _ _); first | with_reducible ((k_here; refine SC.lower ?zqh ?_; (case zqh => assumption))) | ((k_here; refine SC.lower ?zqh ?_; (case zqh => assumption)))) | ((with_reducible show wpAny _ _ (storeName _ _ _) _ _ _); ((k_here; k_dflt ((refine' store_let ?zqF ?zqN ?_ ?zqa ?zqb; (case zqF => k_asm); (case zqN => k_asm); (case zqa => rfl); (case zqb => rfl); k_whole; intro m' h' tk' F' N'; (try k_sweep)))))) | walk1 | ((with_reducible show wpAny _ _ (exec (Stmt.For _ _ _ _ _) _) _ _ _); ((k_here; (rename Fr _ _ _ _ => lF'); (with_unfolding_all refine' For_turns lF' ?_; k_whole)))) | (dsimp only; walk1) | (leave1; (try dsimp only)) | fail "no step")
  refine for_items (fun m0 I xs m' n' => n' = rest ∧ (∀ p ∈ n', p.1 < I) ∧ Upd2 (Str.ofString "k") (Str.ofString "v") m' m0 ∧ ∃ hs, HdrsIn rest xs hs ∧ getOf hs (Txt.lower q) = some t ∧ ∀ p ∈ hs, Builtin.Str.tooLong (Txt.lower p.1).length = false) rfl (by k_asm) (by k_asm) hm ?_ ?_ ?_
  · intro I hI
    refine ⟨rfl, hI, (fun _ _ _ => rfl), hs, hi, hg, hb⟩
  · intro I m n h tk hJ95 F N; (try k_fold); obtain ⟨_, _, _, hs, hi, hg, _⟩ := hJ95
    cases hi
    cases hg
  · intro I x xs m n h tk o hJ98 ho F N; (try k_fold); obtain ⟨rfl, hI, hU, hs, hi, hg, hb⟩ := hJ98
    obtain ⟨u1, u2, rfl⟩ := hU.ex
    cases hi
    rename_i T_ nm_ t_ ta_ tb_ hs_ hT hr
    (try k_fold)
    have hb1 := hb _ (List.mem_cons_self ..)
    dsimp only at hb1
    repeat' (first | ((k_unfold); (try dsimp only)) | (k_end; kc_close) | ((with_reducible show wpAny _ _ (call (Value.ref _) _ _) _ _ _); ((k_here; (with_reducible show wpAny _ _ (call (Value.ref 125) [Value.ref _, Value.str _ _] _) _ _ _); k_dflt ((first | refine' useK_val (conv_name _ _ _ _ _ _ _ _ ?zqhc ?zqhz) ?zqB ?zqF ?zqX ?zqN ?zqT ?zqhk ?zqhd ?zqhu ?_ | refine' useK_val (conv_val _ _ _ _ _ _ _ _ ?zqhc ?zqhz) ?zqB ?zqF ?zqX ?zqN ?zqT ?zqhk ?zqhd ?zqhu ?_); (case zqhc => assumption); (case zqhz => first | assumption | omega | decide); (case zqB => k_asm); (case zqF => k_asm); (case zqX => k_asm); (case zqN => k_asm); (case zqT => k_asm); (case zqhk => first | exact rfl | assumption); (case zqhd => first | exact room (by assumption) (by decide) | exact room0 (by assumption) (by decide) | ktr_room); (case zqhu => first | exact room (by assumption) (by decide) | exact room0 (by assumption) (by decide) | ktr_units); intro h9 tk9 t9 F9 N9; (try dsimp only); (try k_sweep); (try k_fold))))) | ((with_reducible show wpAny _ _ (call (Value.builtin "str.lower") _ _) _ _ _); first | with_reducible ((k_here; refine SC.lower ?zqh ?_; (case zqh => assumption))) | ((k_here; refine SC.lower ?zqh ?_; (case zqh => assumption)))) | ((with_reducible show wpAny _ _ (storeName _ _ _) _ _ _); ((k_here; k_dflt ((refine' store_let ?zqF ?zqN ?_ ?zqa ?zqb; (case zqF => k_asm); (case zqN => k_asm); (case zqa => rfl); (case zqb => rfl); k_whole; intro m' h' tk' F' N'; (try k_sweep)))))) | walk1 | ((with_reducible show wpAny _ _ (exec (Stmt.For _ _ _ _ _) _) _ _ _); ((k_here; (rename Fr _ _ _ _ => lF'); (with_unfolding_all refine' For_turns lF' ?_; k_whole)))) | (dsimp only; walk1) | (leave1; (try dsimp only)) | fail "no step")
    · (rename (_ == _) = true => ha)
      unfold getOf at hg
      rw [List.find?_cons_of_pos (by exact ha)] at hg
      have e : t_ = t := Option.some.inj hg
      subst e
      exact hret _ _ _ _ ⟨rfl, _, rfl⟩ (by assumption) (news_tail (by assumption))
    · (rename (_ == _) = false => ha)
      unfold getOf at hg
      rw [List.find?_cons_of_neg (by intro h; rw [ha] at h; cases h)] at hg
      refine unrEndW_one (by assumption) (by assumption) hI ⟨⟨hm, trivial⟩, rfl, hI, ?_, _, hr, hg, fun p hp => hb p (List.mem_cons_of_mem _ hp)⟩
      intro y h1 h2
      simp +zetaDelta only [if_neg h1, if_neg h2]
end
end Mine
end PartG1
section PartG2
open PySem PySem.W PyProof.Rows
namespace Mine
theorem offG2 : True := by w_top off; trivial
theorem pick_all {its : List Value} : (slicePick its.toArray none none none).toList = its := by rw [slicePick_all]
theorem sz100 {its : List Value} (h : its.length ≤ 100) : its.toArray.size ≤ sizeLine := by rw [List.size_toArray, sizeLine_eq]; omega
section
variable (w : World) (mean : ExcName → Option Value) (mg mb : Str → Option Value) (rest : Led)
theorem items_ctr (x dx lx : Addr) (its : List Value) (n n2 : Nat) (t0 : Tok) (m1 : (x, instObj 226 dx) ∈ rest) (m2 : (dx, dictOf [⟨PyData.keyHash w.params (Str.ofString "_headers"), .str (Str.ofString "_headers") t0, .ref lx⟩] n2) ∈ rest)
    (hm : (lx, listOf its.toArray n) ∈ rest) (hl : its.length ≤ 100) :
    Ctr w mean mg mb 190 [.ref x] rest 4 16 (fun v news' => ∃ l2 n3, v = .ref l2 ∧ news' = (l2, listOf its.toArray n3) :: rest) := by
  intro dp un gd cn cs a ccd cl outer A₀ base h₀ L m s Q E B F X N T hk hd hu hret
  refine wpAny_call ?_
  k_dflt ktr_enter
  (rename Fr _ _ _ _ => lF9); refine map_let lF9 ?_; clear lF9; intro m9 lF9; refine frame_let ?_; intro A9 env9
  repeat' (first | ((k_unfold); (try dsimp only)) | (k_end; kc_close) | ((with_reducible show wpAny _ _ (subscriptTail _ _ (Value.ref _) _) _ _ _); ((k_here; (with_reducible show wpAny _ _ (subscriptTail _ (PySem.Expr.Slice none none none _) (Value.ref _) (Value.ref _)) _ _ _); k_dflt (refine' kmk_slice_lit ?zqF ?zqN ?zql ?zqp ?zqq ?zqe ?_ ?zqs ?zqt ?zqz; (case zqF => k_asm); (case zqN => k_asm); (case zql => kmk_list); (case zqp => kmk_part); (case zqq => kmk_part); (case zqe => exact pick_all); (case zqs => with_unfolding_all rfl); (case zqt => kmk_pure); (case zqz => exact sz100 (by assumption))); intro D' h' F' N' l1))) | ((with_reducible show wpAny _ _ (storeName _ _ _) _ _ _); ((k_here; k_dflt ((refine' store_let ?zqF ?zqN ?_ ?zqa ?zqb; (case zqF => k_asm); (case zqN => k_asm); (case zqa => rfl); (case zqb => rfl); k_whole; intro m' h' tk' F' N'; (try k_sweep)))))) | walk1 | (dsimp only; walk1) | (leave1; (try dsimp only)) | fail "no step")
  exact hret _ _ _ _ ⟨_, _, rfl, rfl⟩ (by assumption) (by assumption)
end
noncomputable abbrev pairTup (k p : Int) (ta tb : Tok) : Obj := { cls := .type "tuple", data := .seq #[.int k ta, .int p tb] }
inductive RowsIn (led : Led) : List Value → List (Int × Int) → Prop
  | nil : RowsIn led [] []
  | cons {T : Addr} {k p : Int} {ta tb : Tok} {vs : List Value} {rs : List (Int × Int)} (h : (T, pairTup k p ta tb) ∈ led) (r : RowsIn led vs rs) : RowsIn led (.ref T :: vs) ((k, p) :: rs)
theorem RowsIn.mono {led led' : Led} (hs : ∀ p ∈ led, p ∈ led') : ∀ {vs rs}, RowsIn led vs rs → RowsIn led' vs rs
  | _, _, .nil => .nil
  | _, _, .cons h r => .cons (hs _ h) (r.mono hs)
theorem RowsIn.snoc {led : Led} {T : Addr} {k p : Int} {ta tb : Tok} : ∀ {vs rs}, RowsIn led vs rs → (T, pairTup k p ta tb) ∈ led → RowsIn led (vs ++ [.ref T]) (rs ++ [(k, p)])
  | _, _, .nil, h => .cons h .nil
  | _, _, .cons h r, h' => .cons h (r.snoc h')
noncomputable def partOf (x : Int) : Int := (x.fmod 96).fdiv 8
noncomputable def kindOf (x : Int) : Int := if x.fmod 8 = 7 ∧ partOf x ≠ 11 then (partOf x).fmod 6 else x.fmod 8
noncomputable def howOf (x : Int) : Int := (x.fdiv 96).fmod 4
noncomputable def wantOf : List Int → List (Int × Int)
  | [] => []
  | x :: r => (if howOf x = 2 then (6, partOf x) else (kindOf x, partOf x)) :: wantOf r
noncomputable def gotOf : List Int → List (Int × Int)
  | [] => []
  | x :: r => if howOf x = 3 then gotOf r else (kindOf x, partOf x) :: gotOf r
noncomputable def UpdL (ks : List Str) (m' m : Str → Option Value) : Prop := ∀ y, y ∉ ks → m' y = m y
noncomputable def chain : List Str → (Str → Option Value) → (Str → Option Value) → (Str → Option Value)
  | [], _, m => m
  | k :: r, u, m => fun y => if y = k then u k else chain r u m y
theorem chain_at : ∀ (ks : List Str) (u m : Str → Option Value) (y : Str), chain ks u m y = if y ∈ ks then u y else m y
  | [], _, _, _ => by simp [chain]
  | k :: r, u, m, y => by
    by_cases h : y = k
    · subst h; simp [chain]
    · simp [chain, h, chain_at r u m y]
theorem UpdL.ex {ks : List Str} {m' m : Str → Option Value} (h : UpdL ks m' m) : ∃ u, m' = chain ks u m := by
  refine ⟨m', ?_⟩
  funext y
  rw [chain_at]
  by_cases hy : y ∈ ks
  · rw [if_pos hy]
  · rw [if_neg hy]; exact h y hy
theorem RowsIn.length {led : Led} : ∀ {vs rs}, RowsIn led vs rs → vs.length = rs.length
  | _, _, .nil => rfl
  | _, _, .cons _ r => congrArg (· + 1) r.length
theorem wantOf_len : ∀ l : List Int, (wantOf l).length = l.length
  | [] => rfl
  | _ :: r => congrArg (· + 1) (wantOf_len r)
theorem gotOf_len : ∀ l : List Int, (gotOf l).length ≤ l.length
  | [] => Nat.le_refl _
  | x :: r => by
    rw [gotOf]
    have := gotOf_len r
    split
    · simp only [List.length_cons]; omega
    · simp only [List.length_cons]; omega
theorem wantOf_snoc (x : Int) : ∀ l : List Int, wantOf (l ++ [x]) = wantOf l ++ [if howOf x = 2 then (6, partOf x) else (kindOf x, partOf x)]
  | [] => rfl
  | y :: r => by simp only [List.cons_append, wantOf, wantOf_snoc x r]
theorem gotOf_snoc (x : Int) : ∀ l : List Int, gotOf (l ++ [x]) = gotOf l ++ (if howOf x = 3 then [] else [(kindOf x, partOf x)])
  | [] => by simp only [List.nil_append, gotOf]
  | y :: r => by
    simp only [List.cons_append, gotOf, gotOf_snoc x r]
    split <;> rfl
noncomputable abbrev rowsKs : List Str := [Str.ofString "x", Str.ofString "part", Str.ofString "kind", Str.ofString "how"]
inductive RowsJ (rest : Led) (D lw lg : Addr) (zs : List Value) (nd : Nat) (all : List Int) (m0 : Str → Option Value) (I : Addr) (xs : List Value) (m' : Str → Option Value) (n' : Led) : Prop
  | mk (pre rem : List Int) (ws gs : List Value) (nw ng : Nat) (n1 : Led) (j0 : all = pre ++ rem) (j1 : IntsAre xs rem) (j2 : n' = (lw, listOf ws.toArray nw) :: (lg, listOf gs.toArray ng) :: n1) (j3 : @LT.lt Nat _ lw lg) (j4 : @LT.lt Nat _ lg I) (j5 : OwnOff n1 [lw, lg]) (j6 : OwnOff n' [I]) (j7 : (∀ p ∈ rest, p ∈ n1)) (j8 : (D, listOf zs.toArray nd) ∈ n1) (j9 : RowsIn n1 ws (wantOf pre)) (j10 : RowsIn n1 gs (gotOf pre)) (j11 : UpdL rowsKs m' m0) : RowsJ rest D lw lg zs nd all m0 I xs m' n'
theorem rows_start {rest : Led} {D lw lg : Addr} {zs : List Value} {nd nw ng : Nat} {all : List Int} {m0 : Str → Option Value} (hi : IntsAre zs all) (h1 : @LT.lt Nat _ lw lg) (h2 : @LT.lt Nat _ lg D) (h4 : AllLt lw rest) :
    ∀ I, (∀ p ∈ ((lw, listOf ([] : List Value).toArray nw) :: (lg, listOf ([] : List Value).toArray ng) :: (D, listOf zs.toArray nd) :: rest : Led), p.1 < I) → RowsJ rest D lw lg zs nd all m0 I zs m0 ((lw, listOf ([] : List Value).toArray nw) :: (lg, listOf ([] : List Value).toArray ng) :: (D, listOf zs.toArray nd) :: rest) := by
  intro I hI
  have hlt := allLt_mem h4
  refine ⟨[], all, [], [], nw, ng, _, rfl, hi, rfl, h1, hI _ (.tail _ (.head _)), ?_, ?_, fun p hp => .tail _ hp, .head _, .nil, .nil, fun _ _ => rfl⟩
  · intro p hp b hb
    have hb' : b = lw ∨ b = lg := by simpa using hb
    rcases List.mem_cons.mp hp with rfl | hp
    · rcases hb' with rfl | rfl
      · exact Nat.ne_of_gt (Nat.lt_trans h1 h2)
      · exact Nat.ne_of_gt h2
    · rcases hb' with rfl | rfl
      · exact Nat.ne_of_lt (hlt p hp)
      · exact Nat.ne_of_lt (Nat.lt_trans (hlt p hp) h1)
  · intro p hp b hb
    rw [List.mem_singleton.mp hb]
    exact Nat.ne_of_lt (hI p hp)
theorem rows_pick {h₀ h : Heap} {L D D1 a b lg lw : Addr} {o oa ob oD1 og ow : Obj} {rest : Led} (N : News h₀ L h ((D, o) :: (D1, oD1) :: (a, oa) :: (b, ob) :: (lg, og) :: (lw, ow) :: rest)) : News h₀ L h ((lw, ow) :: (lg, og) :: (D, o) :: rest) := by
  intro p hp
  refine N p ?_
  simp only [List.mem_cons] at hp ⊢
  rcases hp with h | h | h | h
  · exact .inr (.inr (.inr (.inr (.inr (.inl h)))))
  · exact .inr (.inr (.inr (.inr (.inl h))))
  · exact .inl h
  · exact .inr (.inr (.inr (.inr (.inr (.inr h)))))
theorem push_ref (ws : List Value) (T : Addr) : (ws ++ [Value.ref T]).toArray = ws.toArray.push (.ref T) := by simp
section
variable {h₀ h' : Heap} {L I T1 T2 lw lg D : Addr} {o : Obj} {s₁ : Shared} {tk : Nat} {m' m0 : Str → Option Value} {rest n1 : Led} {zs xs ws gs : List Value} {nd nw ng a b : Nat} {all pre rem : List Int} {x k1 p1 k2 p2 : Int} {ta tb tc td : Tok}
theorem rows_both (N : News h₀ L h' ((T2, pairTup k2 p2 tc td) :: (T1, pairTup k1 p1 ta tb) :: (I, o) :: (lw, listOf (ws.toArray.push (.ref T1)) a) :: (lg, listOf (gs.toArray.push (.ref T2)) b) :: n1)) (F : Fr h₀ L h' m') (hU : UpdL rowsKs m' m0) (hall : all = pre ++ x :: rem) (hx : IntsAre xs rem)
    (hlt : @LT.lt Nat _ lw lg) (hltI : @LT.lt Nat _ lg I) (hoff : OwnOff n1 [lw, lg]) (hI : OwnOff ((lw, listOf ws.toArray nw) :: (lg, listOf gs.toArray ng) :: n1) [I]) (hsub : ∀ p ∈ rest, p ∈ n1) (hD : (D, listOf zs.toArray nd) ∈ n1) (hw : RowsIn n1 ws (wantOf pre)) (hg : RowsIn n1 gs (gotOf pre))
    (l1 : @LT.lt Nat _ I T1) (l2 : @LT.lt Nat _ T1 T2)
    (e1 : (if howOf x = 2 then (6, partOf x) else (kindOf x, partOf x)) = (k1, p1)) (e2 : howOf x ≠ 3) (e3 : (kindOf x, partOf x) = (k2, p2)) :
    UnrEndW h₀ L s₁ [(I, o)] (fun m' n' => SubL [(D, listOf zs.toArray nd)] n' ∧ RowsJ rest D lw lg zs nd all m0 I xs m' n') { s₁ with heap := h', toks := tk } := by
  refine ⟨h', tk, m', (lw, listOf (ws ++ [Value.ref T1]).toArray a) :: (lg, listOf (gs ++ [Value.ref T2]).toArray b) :: (T2, pairTup k2 p2 tc td) :: (T1, pairTup k1 p1 ta tb) :: n1, rfl, F, ?_, ?_, ⟨?_, trivial⟩, pre ++ [x], rem, ws ++ [.ref T1], gs ++ [.ref T2], a, b, _, ?_, hx, rfl, hlt, hltI, ?_, ?_, ?_, ?_, ?_, ?_, hU⟩
  · intro p hp
    rw [push_ref, push_ref] at hp
    refine N p ?_
    simp only [List.cons_append, List.nil_append, List.mem_cons] at hp ⊢
    rcases hp with h | h | h | h | h | h
    · exact .inr (.inr (.inl h))
    · exact .inr (.inr (.inr (.inl h)))
    · exact .inr (.inr (.inr (.inr (.inl h))))
    · exact .inl h
    · exact .inr (.inl h)
    · exact .inr (.inr (.inr (.inr (.inr h))))
  · intro p hp q hq
    rw [List.mem_singleton.mp hq]
    simp only [List.mem_cons] at hp
    rcases hp with rfl | rfl | rfl | rfl | h
    · exact Nat.ne_of_lt (Nat.lt_trans hlt hltI)
    · exact Nat.ne_of_lt hltI
    · exact Nat.ne_of_gt (Nat.lt_trans l1 l2)
    · exact Nat.ne_of_gt l1
    · exact hI p (.tail _ (.tail _ h)) I (.head _)
  · exact .tail _ (.tail _ (.tail _ (.tail _ hD)))
  · rw [hall, List.append_assoc]; rfl
  · intro p hp c hc
    have hc' : c = lw ∨ c = lg := by simpa using hc
    have hcI : @LT.lt Nat _ c I := hc'.elim (fun e => e ▸ Nat.lt_trans hlt hltI) (fun e => e ▸ hltI)
    simp only [List.mem_cons] at hp
    rcases hp with rfl | rfl | h
    · exact Nat.ne_of_gt (Nat.lt_trans hcI (Nat.lt_trans l1 l2))
    · exact Nat.ne_of_gt (Nat.lt_trans hcI l1)
    · exact hoff p h c hc
  · intro p hp c hc
    rw [List.mem_singleton.mp hc]
    simp only [List.mem_cons] at hp
    rcases hp with rfl | rfl | rfl | rfl | h
    · exact Nat.ne_of_lt (Nat.lt_trans hlt hltI)
    · exact Nat.ne_of_lt hltI
    · exact Nat.ne_of_gt (Nat.lt_trans l1 l2)
    · exact Nat.ne_of_gt l1
    · exact hI p (.tail _ (.tail _ h)) I (.head _)
  · exact fun p hp => .tail _ (.tail _ (hsub p hp))
  · exact .tail _ (.tail _ hD)
  · rw [wantOf_snoc, e1]
    exact (hw.mono fun p hp => .tail _ (.tail _ hp)).snoc (.tail _ (.head _))
  · rw [gotOf_snoc, if_neg e2, e3]
    exact (hg.mono fun p hp => .tail _ (.tail _ hp)).snoc (.head _)
theorem rows_one (N : News h₀ L h' ((T1, pairTup k1 p1 ta tb) :: (I, o) :: (lw, listOf (ws.toArray.push (.ref T1)) a) :: (lg, listOf gs.toArray ng) :: n1)) (F : Fr h₀ L h' m') (hU : UpdL rowsKs m' m0) (hall : all = pre ++ x :: rem) (hx : IntsAre xs rem)
    (hlt : @LT.lt Nat _ lw lg) (hltI : @LT.lt Nat _ lg I) (hoff : OwnOff n1 [lw, lg]) (hI : OwnOff ((lw, listOf ws.toArray nw) :: (lg, listOf gs.toArray ng) :: n1) [I]) (hsub : ∀ p ∈ rest, p ∈ n1) (hD : (D, listOf zs.toArray nd) ∈ n1) (hw : RowsIn n1 ws (wantOf pre)) (hg : RowsIn n1 gs (gotOf pre))
    (l1 : @LT.lt Nat _ I T1)
    (e1 : (if howOf x = 2 then (6, partOf x) else (kindOf x, partOf x)) = (k1, p1)) (e2 : howOf x = 3) :
    UnrEndW h₀ L s₁ [(I, o)] (fun m' n' => SubL [(D, listOf zs.toArray nd)] n' ∧ RowsJ rest D lw lg zs nd all m0 I xs m' n') { s₁ with heap := h', toks := tk } := by
  refine ⟨h', tk, m', (lw, listOf (ws ++ [Value.ref T1]).toArray a) :: (lg, listOf gs.toArray ng) :: (T1, pairTup k1 p1 ta tb) :: n1, rfl, F, ?_, ?_, ⟨?_, trivial⟩, pre ++ [x], rem, ws ++ [.ref T1], gs, a, ng, _, ?_, hx, rfl, hlt, hltI, ?_, ?_, ?_, ?_, ?_, ?_, hU⟩
  · intro p hp
    rw [push_ref] at hp
    refine N p ?_
    simp only [List.cons_append, List.nil_append, List.mem_cons] at hp ⊢
    rcases hp with h | h | h | h | h
    · exact .inr (.inl h)
    · exact .inr (.inr (.inl h))
    · exact .inr (.inr (.inr (.inl h)))
    · exact .inl h
    · exact .inr (.inr (.inr (.inr h)))
  · intro p hp q hq
    rw [List.mem_singleton.mp hq]
    simp only [List.mem_cons] at hp
    rcases hp with rfl | rfl | rfl | h
    · exact Nat.ne_of_lt (Nat.lt_trans hlt hltI)
    · exact Nat.ne_of_lt hltI
    · exact Nat.ne_of_gt l1
    · exact hI p (.tail _ (.tail _ h)) I (.head _)
  · exact .tail _ (.tail _ (.tail _ hD))
  · rw [hall, List.append_assoc]; rfl
  · intro p hp c hc
    have hc' : c = lw ∨ c = lg := by simpa using hc
    have hcI : @LT.lt Nat _ c I := hc'.elim (fun e => e ▸ Nat.lt_trans hlt hltI) (fun e => e ▸ hltI)
    simp only [List.mem_cons] at hp
    rcases hp with rfl | h
    · exact Nat.ne_of_gt (Nat.lt_trans hcI l1)
    · exact hoff p h c hc
  · intro p hp c hc
    rw [List.mem_singleton.mp hc]
    simp only [List.mem_cons] at hp
    rcases hp with rfl | rfl | rfl | h
    · exact Nat.ne_of_lt (Nat.lt_trans hlt hltI)
    · exact Nat.ne_of_lt hltI
    · exact Nat.ne_of_gt l1
    · exact hI p (.tail _ (.tail _ h)) I (.head _)
  · exact fun p hp => .tail _ (hsub p hp)
  · exact .tail _ hD
  · rw [wantOf_snoc, e1]
    exact (hw.mono fun p hp => .tail _ hp).snoc (.head _)
  · rw [gotOf_snoc, if_pos e2, List.append_nil]
    exact hg.mono fun p hp => .tail _ hp
end
theorem odd_pick {odd : Int} (h0 : 0 ≤ odd) (h1 : odd < 2) : [203, 11].getD odd.toNat (0 : Int) = if odd = 0 then 203 else 11 := by
  have : odd = 0 ∨ odd = 1 := by omega
  rcases this with rfl | rfl <;> rfl
section
variable (w : World) (mean : ExcName → Option Value) (mg mb : Str → Option Value) (rest : Led)
theorem rows_ctr (ls : Addr) (vs : List Value) (ns : List Int) (n : Nat) (odd : Int) (t0 : Tok) (hm : (ls, listOf vs.toArray n) ∈ rest) (hi : IntsAre vs ns) (hl : ns.length ≤ 5) (h0 : 0 ≤ odd) (h1 : odd < 2) :
    Ctr w mean mg mb 237 [.ref ls, .int odd t0] rest 4 16 (fun v news' => ∃ T lw lg ws gs nw ng rest', v = .ref T ∧ news' = (T, { cls := .type "tuple", data := .seq #[.ref lw, .ref lg] }) :: (lw, listOf ws.toArray nw) :: (lg, listOf gs.toArray ng) :: rest' ∧ (∀ p ∈ rest, p ∈ rest') ∧
      RowsIn rest' ws (wantOf ([1, if odd = 0 then 203 else 11, 19] ++ ns.take 5)) ∧ RowsIn rest' gs (gotOf ([1, if odd = 0 then 203 else 11, 19] ++ ns.take 5))) := by
  intro dp un gd cn cs a ccd cl outer A₀ base h₀ L m s Q E B F X N T hk hd hu hret
  refine wpAny_call ?_
  k_dflt ktr_enter
  (rename Fr _ _ _ _ => lF9); refine map_let lF9 ?_; clear lF9; intro m9 lF9; refine frame_let ?_; intro A9 env9
  repeat' (first | ((k_unfold); (try dsimp only)) | (k_end; kc_close) | ((with_reducible show wpAny _ _ (pyIter (Value.ref _)) _ _ _); first | with_reducible ((k_here; (with_reducible show wpAny _ _ (pyIter (Value.ref _)) (fun it s₂ => TurnsAt _ _ _ _ _ _ _ _ _ it s₂) _ _); fail "no rule"; done)) | ((k_here; (with_reducible show wpAny _ _ (pyIter (Value.ref _)) (fun it s₂ => TurnsAt _ _ _ _ _ _ _ _ _ it s₂) _ _); fail "no rule"; done))) | ((with_reducible show wpAny _ _ (exec (Stmt.For _ _ _ _ _) _) _ _ _); ((k_here; (rename Fr _ _ _ _ => lF'); (with_unfolding_all refine' For_turns lF' ?_; k_whole)))) | ((with_reducible show wpAny _ _ (subscriptTail _ _ (Value.ref _) _) _ _ _); ((k_here; (with_reducible show wpAny _ _ (subscriptTail _ (PySem.Expr.Slice none none none _) (Value.ref _) (Value.ref _)) _ _ _); k_dflt (refine' kmk_slice_lit ?zqF ?zqN ?zql ?zqp ?zqq ?zqe ?_ ?zqs ?zqt ?zqz; (case zqF => k_asm); (case zqN => k_asm); (case zql => kmk_list); (case zqp => kmk_part); (case zqq => kmk_part); (case zqe => exact pick_all); (case zqs => with_unfolding_all rfl); (case zqt => kmk_pure); (case zqz => exact sz100 (by assumption))); intro D' h' F' N' l1))) | ((with_reducible show wpAny _ _ (storeName _ _ _) _ _ _); ((k_here; k_dflt ((refine' store_let ?zqF ?zqN ?_ ?zqa ?zqb; (case zqF => k_asm); (case zqN => k_asm); (case zqa => rfl); (case zqb => rfl); k_whole; intro m' h' tk' F' N'; (try k_sweep)))))) | walk1 | (dsimp only; walk1) | (leave1; (try dsimp only)) | fail "no step")
  (rename News _ _ _ ((_, _) :: (_, _) :: (_, _) :: (_, _) :: (_, _) :: (_, _) :: rest) => kN)
  refine for_items (RowsJ rest _ _ _ _ _ _) rfl (by k_asm) (rows_pick kN) (.tail _ (.tail _ (.head _))) (rows_start (by assumption) (by omega) (by omega) (allLt_of (by assumption))) ?_ ?_
  · intro I m n h tk hJ95 F N; (try k_fold); obtain ⟨pre, rem, ws, gs, nw, ng, n1, hall, hx, rfl, hlt, hltI, hoff, _, hsub, hD, hw, hg, hU⟩ := hJ95
    cases hx
    obtain ⟨u, rfl⟩ := hU.ex
    dsimp only [chain, rowsKs] at F
    refine map_let F ?_; clear F; intro m9 F
    rw [List.append_nil, odd_pick h0 h1] at hall
    subst pre
    repeat' (first | ((k_unfold); (try dsimp only)) | (k_end; kc_close) | ((with_reducible show wpAny _ _ (pyIter (Value.ref _)) _ _ _); first | with_reducible ((k_here; (with_reducible show wpAny _ _ (pyIter (Value.ref _)) (fun it s₂ => TurnsAt _ _ _ _ _ _ _ _ _ it s₂) _ _); fail "no rule"; done)) | ((k_here; (with_reducible show wpAny _ _ (pyIter (Value.ref _)) (fun it s₂ => TurnsAt _ _ _ _ _ _ _ _ _ it s₂) _ _); fail "no rule"; done))) | ((with_reducible show wpAny _ _ (exec (Stmt.For _ _ _ _ _) _) _ _ _); ((k_here; (rename Fr _ _ _ _ => lF'); (with_unfolding_all refine' For_turns lF' ?_; k_whole)))) | ((with_reducible show wpAny _ _ (subscriptTail _ _ (Value.ref _) _) _ _ _); ((k_here; (with_reducible show wpAny _ _ (subscriptTail _ (PySem.Expr.Slice none none none _) (Value.ref _) (Value.ref _)) _ _ _); k_dflt (refine' kmk_slice_lit ?zqF ?zqN ?zql ?zqp ?zqq ?zqe ?_ ?zqs ?zqt ?zqz; (case zqF => k_asm); (case zqN => k_asm); (case zql => kmk_list); (case zqp => kmk_part); (case zqq => kmk_part); (case zqe => exact pick_all); (case zqs => with_unfolding_all rfl); (case zqt => kmk_pure); (case zqz => exact sz100 (by assumption))); intro D' h' F' N' l1))) | ((with_reducible show wpAny _ _ (storeName _ _ _) _ _ _); ((k_here; k_dflt ((refine' store_let ?zqF ?zqN ?_ ?zqa ?zqb; (case zqF => k_asm); (case zqN => k_asm); (case zqa => rfl); (case zqb => rfl); k_whole; intro m' h' tk' F' N'; (try k_sweep)))))) | walk1 | (dsimp only; walk1) | (leave1; (try dsimp only)) | fail "no step")
    exact hret _ _ _ _ ⟨_, _, _, _, _, _, _, _, rfl, rfl, hsub, hw, hg⟩ (by assumption) (by assumption)
  · intro I x xs m n h tk o hJ98 ho F N; (try k_fold); obtain ⟨pre, rem, ws, gs, nw, ng, n1, hall, hx, rfl, hlt, hltI, hoff, hI, hsub, hD, hw, hg, hU⟩ := hJ98
    cases hx
    rename_i hx
    obtain ⟨u, rfl⟩ := hU.ex
    dsimp only [chain, rowsKs] at F
    refine map_let F ?_; clear F; intro m9 F
    (try k_fold)
    have hal : ([1, [203, 11].getD odd.toNat 0, 19] ++ List.take 5 ns).length ≤ 8 := by simp only [List.length_append, List.length_cons, List.length_nil]; omega
    rw [hall, List.length_append] at hal
    have hwl : ws.length ≤ 100 := by rw [hw.length, wantOf_len]; omega
    have hgl : gs.length ≤ 100 := by rw [hg.length]; have := gotOf_len pre; omega
    have hlI := Nat.lt_trans hlt hltI
    repeat' (first | ((k_unfold); (try dsimp only)) | (k_end; kc_close) | ((with_reducible show wpAny _ _ (pyIter (Value.ref _)) _ _ _); first | with_reducible ((k_here; (with_reducible show wpAny _ _ (pyIter (Value.ref _)) (fun it s₂ => TurnsAt _ _ _ _ _ _ _ _ _ it s₂) _ _); fail "no rule"; done)) | ((k_here; (with_reducible show wpAny _ _ (pyIter (Value.ref _)) (fun it s₂ => TurnsAt _ _ _ _ _ _ _ _ _ it s₂) _ _); fail "no rule"; done))) | ((with_reducible show wpAny _ _ (exec (Stmt.For _ _ _ _ _) _) _ _ _); ((k_here; (rename Fr _ _ _ _ => lF'); (with_unfolding_all refine' For_turns lF' ?_; k_whole)))) | ((with_reducible show wpAny _ _ (subscriptTail _ _ (Value.ref _) _) _ _ _); ((k_here; (with_reducible show wpAny _ _ (subscriptTail _ (PySem.Expr.Slice none none none _) (Value.ref _) (Value.ref _)) _ _ _); k_dflt (refine' kmk_slice_lit ?zqF ?zqN ?zql ?zqp ?zqq ?zqe ?_ ?zqs ?zqt ?zqz; (case zqF => k_asm); (case zqN => k_asm); (case zql => kmk_list); (case zqp => kmk_part); (case zqq => kmk_part); (case zqe => exact pick_all); (case zqs => with_unfolding_all rfl); (case zqt => kmk_pure); (case zqz => exact sz100 (by assumption))); intro D' h' F' N' l1))) | ((with_reducible show wpAny _ _ (storeName _ _ _) _ _ _); ((k_here; k_dflt ((refine' store_let ?zqF ?zqN ?_ ?zqa ?zqb; (case zqF => k_asm); (case zqN => k_asm); (case zqa => rfl); (case zqb => rfl); k_whole; intro m' h' tk' F' N'; (try k_sweep)))))) | walk1 | (dsimp only; walk1) | (leave1; (try dsimp only)) | fail "no step")
    all_goals first
      | exact rows_both (by assumption) (by assumption) (by intro y hy; (repeat (first | exact rfl | (refine (upd_skip hy ?_).trans ?_; (decide))))) hall hx hlt hltI hoff hI hsub hD hw hg (by omega) (by omega) (by simp only [howOf, kindOf, partOf]; simp [*]) (by assumption) (by simp only [howOf, kindOf, partOf]; simp [*])
      | exact rows_one (by assumption) (by assumption) (by intro y hy; (repeat (first | exact rfl | (refine (upd_skip hy ?_).trans ?_; (decide))))) hall hx hlt hltI hoff hI hsub hD hw hg (by omega) (by simp only [howOf, kindOf, partOf]; simp [*]) (by assumption)
      | fail "no rule"
end
end Mine
end PartG2
section PartM1
namespace Mine
theorem offM1 : True := by w_top off; trivial
noncomputable def Match : List Int → List Int → Prop
  | [], g => g = []
  | k :: w, g => if k = 6 then ∃ n, Match w (g.drop n) else ∃ g', g = k :: g' ∧ Match w g'
theorem match_six {w g : List Int} : Match (6 :: w) g ↔ ∃ n, Match w (g.drop n) := by rw [Match, if_pos rfl]
theorem match_ne {k : Int} {w g : List Int} (h : k ≠ 6) : Match (k :: w) g ↔ ∃ g', g = k :: g' ∧ Match w g' := by rw [Match, if_neg h]
theorem match_snoc6 : ∀ (pre g : List Int), Match (pre ++ [6]) g ↔ ∃ j, j ≤ g.length ∧ Match pre (g.take j)
  | [], g => by
    rw [List.nil_append, match_six]
    constructor
    · intro _; exact ⟨0, Nat.zero_le _, rfl⟩
    · intro _; exact ⟨g.length, by rw [List.drop_length]; rfl⟩
  | p :: pre, g => by
    rw [List.cons_append]
    by_cases hp : p = 6
    · subst hp
      rw [match_six]
      constructor
      · rintro ⟨n, h⟩
        obtain ⟨j, hj, h⟩ := (match_snoc6 pre _).mp h
        rw [List.length_drop] at hj
        by_cases hn : n ≤ g.length
        · refine ⟨n + j, by omega, match_six.mpr ⟨n, ?_⟩⟩
          rw [List.drop_take, Nat.add_sub_cancel_left]
          exact h
        · refine ⟨g.length, Nat.le_refl _, match_six.mpr ⟨n, ?_⟩⟩
          rw [List.take_length]
          rw [List.drop_eq_nil_of_le (by omega)] at h ⊢
          simpa using h
      · rintro ⟨j, hj, h⟩
        obtain ⟨n, h⟩ := match_six.mp h
        refine ⟨n, (match_snoc6 pre _).mpr ⟨j - n, by rw [List.length_drop]; omega, ?_⟩⟩
        rw [List.drop_take] at h
        exact h
    · rw [match_ne hp]
      constructor
      · rintro ⟨g', rfl, h⟩
        obtain ⟨j, hj, h⟩ := (match_snoc6 pre _).mp h
        exact ⟨j + 1, by simpa using hj, (match_ne hp).mpr ⟨_, by rw [List.take_succ_cons], h⟩⟩
      · rintro ⟨j, hj, h⟩
        obtain ⟨g', e, h⟩ := (match_ne hp).mp h
        cases j with
        | zero => rw [List.take_zero] at e; cases e
        | succ j =>
          cases g with
          | nil => cases e
          | cons a g =>
            rw [List.take_succ_cons] at e
            injection e with e1 e2
            subst e1; subst e2
            exact ⟨g, rfl, (match_snoc6 pre _).mpr ⟨j, by simpa using hj, h⟩⟩
theorem match_snoc (k : Int) (hk : k ≠ 6) : ∀ (pre g : List Int), Match (pre ++ [k]) g ↔ ∃ g', g = g' ++ [k] ∧ Match pre g'
  | [], g => by
    rw [List.nil_append, match_ne hk]
    constructor
    · rintro ⟨g', rfl, h⟩
      have h' : g' = [] := h
      subst h'
      exact ⟨[], rfl, rfl⟩
    · rintro ⟨g', rfl, h⟩
      have h' : g' = [] := h
      subst h'
      exact ⟨[], rfl, rfl⟩
  | p :: pre, g => by
    rw [List.cons_append]
    by_cases hp : p = 6
    · subst hp
      rw [match_six]
      constructor
      · rintro ⟨n, h⟩
        obtain ⟨g', e, h⟩ := (match_snoc k hk pre _).mp h
        refine ⟨g.take n ++ g', ?_, match_six.mpr ⟨(g.take n).length, ?_⟩⟩
        · rw [List.append_assoc, ← e, List.take_append_drop]
        · rw [List.drop_left]; exact h
      · rintro ⟨g', rfl, h⟩
        obtain ⟨n, h⟩ := match_six.mp h
        by_cases hn : n ≤ g'.length
        · refine ⟨n, (match_snoc k hk pre _).mpr ⟨g'.drop n, ?_, h⟩⟩
          rw [List.drop_append_of_le_length hn]
        · refine ⟨g'.length, (match_snoc k hk pre _).mpr ⟨[], ?_, ?_⟩⟩
          · rw [List.drop_left]; rfl
          · rw [List.drop_eq_nil_of_le (by omega)] at h; exact h
    · rw [match_ne hp]
      constructor
      · rintro ⟨g1, rfl, h⟩
        obtain ⟨g', rfl, h2⟩ := (match_snoc k hk pre _).mp h
        exact ⟨p :: g', rfl, (match_ne hp).mpr ⟨g', rfl, h2⟩⟩
      · rintro ⟨g', rfl, h⟩
        obtain ⟨g1, rfl, h2⟩ := (match_ne hp).mp h
        exact ⟨g1 ++ [k], rfl, (match_snoc k hk pre _).mpr ⟨g1, rfl, h2⟩⟩
theorem ends_six {pre g ends ms : List Int} (hsp : ∀ i, i ∈ ends ↔ ∃ j : Nat, i = j ∧ j ≤ g.length ∧ Match pre (g.take j)) (hmm : ∀ a, a ∈ ms ↔ 0 ≤ a ∧ a < ((g.length + 1 : Nat) : Int) ∧ ∃ M ∈ ends, M ≤ a) :
    ∀ i, i ∈ ms ↔ ∃ j : Nat, i = j ∧ j ≤ g.length ∧ Match (pre ++ [6]) (g.take j) := by
  intro i
  rw [hmm]
  constructor
  · rintro ⟨h0, h1, M, hM, hle⟩
    obtain ⟨j, rfl, hj, h⟩ := (hsp M).mp hM
    refine ⟨i.toNat, by omega, by omega, (match_snoc6 _ _).mpr ⟨j, ?_, ?_⟩⟩
    · rw [List.length_take]; omega
    · rw [List.take_take, Nat.min_eq_left (by omega)]; exact h
  · rintro ⟨j, rfl, hj, h⟩
    obtain ⟨j', hj', h⟩ := (match_snoc6 _ _).mp h
    rw [List.length_take] at hj'
    rw [List.take_take, Nat.min_eq_left (by omega)] at h
    exact ⟨by omega, by omega, j', (hsp _).mpr ⟨j', rfl, by omega, h⟩, by omega⟩
theorem ends_ne {k : Int} (hk : k ≠ 6) {pre g ends ms : List Int} (hsp : ∀ i, i ∈ ends ↔ ∃ j : Nat, i = j ∧ j ≤ g.length ∧ Match pre (g.take j)) (hmm : ∀ a, a ∈ ms ↔ ∃ b ∈ ends, ∃ c : Nat, b = c ∧ g[c]? = some k ∧ a = b + 1) :
    ∀ i, i ∈ ms ↔ ∃ j : Nat, i = j ∧ j ≤ g.length ∧ Match (pre ++ [k]) (g.take j) := by
  intro i
  rw [hmm]
  constructor
  · rintro ⟨b, hb, c, rfl, hc, rfl⟩
    obtain ⟨j, e, hj, h⟩ := (hsp _).mp hb
    have e' : c = j := by omega
    subst e'
    obtain ⟨hlt, hget⟩ := List.getElem?_eq_some_iff.mp hc
    refine ⟨c + 1, by omega, by omega, (match_snoc k hk _ _).mpr ⟨g.take c, ?_, h⟩⟩
    rw [List.take_succ_eq_append_getElem hlt, hget]
  · rintro ⟨j, rfl, hj, h⟩
    obtain ⟨g', e, h2⟩ := (match_snoc k hk _ _).mp h
    cases j with
    | zero => rw [List.take_zero] at e; simp at e
    | succ c =>
      have hlt : c < g.length := by omega
      rw [List.take_succ_eq_append_getElem hlt] at e
      have e1 := List.append_inj' e rfl
      refine ⟨(c : Int), (hsp _).mpr ⟨c, rfl, by omega, e1.1 ▸ h2⟩, c, rfl, ?_, by omega⟩
      rw [List.getElem?_eq_getElem hlt]
      have e2 := e1.2
      injection e2 with e2
      rw [e2]
end Mine
end PartM1
section PartG3
open PySem PySem.W PyProof.Rows
namespace Mine
theorem offG3 : True := by w_top off; trivial
theorem off_cells3 {rest : Led} {L : Addr} (h : ∀ p ∈ rest, p.1 < L) : OwnOff rest [L + 1, L + 1 + 1, L + 1 + 1 + 1] := by
  intro p hp b hb
  have h1 : @LT.lt Nat _ p.1 L := h p hp
  have h2 : b = L + 1 ∨ b = L + 1 + 1 ∨ b = L + 1 + 1 + 1 := by simpa using hb
  rcases h2 with rfl | rfl | rfl
  · exact Nat.ne_of_lt (Nat.lt_add_right 1 h1)
  · exact Nat.ne_of_lt (Nat.lt_add_right 2 h1)
  · exact Nat.ne_of_lt (Nat.lt_add_right 3 h1)
section
open PySem.Spec PySem.Calls LCg LCt
variable {prog : Program} {w : World} {A : Around} {s : Shared} {h₀ : Heap} {L : Addr} {m : Str → Option Value} {env : Env} {ct elt : Expr} {x : Str} {scope : Scope} {cl : List (Str × Addr)} {S : Led → Prop} {P : Nat → Value → Prop} {Fin : List Value → Led → Prop}
theorem compT_inv {N : Nat} (J : Nat → List Value → Led → Prop) (done : ∀ ys n, J N ys n → Fin ys n)
    (turn : ∀ i ys news v I oI C oC D m₂ h tk (E' : Value → Shared → Prop), i < N → J i ys news → P i v → NsObj oC m₂ → m₂ x = some v → Fr h₀ L h m → News h₀ L h ((I, oI) :: (C, oC) :: (D, lst ys) :: news) → Off3 I C D news → ((@Ne Nat I C) ∧ (@Ne Nat I D) ∧ (@Ne Nat C D)) →
      wpAny (model prog w) A (isTrue ct (compEnvC scope cl C env) (eval ct (compEnvC scope cl C env))) (fun ok s' => if ok = true then
        wpAny (model prog w) A (eval elt (compEnvC scope cl C env)) (CompEnd h₀ L m { s with heap := h, toks := tk } I oI C oC D (lst ys) S (fun y news' => J (i + 1) (ys ++ [y]) news')) E' s'
        else CompEnd h₀ L m { s with heap := h, toks := tk } I oI C oC D (lst ys) S (fun _ news' => J (i + 1) ys news') Value.none s') E' { s with heap := h, toks := tk }) :
    ∀ k i ys news, i + k = N → J i ys news → CompRestT prog w A h₀ L m env ct elt x scope cl s S P Fin k i ys news
  | 0, i, ys, news, e, hj => by
    have e' : i = N := e
    subst e'
    exact CompRestT.zero (done ys news hj)
  | k + 1, i, ys, news, e, hj => by
    refine CompRestT.succ fun v I oI C oC D m₂ h tk E' hP hC hx F N' off ne => ?_
    refine wpAny_mono (turn i ys news v I oI C oC D m₂ h tk E' (by omega) hj hP hC hx F N' off ne) (fun ok s' h' => ?_) fun _ _ e => e
    cases ok with
    | true =>
      simp only [if_true] at h' ⊢
      refine wpAny_mono h' (fun y s₂ p => ?_) fun _ _ e => e
      obtain ⟨h1, tk1, n1, e1, F1, N1, o1, s1, r1⟩ := p
      exact ⟨h1, tk1, n1, e1, F1, N1, o1, s1, compT_inv J done turn k (i + 1) _ _ (by omega) r1⟩
    | false =>
      simp only [Bool.false_eq_true, if_false] at h' ⊢
      obtain ⟨h1, tk1, n1, e1, F1, N1, o1, s1, r1⟩ := h'
      exact ⟨h1, tk1, n1, e1, F1, N1, o1, s1, compT_inv J done turn k (i + 1) _ _ (by omega) r1⟩
end
theorem off1_mem {D : Addr} : ∀ {l : Led}, LCg.Off1 D l → ∀ p ∈ l, p.1 ≠ D
  | [], _, _, h => nomatch h
  | _ :: _, x, _, h => by
    rcases List.mem_cons.mp h with rfl | h
    · exact x.1
    · exact off1_mem x.2 _ h
noncomputable def CompJ (n₀ : Led) (P : Nat → Int → Prop) (i : Nat) (ys : List Value) (n : Led) : Prop := n = n₀ ∧ ∃ ms, IntsAre ys ms ∧ ms.length ≤ i ∧ ∀ a, a ∈ ms ↔ P i a
inductive FitsJ (rest : Led) (c : Addr) (lg : Addr) (wr gr : List (Int × Int)) (m0 : Str → Option Value) (I : Addr) (xs : List Value) (m' : Str → Option Value) (n' : Led) : Prop
  | mk (pre rem : List (Int × Int)) (le : Addr) (es : List Value) (ends : List Int) (ne : Nat) (o1 o2 o3 : Obj) (v1 : Option Value) (j0 : wr = pre ++ rem) (j1 : RowsIn rest xs rem) (j2 : n' = (le, listOf es.toArray ne) :: (c + 1 + 1 + 1, o1) :: (c + 1 + 1, o2) :: (c + 1, o3) :: rest) (j3 : o1.data = .cell v1) (j4 : o2.data = .cell (some (.ref le))) (j5 : o3.data = .cell (some (.ref lg))) (j6 : IntsAre es ends) (j7 : (∀ i, i ∈ ends ↔ ∃ j : Nat, i = j ∧ j ≤ gr.length ∧ Match (pre.map (·.1)) ((gr.map (·.1)).take j))) (j8 : ends.length ≤ 9) (j9 : (@Ne Nat (c + 1 + 1 + 1) le ∧ @Ne Nat (c + 1 + 1) le ∧ @Ne Nat (c + 1) le)) (j10 : @LT.lt Nat _ (c + 1 + 1 + 1) I) (j11 : (∀ p ∈ rest, p.1 ≠ le)) (j12 : (∀ p ∈ rest, p.1 ≠ I)) (j13 : @Ne Nat le I) (j14 : UpdL [Str.ofString "part"] m' m0) : FitsJ rest c lg wr gr m0 I xs m' n'
theorem fits_start {rest : Led} {c lg : Addr} {zs : List Value} {wr gr : List (Int × Int)} {m0 : Str → Option Value} {le : Addr} {es : List Value} {ne : Nat} {o1 o2 o3 : Obj} {v1 : Option Value} (hi : RowsIn rest zs wr) (hes : IntsAre es [0]) (d1 : o1.data = .cell v1) (d2 : o2.data = .cell (some (.ref le))) (d3 : o3.data = .cell (some (.ref lg))) (h1 : @LT.lt Nat _ (c + 1 + 1 + 1) le ∧ @LT.lt Nat _ (c + 1 + 1) le ∧ @LT.lt Nat _ (c + 1) le ∧ AllLt le rest) :
    ∀ I, (∀ p ∈ ((le, listOf es.toArray ne) :: (c + 1 + 1 + 1, o1) :: (c + 1 + 1, o2) :: (c + 1, o3) :: rest : Led), p.1 < I) → FitsJ rest c lg wr gr m0 I zs m0 ((le, listOf es.toArray ne) :: (c + 1 + 1 + 1, o1) :: (c + 1 + 1, o2) :: (c + 1, o3) :: rest) := by
  intro I hI
  refine ⟨[], wr, le, es, [0], ne, o1, o2, o3, v1, rfl, hi, rfl, d1, d2, d3, hes, ?_, by decide, ⟨Nat.ne_of_lt h1.1, Nat.ne_of_lt h1.2.1, Nat.ne_of_lt h1.2.2.1⟩, hI _ (.tail _ (.head _)), fun p hp => Nat.ne_of_lt (allLt_mem h1.2.2.2 p hp), ?_, Nat.ne_of_lt (hI _ (.head _)), fun _ _ => rfl⟩
  · intro i
    simp only [List.mem_singleton, List.map_nil, Match]
    constructor
    · rintro rfl
      exact ⟨0, rfl, Nat.zero_le _, rfl⟩
    · rintro ⟨j, rfl, hj, h⟩
      have h2 := congrArg List.length h
      rw [List.length_take, List.length_map, List.length_nil] at h2
      omega
  · intro p hp
    exact Nat.ne_of_lt (hI p (.tail _ (.tail _ (.tail _ (.tail _ hp)))))
open Builtin.Range in
theorem rng_facts {n : Nat} (h : n ≤ 8) : small 0 ((n : Int) + 1) 1 = true ∧ rangeSize 0 ((n : Int) + 1) 1 = ((n + 1 : Nat) : Int) := by
  have key : ∀ k : Fin 9, small 0 (((k : Nat) : Int) + 1) 1 = true ∧ rangeSize 0 (((k : Nat) : Int) + 1) 1 = (((k : Nat) + 1 : Nat) : Int) := by decide +kernel
  exact key ⟨n, by omega⟩
section
variable {prog : Program} {w : World} {A : Around} {E : Value → Shared → Prop} {s : Shared}
theorem len_rows {l : Addr} {vs : List Value} {led : Led} {rs : List (Int × Int)} {Q : Value → Shared → Prop} (hl : s.heap.IsList l vs.toArray) (hr : RowsIn led vs rs) (hz : rs.length ≤ 8) (h : Q (.int rs.length (s.toks + 1)) { s with toks := s.toks + 1 + 1 }) :
    wpAny (model prog w) A (call (.builtin "len") [.ref l]) Q E s := by
  refine len_list hl ?_ ?_
  · rw [List.size_toArray, hr.length]; omega
  · rw [List.size_toArray, hr.length]; exact h
end
theorem step_mem {l ms : List Int} {b e : Int} {R : Int → Int → Prop} (h : ∀ a, a ∈ ms ↔ ∃ b' ∈ l, R b' a) (hr : ∀ a, R b a ↔ a = e) : ∀ a, a ∈ ms ++ [e] ↔ ∃ b' ∈ l ++ [b], R b' a := by
  intro a
  rw [List.mem_append, h, List.mem_singleton]
  constructor
  · rintro (⟨b', h1, h2⟩ | h1)
    · exact ⟨b', List.mem_append_left _ h1, h2⟩
    · exact ⟨b, List.mem_append_right _ (.head _), (hr a).mpr h1⟩
  · rintro ⟨b', h1, h2⟩
    rcases List.mem_append.mp h1 with h1 | h1
    · exact .inl ⟨b', h1, h2⟩
    · rw [List.mem_singleton.mp h1] at h2; exact .inr ((hr a).mp h2)
theorem step_no {l ms : List Int} {b : Int} {R : Int → Int → Prop} (h : ∀ a, a ∈ ms ↔ ∃ b' ∈ l, R b' a) (hr : ∀ a, ¬ R b a) : ∀ a, a ∈ ms ↔ ∃ b' ∈ l ++ [b], R b' a := by
  intro a
  rw [h]
  constructor
  · rintro ⟨b', h1, h2⟩
    exact ⟨b', List.mem_append_left _ h1, h2⟩
  · rintro ⟨b', h1, h2⟩
    rcases List.mem_append.mp h1 with h1 | h1
    · exact ⟨b', h1, h2⟩
    · rw [List.mem_singleton.mp h1] at h2; exact absurd h2 (hr a)
theorem ints_get : ∀ {vs : List Value} {ns : List Int} {i : Nat} {v : Value}, IntsAre vs ns → vs[i]? = some v → ∃ k t, v = .int k t ∧ ns[i]? = some k
  | _, _, 0, _, .cons n t _, h => by
    rw [List.getElem?_cons_zero] at h
    exact ⟨n, t, (Option.some.inj h).symm, rfl⟩
  | _, _, i + 1, _, .cons n t r, h => by
    rw [List.getElem?_cons_succ] at h ⊢
    exact ints_get r h
theorem rows_get {led : Led} : ∀ {vs : List Value} {rs : List (Int × Int)} {i : Nat}, RowsIn led vs rs → i < rs.length → ∃ T k p ta tb, vs[i]? = some (.ref T) ∧ rs[i]? = some (k, p) ∧ (T, pairTup k p ta tb) ∈ led
  | _, _, 0, .cons h _, _ => ⟨_, _, _, _, _, rfl, rfl, h⟩
  | _, _, i + 1, .cons _ r, hi => by
    obtain ⟨T, k, p, ta, tb, h1, h2, h3⟩ := rows_get r (i := i) (by simpa using hi)
    exact ⟨T, k, p, ta, tb, by simpa using h1, by simpa using h2, h3⟩
theorem item_rows {prog : Program} {w : World} {A : Around} {E : Value → Shared → Prop} {s : Shared} {value slice : Expr} {l : Addr} {gs : List Value} {gr : List (Int × Int)} {led : Led} {k : Int} {u : Tok} {Q : Value → Shared → Prop}
    (hl : s.heap.IsList l gs.toArray) (hr : RowsIn led gs gr) (h0 : 0 ≤ k) (h3 : k < gr.length) (hz : gr.length ≤ 8) (h : ∀ T kk pp ta tb, gr[k.toNat]? = some (kk, pp) → (T, pairTup kk pp ta tb) ∈ led → Q (.ref T) s)
    (hs : subscripted slice false (.ref l) (.int k u) = operate [.ref l, .int k u] (getItem (.ref l) (.int k u))) (hg : ∀ r, letTemporaryGo value (.ref l) r = pure ()) :
    wpAny (model prog w) A (subscriptTail value slice (.ref l) (.int k u)) Q E s := by
  obtain ⟨T, kk, pp, ta, tb, h1, h2, h4⟩ := rows_get hr (i := k.toNat) (by omega)
  exact item_list hl h0 (by omega) (by simpa using h1) (h T kk pp ta tb h2 h4) hs hg
local macro_rules | `(tactic| walk_at "call builtin:len") => `(tactic| (k_here; (with_reducible show wpAny _ _ (call (Value.builtin "len") [Value.ref _]) _ _ _); (refine' len_rows ?l ?r ?z ?_; (case l => exact News.isList (by k_asm) (by k_mem)); (case r => assumption); (case z => assumption))))
local macro_rules | `(tactic| walk_at "CompSrcT") => `(tactic| (k_here; (with_reducible show LCt.CompSrcT _ _ _ _ _ _ _ _ _ _ _ _ _ _ _); refine halt ?_))
local macro_rules | `(tactic| walk_at "eval ListComp") => `(tactic| (k_here; lct_look; k_dflt (refine LCt.ListComp_T (F₀ := by k_asm) (by with_unfolding_all rfl) (by decide) (by rfl) (by decide) (by rfl) ?_); k_dflt lct_toSrc))
theorem len_pos_of {ns : List Int} (h : decide (ns = []) = false) : 0 < ns.length := by
  cases ns with
  | nil => simp at h
  | cons _ _ => exact Nat.succ_pos _
section
variable {h₀ h' : Heap} {L I D c lg le lw : Addr} {o o1 o2 o3 ole : Obj} {s₁ : Shared} {tk : Nat} {m' m0 : Str → Option Value} {rest : Led} {xs ys ws : List Value} {wr gr pre rs : List (Int × Int)} {k p : Int} {ms : List Int} {v1 : Option Value} {nw : Nat}
theorem fits_end (N : News h₀ L h' ((D, LCg.lst ys) :: (I, o) :: (le, ole) :: (c + 1 + 1 + 1, o1) :: (c + 1 + 1, o2) :: (c + 1, o3) :: rest)) (F : Fr h₀ L h' m') (hU : UpdL [Str.ofString "part"] m' m0) (hall : wr = pre ++ (k, p) :: rs) (hx : RowsIn rest xs rs)
    (d1 : o1.data = .cell v1) (d2 : o2.data = .cell (some (.ref D))) (d3 : o3.data = .cell (some (.ref lg))) (hms : IntsAre ys ms) (hmm : ∀ i, i ∈ ms ↔ ∃ j : Nat, i = j ∧ j ≤ gr.length ∧ Match (pre.map (·.1) ++ [k]) ((gr.map (·.1)).take j)) (hl : ms.length ≤ 9)
    (hI : @Ne Nat I D) (h3 : @Ne Nat (c + 1 + 1 + 1) D) (h2 : @Ne Nat (c + 1 + 1) D) (h1 : @Ne Nat (c + 1) D) (hDr : ∀ p ∈ rest, p.1 ≠ D) (hcI : @LT.lt Nat _ (c + 1 + 1 + 1) I) (hoI : ∀ p ∈ rest, p.1 ≠ I) (mw : (lw, listOf ws.toArray nw) ∈ rest) :
    UnrEndW h₀ L s₁ [(I, o)] (fun m' n' => SubL [(lw, listOf ws.toArray nw)] n' ∧ FitsJ rest c lg wr gr m0 I xs m' n') { s₁ with heap := h', toks := tk } := by
  refine ⟨h', tk, m', (D, listOf ys.toArray ys.length) :: (c + 1 + 1 + 1, o1) :: (c + 1 + 1, o2) :: (c + 1, o3) :: rest, rfl, F, ?_, ?_, ⟨.tail _ (.tail _ (.tail _ (.tail _ mw))), trivial⟩, pre ++ [(k, p)], rs, D, ys, ms, ys.length, o1, o2, o3, v1, ?_, hx, rfl, d1, d2, d3, hms, ?_, hl, ⟨h3, h2, h1⟩, hcI, hDr, hoI, Ne.symm hI, hU⟩
  · intro q hq
    refine N q ?_
    simp only [List.cons_append, List.nil_append, List.mem_cons] at hq ⊢
    rcases hq with h | h | h | h | h | h
    · exact .inr (.inl h)
    · exact .inl h
    · exact .inr (.inr (.inr (.inl h)))
    · exact .inr (.inr (.inr (.inr (.inl h))))
    · exact .inr (.inr (.inr (.inr (.inr (.inl h)))))
    · exact .inr (.inr (.inr (.inr (.inr (.inr h)))))
  · intro q hq r hr
    rw [List.mem_singleton.mp hr]
    simp only [List.mem_cons] at hq
    rcases hq with rfl | rfl | rfl | rfl | h
    · exact Ne.symm hI
    · exact Nat.ne_of_lt hcI
    · exact Nat.ne_of_lt (Nat.lt_trans (Nat.lt_succ_self _) hcI)
    · exact Nat.ne_of_lt (Nat.lt_trans (Nat.lt_trans (Nat.lt_succ_self _) (Nat.lt_succ_self _)) hcI)
    · exact hoI q h
  · rw [hall, List.append_assoc]; rfl
  · intro i
    rw [hmm i, List.map_append]
    rfl
end
section
variable (w : World) (mean : ExcName → Option Value) (mg mb : Str → Option Value) (rest : Led)
theorem fits_ctr (lw lg : Addr) (ws gs : List Value) (wr gr : List (Int × Int)) (nw ng : Nat) (mw : (lw, listOf ws.toArray nw) ∈ rest) (hw : RowsIn rest ws wr) (mg' : (lg, listOf gs.toArray ng) ∈ rest) (hg : RowsIn rest gs gr) (lwl : wr.length ≤ 8) (lgl : gr.length ≤ 8) :
    Ctr w mean mg mb 282 [.ref lw, .ref lg] rest 4 200 (fun v news' => news' = rest ∧ ∃ b : Bool, v = .bool b ∧ (b = true ↔ Match (wr.map (·.1)) (gr.map (·.1)))) := by
  intro dp un gd cn cs a ccd cl outer A₀ base h₀ L m s Q E B F X N T hk hd hu hret
  refine wpAny_call ?_
  k_dflt (refine' code_defC ?k1 ?k2 ?k3 ?k4 ?k5 ?kA ?kF ?kK ?k6 ?k7 ?k8 ?k9 ?kB ?kD ?_ ?c2 ?c3 ?c4; (case kA => exact rfl); (case kF => exact rfl); (case kK => assumption); (case k1 => k_asm); (case k2 => k_asm); (case k3 => k_asm); (case k4 => k_asm); (case k5 => k_asm); (case k6 => k_is); (case k7 => k_is); (case k8 => ktr_room); (case k9 => exact BindsTo.of_eq rfl); (case kB => exact rfl); (case kD => decide +kernel); (case c2 => exact rfl); (case c3 => exact rfl); (case c4 => exact rfl); k_whole; intro g' L' h' tk' cells' FG' F' N' Y' B' X' T' l1; (try k_lt l1); k_cells Y'; (try simp only [List.cons_append, List.nil_append] at N'); (try dsimp only); (try k_fold))
  (rename Fr _ _ _ _ => lF9); refine map_let lF9 ?_; clear lF9; intro m9 lF9
  have hoff := off_cells3 l1
  have l0 := l1
  repeat' (first | ((k_unfold); (try dsimp only)) | (k_end; kc_close) | ((with_reducible show wpAny _ _ (compareOp CmpOp.NotEq (Value.ref _) (Value.ref _)) _ _ _); ((k_here; (with_reducible show wpAny _ _ (compareOp CmpOp.NotEq (Value.ref _) (Value.ref _)) _ _ _); (with_unfolding_all refine' ne_intsK ?zqk1 ?zqk2 ?zqk3 ?zqk4 ?zqk5 ?_; (case zqk1 => is_list); (case zqk2 => l_intsC); (case zqk3 => is_list); (case zqk4 => exact IntsAre.nil); (case zqk5 => ktr_units); k_whole)))) | ((with_reducible show wpAny _ _ (call (Value.builtin "min") _ _) _ _ _); ((k_here; (with_reducible show wpAny _ _ (call (Value.builtin _) [Value.ref _]) _ _ _); (with_unfolding_all refine' kso_min ?zqk1 ?zqk2 ?zqk3 ?zqk4 ?zqk5 ?zqk6 ?_; (case zqk1 => k_asm); (case zqk2 => k_asm); (case zqk3 => kso_list); (case zqk4 => l_ints); (case zqk5 => exact len_pos_of (by assumption)); (case zqk6 => with_unfolding_all rfl); k_whole); intro h' M' t' k' F' N' a' b'))) | ((with_reducible show wpAny _ _ (exec (Stmt.For _ _ _ _ _) _) _ _ _); ((k_here; (rename Fr _ _ _ _ => lF'); (with_unfolding_all refine' For_turns lF' ?_; k_whole)))) | ((with_reducible show wpAny _ _ (subscriptTail _ _ (Value.ref _) _) _ _ _); ((k_here; (with_reducible show wpAny _ _ (subscriptTail _ _ (Value.ref _) (Value.int _ _)) _ _ _); (with_unfolding_all refine' item_rows ?zqk1 ?zqk2 ?zqk3 ?zqk4 ?zqk5 ?_ ?zqk6 ?zqk7; (case zqk1 => exact News.isList (by k_asm) (by k_mem)); (case zqk2 => assumption); (case zqk3 => omega); (case zqk4 => omega); (case zqk5 => assumption); (case zqk6 => with_unfolding_all rfl); (case zqk7 => kmk_pure); k_whole); intro T9 kk9 pp9 ta9 tb9 hg9 hT9))) | ((with_reducible show wpAny _ _ (storeName _ _ _) _ _ _); ((k_here; k_dflt ((refine' store_let ?zqF ?zqN ?_ ?zqa ?zqb; (case zqF => k_asm); (case zqN => k_asm); (case zqa => rfl); (case zqb => rfl); k_whole; intro m' h' tk' F' N'; (try k_sweep)))))) | walk1 | ((with_reducible show wpAny _ _ (exec (Stmt.For _ _ _ _ _) _) _ _ _); ((k_here; (rename Fr _ _ _ _ => lF'); (with_unfolding_all refine' For_turns lF' ?_; k_whole)))) | (dsimp only; walk1) | (leave1; (try dsimp only)) | fail "no step")
  refine for_items (FitsJ rest L' lg wr gr) rfl (by k_asm) (by k_asm) (by k_mem) ?_ ?_ ?_
  · (rename _ ∧ _ ∧ _ ∧ AllLt _ rest => lt9)
    exact fits_start (v1 := none) hw (.cons _ _ .nil) (by assumption) (by assumption) (by assumption) lt9
  · intro I m n h tk hJ95 F N; (try k_fold); obtain ⟨pre, rem, le, es, ends, ne, o1, o2, o3, v1, hall, hx, rfl, d1, d2, d3, hes, hsp, hlen, hlt, hcI, hle, hoI, hne, hU⟩ := hJ95
    cases hx
    obtain ⟨u, rfl⟩ := hU.ex
    dsimp only [chain] at F
    refine map_let F ?_; clear F; intro m9 F
    repeat' (first | ((k_unfold); (try dsimp only)) | (k_end; kc_close) | ((with_reducible show wpAny _ _ (compareOp CmpOp.NotEq (Value.ref _) (Value.ref _)) _ _ _); ((k_here; (with_reducible show wpAny _ _ (compareOp CmpOp.NotEq (Value.ref _) (Value.ref _)) _ _ _); (with_unfolding_all refine' ne_intsK ?zqk1 ?zqk2 ?zqk3 ?zqk4 ?zqk5 ?_; (case zqk1 => is_list); (case zqk2 => l_intsC); (case zqk3 => is_list); (case zqk4 => exact IntsAre.nil); (case zqk5 => ktr_units); k_whole)))) | ((with_reducible show wpAny _ _ (call (Value.builtin "min") _ _) _ _ _); ((k_here; (with_reducible show wpAny _ _ (call (Value.builtin _) [Value.ref _]) _ _ _); (with_unfolding_all refine' kso_min ?zqk1 ?zqk2 ?zqk3 ?zqk4 ?zqk5 ?zqk6 ?_; (case zqk1 => k_asm); (case zqk2 => k_asm); (case zqk3 => kso_list); (case zqk4 => l_ints); (case zqk5 => exact len_pos_of (by assumption)); (case zqk6 => with_unfolding_all rfl); k_whole); intro h' M' t' k' F' N' a' b'))) | ((with_reducible show wpAny _ _ (exec (Stmt.For _ _ _ _ _) _) _ _ _); ((k_here; (rename Fr _ _ _ _ => lF'); (with_unfolding_all refine' For_turns lF' ?_; k_whole)))) | ((with_reducible show wpAny _ _ (subscriptTail _ _ (Value.ref _) _) _ _ _); ((k_here; (with_reducible show wpAny _ _ (subscriptTail _ _ (Value.ref _) (Value.int _ _)) _ _ _); (with_unfolding_all refine' item_rows ?zqk1 ?zqk2 ?zqk3 ?zqk4 ?zqk5 ?_ ?zqk6 ?zqk7; (case zqk1 => exact News.isList (by k_asm) (by k_mem)); (case zqk2 => assumption); (case zqk3 => omega); (case zqk4 => omega); (case zqk5 => assumption); (case zqk6 => with_unfolding_all rfl); (case zqk7 => kmk_pure); k_whole); intro T9 kk9 pp9 ta9 tb9 hg9 hT9))) | ((with_reducible show wpAny _ _ (storeName _ _ _) _ _ _); ((k_here; k_dflt ((refine' store_let ?zqF ?zqN ?_ ?zqa ?zqb; (case zqF => k_asm); (case zqN => k_asm); (case zqa => rfl); (case zqb => rfl); k_whole; intro m' h' tk' F' N'; (try k_sweep)))))) | walk1 | ((with_reducible show wpAny _ _ (exec (Stmt.For _ _ _ _ _) _) _ _ _); ((k_here; (rename Fr _ _ _ _ => lF'); (with_unfolding_all refine' For_turns lF' ?_; k_whole)))) | (dsimp only; walk1) | (leave1; (try dsimp only)) | fail "no step")
    refine hret _ _ _ _ ⟨rfl, _, rfl, ?_⟩ (by assumption) (fun q hq => (by assumption : News h₀ L h ((le, listOf es.toArray ne) :: (L' + 1 + 1 + 1, o1) :: (L' + 1 + 1, o2) :: (L' + 1, o3) :: rest)) q (.tail _ (.tail _ (.tail _ (.tail _ hq)))))
    rw [List.append_nil] at hall
    subst hall
    rw [List.any_eq_true]
    constructor
    · rintro ⟨x, hx, e⟩
      obtain ⟨j, rfl, hj, hm⟩ := (hsp x).mp hx
      have e' : j = gr.length := by have := eq_of_beq e; omega
      rw [e', ← List.length_map (f := (·.1)), List.take_length] at hm
      exact hm
    · intro hm
      refine ⟨(gr.length : Int), (hsp _).mpr ⟨gr.length, rfl, Nat.le_refl _, ?_⟩, by simp⟩
      rw [← List.length_map (f := (·.1)), List.take_length]
      exact hm
  · intro I x xs m n h tk o hJ98 ho F N; (try k_fold); obtain ⟨pre, rem, le, es, ends, ne, o1, o2, o3, v1, hall, hx, rfl, d1, d2, d3, hes, hsp, hlen, hlt, hcI, hle, hoI, hne, hU⟩ := hJ98
    cases hx
    rename_i T_ k_ p_ ta_ tb_ rs_ hTm hx
    obtain ⟨u, rfl⟩ := hU.ex
    dsimp only [chain] at F
    refine map_let F ?_; clear F; intro m9 F
    (try k_fold)
    repeat' (first | ((k_unfold); (try dsimp only)) | (k_end; kc_close) | ((with_reducible show wpAny _ _ (compareOp CmpOp.NotEq (Value.ref _) (Value.ref _)) _ _ _); ((k_here; (with_reducible show wpAny _ _ (compareOp CmpOp.NotEq (Value.ref _) (Value.ref _)) _ _ _); (with_unfolding_all refine' ne_intsK ?zqk1 ?zqk2 ?zqk3 ?zqk4 ?zqk5 ?_; (case zqk1 => is_list); (case zqk2 => l_intsC); (case zqk3 => is_list); (case zqk4 => exact IntsAre.nil); (case zqk5 => ktr_units); k_whole)))) | ((with_reducible show wpAny _ _ (call (Value.builtin "min") _ _) _ _ _); ((k_here; (with_reducible show wpAny _ _ (call (Value.builtin _) [Value.ref _]) _ _ _); (with_unfolding_all refine' kso_min ?zqk1 ?zqk2 ?zqk3 ?zqk4 ?zqk5 ?zqk6 ?_; (case zqk1 => k_asm); (case zqk2 => k_asm); (case zqk3 => kso_list); (case zqk4 => l_ints); (case zqk5 => exact len_pos_of (by assumption)); (case zqk6 => with_unfolding_all rfl); k_whole); intro h' M' t' k' F' N' a' b'))) | ((with_reducible show wpAny _ _ (exec (Stmt.For _ _ _ _ _) _) _ _ _); ((k_here; (rename Fr _ _ _ _ => lF'); (with_unfolding_all refine' For_turns lF' ?_; k_whole)))) | ((with_reducible show wpAny _ _ (subscriptTail _ _ (Value.ref _) _) _ _ _); ((k_here; (with_reducible show wpAny _ _ (subscriptTail _ _ (Value.ref _) (Value.int _ _)) _ _ _); (with_unfolding_all refine' item_rows ?zqk1 ?zqk2 ?zqk3 ?zqk4 ?zqk5 ?_ ?zqk6 ?zqk7; (case zqk1 => exact News.isList (by k_asm) (by k_mem)); (case zqk2 => assumption); (case zqk3 => omega); (case zqk4 => omega); (case zqk5 => assumption); (case zqk6 => with_unfolding_all rfl); (case zqk7 => kmk_pure); k_whole); intro T9 kk9 pp9 ta9 tb9 hg9 hT9))) | ((with_reducible show wpAny _ _ (storeName _ _ _) _ _ _); ((k_here; k_dflt ((refine' store_let ?zqF ?zqN ?_ ?zqa ?zqb; (case zqF => k_asm); (case zqN => k_asm); (case zqa => rfl); (case zqb => rfl); k_whole; intro m' h' tk' F' N'; (try k_sweep)))))) | walk1 | ((with_reducible show wpAny _ _ (exec (Stmt.For _ _ _ _ _) _) _ _ _); ((k_here; (rename Fr _ _ _ _ => lF'); (with_unfolding_all refine' For_turns lF' ?_; k_whole)))) | (dsimp only; walk1) | (leave1; (try dsimp only)) | fail "no step")
    · unfold Halt
      k_dflt (refine LCt.CompSrcT.range (by rfl) (by k_asm) (by k_asm) (by assumption) (rng_facts lgl).1 (rng_facts lgl).2 (by rw [sizeLine_eq]; omega) ?_)
      intro g9
      refine compT_inv (N := gr.length + 1) (CompJ _ fun i a => 0 ≤ a ∧ a < i ∧ ∃ M ∈ ends, M ≤ a) ?_ ?_ _ 0 [] _ (by omega) ⟨rfl, [], .nil, Nat.le_refl _, by intro a; simp; omega⟩
      · intro ys n hJ92 D h tk F N o1; (try k_fold); obtain ⟨rfl, ms, hms, hml, hmm⟩ := hJ92
        simp only [LCg.Off1] at o1
        have hDr : ∀ p ∈ rest, p.1 ≠ D := off1_mem o1.2.2.2.2.2
        repeat' (first | ((k_unfold); (try dsimp only)) | (k_end; kc_close) | ((with_reducible show wpAny _ _ (compareOp CmpOp.NotEq (Value.ref _) (Value.ref _)) _ _ _); ((k_here; (with_reducible show wpAny _ _ (compareOp CmpOp.NotEq (Value.ref _) (Value.ref _)) _ _ _); (with_unfolding_all refine' ne_intsK ?zqk1 ?zqk2 ?zqk3 ?zqk4 ?zqk5 ?_; (case zqk1 => is_list); (case zqk2 => l_intsC); (case zqk3 => is_list); (case zqk4 => exact IntsAre.nil); (case zqk5 => ktr_units); k_whole)))) | ((with_reducible show wpAny _ _ (call (Value.builtin "min") _ _) _ _ _); ((k_here; (with_reducible show wpAny _ _ (call (Value.builtin _) [Value.ref _]) _ _ _); (with_unfolding_all refine' kso_min ?zqk1 ?zqk2 ?zqk3 ?zqk4 ?zqk5 ?zqk6 ?_; (case zqk1 => k_asm); (case zqk2 => k_asm); (case zqk3 => kso_list); (case zqk4 => l_ints); (case zqk5 => exact len_pos_of (by assumption)); (case zqk6 => with_unfolding_all rfl); k_whole); intro h' M' t' k' F' N' a' b'))) | ((with_reducible show wpAny _ _ (exec (Stmt.For _ _ _ _ _) _) _ _ _); ((k_here; (rename Fr _ _ _ _ => lF'); (with_unfolding_all refine' For_turns lF' ?_; k_whole)))) | ((with_reducible show wpAny _ _ (subscriptTail _ _ (Value.ref _) _) _ _ _); ((k_here; (with_reducible show wpAny _ _ (subscriptTail _ _ (Value.ref _) (Value.int _ _)) _ _ _); (with_unfolding_all refine' item_rows ?zqk1 ?zqk2 ?zqk3 ?zqk4 ?zqk5 ?_ ?zqk6 ?zqk7; (case zqk1 => exact News.isList (by k_asm) (by k_mem)); (case zqk2 => assumption); (case zqk3 => omega); (case zqk4 => omega); (case zqk5 => assumption); (case zqk6 => with_unfolding_all rfl); (case zqk7 => kmk_pure); k_whole); intro T9 kk9 pp9 ta9 tb9 hg9 hT9))) | ((with_reducible show wpAny _ _ (storeName _ _ _) _ _ _); ((k_here; k_dflt ((refine' store_let ?zqF ?zqN ?_ ?zqa ?zqb; (case zqF => k_asm); (case zqN => k_asm); (case zqa => rfl); (case zqb => rfl); k_whole; intro m' h' tk' F' N'; (try k_sweep)))))) | walk1 | ((with_reducible show wpAny _ _ (exec (Stmt.For _ _ _ _ _) _) _ _ _); ((k_here; (rename Fr _ _ _ _ => lF'); (with_unfolding_all refine' For_turns lF' ?_; k_whole)))) | (dsimp only; walk1) | (leave1; (try dsimp only)) | fail "no step")
        refine fits_end (by assumption) (by assumption) (by intro y hy; (repeat (first | exact rfl | (refine (upd_skip hy ?_).trans ?_; (decide))))) hall hx (by assumption) (by assumption) (by assumption) hms ?_ (by omega) o1.1 o1.2.2.1 o1.2.2.2.1 o1.2.2.2.2.1 hDr hcI hoI mw
        have e6 : k_ = 6 := by assumption
        rw [e6]
        simpa only [List.length_map] using ends_six (g := gr.map (·.1)) (by simpa only [List.length_map] using hsp) (by simpa only [List.length_map] using hmm)
      · intro i ys n v I' oI' C oC D m₂ h tk E' hi hJ104 hJ105 hC hx9 F N off ne9; (try k_fold); obtain ⟨rfl, ms, hms, hml, hmm⟩ := hJ104; obtain ⟨t, rfl⟩ := hJ105
        have off9 := off
        simp only [LCg.Off3] at off9
        repeat' (first | ((k_unfold); (try dsimp only)) | (k_end; kc_close) | ((with_reducible show wpAny _ _ (compareOp CmpOp.NotEq (Value.ref _) (Value.ref _)) _ _ _); ((k_here; (with_reducible show wpAny _ _ (compareOp CmpOp.NotEq (Value.ref _) (Value.ref _)) _ _ _); (with_unfolding_all refine' ne_intsK ?zqk1 ?zqk2 ?zqk3 ?zqk4 ?zqk5 ?_; (case zqk1 => is_list); (case zqk2 => l_intsC); (case zqk3 => is_list); (case zqk4 => exact IntsAre.nil); (case zqk5 => ktr_units); k_whole)))) | ((with_reducible show wpAny _ _ (call (Value.builtin "min") _ _) _ _ _); ((k_here; (with_reducible show wpAny _ _ (call (Value.builtin _) [Value.ref _]) _ _ _); (with_unfolding_all refine' kso_min ?zqk1 ?zqk2 ?zqk3 ?zqk4 ?zqk5 ?zqk6 ?_; (case zqk1 => k_asm); (case zqk2 => k_asm); (case zqk3 => kso_list); (case zqk4 => l_ints); (case zqk5 => exact len_pos_of (by assumption)); (case zqk6 => with_unfolding_all rfl); k_whole); intro h' M' t' k' F' N' a' b'))) | ((with_reducible show wpAny _ _ (exec (Stmt.For _ _ _ _ _) _) _ _ _); ((k_here; (rename Fr _ _ _ _ => lF'); (with_unfolding_all refine' For_turns lF' ?_; k_whole)))) | ((with_reducible show wpAny _ _ (subscriptTail _ _ (Value.ref _) _) _ _ _); ((k_here; (with_reducible show wpAny _ _ (subscriptTail _ _ (Value.ref _) (Value.int _ _)) _ _ _); (with_unfolding_all refine' item_rows ?zqk1 ?zqk2 ?zqk3 ?zqk4 ?zqk5 ?_ ?zqk6 ?zqk7; (case zqk1 => exact News.isList (by k_asm) (by k_mem)); (case zqk2 => assumption); (case zqk3 => omega); (case zqk4 => omega); (case zqk5 => assumption); (case zqk6 => with_unfolding_all rfl); (case zqk7 => kmk_pure); k_whole); intro T9 kk9 pp9 ta9 tb9 hg9 hT9))) | ((with_reducible show wpAny _ _ (storeName _ _ _) _ _ _); ((k_here; k_dflt ((refine' store_let ?zqF ?zqN ?_ ?zqa ?zqb; (case zqF => k_asm); (case zqN => k_asm); (case zqa => rfl); (case zqb => rfl); k_whole; intro m' h' tk' F' N'; (try k_sweep)))))) | walk1 | ((with_reducible show wpAny _ _ (exec (Stmt.For _ _ _ _ _) _) _ _ _); ((k_here; (rename Fr _ _ _ _ => lF'); (with_unfolding_all refine' For_turns lF' ?_; k_whole)))) | (dsimp only; walk1) | (leave1; (try dsimp only)) | fail "no step")
        · (rename decide (ends = []) = true => hz)
          have hz := of_decide_eq_true hz
          subst hz
          refine LCg.CompEnd.intro (by assumption) (by assumption) _ (fun q hq => .tail _ hq) off trivial ⟨rfl, ms, hms, by omega, ?_⟩
          intro a
          rw [hmm]
          simp
        · (rename _ ≤ 0 + (i : Int) => hle9)
          (rename _ ∈ ends => hM9)
          refine LCg.CompEnd.intro (by assumption) (by assumption) _ (fun q hq => .tail _ hq) off trivial ⟨rfl, ms ++ [0 + (i : Int)], hms.append (.cons _ _ .nil), by rw [List.length_append, List.length_singleton]; omega, ?_⟩
          intro a
          rw [List.mem_append, hmm, List.mem_singleton]
          constructor
          · rintro (⟨h1, h2, h3⟩ | rfl)
            · exact ⟨h1, by omega, h3⟩
            · exact ⟨by omega, by omega, _, hM9, hle9⟩
          · rintro ⟨h1, h2, h3⟩
            by_cases e : a = 0 + (i : Int)
            · exact .inr e
            · exact .inl ⟨h1, by omega, h3⟩
        · (rename ¬ _ ≤ 0 + (i : Int) => hle9)
          (rename ∀ a, a ∈ ends → _ ≤ a => hM9)
          refine LCg.CompEnd.intro (by assumption) (by assumption) _ (fun q hq => .tail _ hq) off trivial ⟨rfl, ms, hms, by omega, ?_⟩
          intro a
          rw [hmm]
          constructor
          · rintro ⟨h1, h2, h3⟩
            exact ⟨h1, by omega, h3⟩
          · rintro ⟨h1, h2, M, h3, h4⟩
            have := hM9 M h3
            exact ⟨h1, by omega, M, h3, h4⟩
    · unfold Halt
      k_dflt (refine LCt.CompSrcT.ledger (by rfl) (by k_asm) (by k_asm) (by k_mem) (by rw [List.size_toArray, hes.length, sizeLine_eq]; omega) ?_)
      intro g9
      refine compT_inv (N := es.toArray.size) (CompJ _ fun i a => ∃ b ∈ ends.take i, ∃ c : Nat, b = c ∧ (gr.map (·.1))[c]? = some k_ ∧ a = b + 1) ?_ ?_ _ 0 [] _ (by omega) ⟨rfl, [], .nil, Nat.le_refl _, by intro a; simp⟩
      · intro ys n hJ92 D h tk F N o1; (try k_fold); obtain ⟨rfl, ms, hms, hml, hmm⟩ := hJ92
        simp only [LCg.Off1] at o1
        have hDr : ∀ p ∈ rest, p.1 ≠ D := off1_mem o1.2.2.2.2.2
        repeat' (first | ((k_unfold); (try dsimp only)) | (k_end; kc_close) | ((with_reducible show wpAny _ _ (compareOp CmpOp.NotEq (Value.ref _) (Value.ref _)) _ _ _); ((k_here; (with_reducible show wpAny _ _ (compareOp CmpOp.NotEq (Value.ref _) (Value.ref _)) _ _ _); (with_unfolding_all refine' ne_intsK ?zqk1 ?zqk2 ?zqk3 ?zqk4 ?zqk5 ?_; (case zqk1 => is_list); (case zqk2 => l_intsC); (case zqk3 => is_list); (case zqk4 => exact IntsAre.nil); (case zqk5 => ktr_units); k_whole)))) | ((with_reducible show wpAny _ _ (call (Value.builtin "min") _ _) _ _ _); ((k_here; (with_reducible show wpAny _ _ (call (Value.builtin _) [Value.ref _]) _ _ _); (with_unfolding_all refine' kso_min ?zqk1 ?zqk2 ?zqk3 ?zqk4 ?zqk5 ?zqk6 ?_; (case zqk1 => k_asm); (case zqk2 => k_asm); (case zqk3 => kso_list); (case zqk4 => l_ints); (case zqk5 => exact len_pos_of (by assumption)); (case zqk6 => with_unfolding_all rfl); k_whole); intro h' M' t' k' F' N' a' b'))) | ((with_reducible show wpAny _ _ (exec (Stmt.For _ _ _ _ _) _) _ _ _); ((k_here; (rename Fr _ _ _ _ => lF'); (with_unfolding_all refine' For_turns lF' ?_; k_whole)))) | ((with_reducible show wpAny _ _ (subscriptTail _ _ (Value.ref _) _) _ _ _); ((k_here; (with_reducible show wpAny _ _ (subscriptTail _ _ (Value.ref _) (Value.int _ _)) _ _ _); (with_unfolding_all refine' item_rows ?zqk1 ?zqk2 ?zqk3 ?zqk4 ?zqk5 ?_ ?zqk6 ?zqk7; (case zqk1 => exact News.isList (by k_asm) (by k_mem)); (case zqk2 => assumption); (case zqk3 => omega); (case zqk4 => omega); (case zqk5 => assumption); (case zqk6 => with_unfolding_all rfl); (case zqk7 => kmk_pure); k_whole); intro T9 kk9 pp9 ta9 tb9 hg9 hT9))) | ((with_reducible show wpAny _ _ (storeName _ _ _) _ _ _); ((k_here; k_dflt ((refine' store_let ?zqF ?zqN ?_ ?zqa ?zqb; (case zqF => k_asm); (case zqN => k_asm); (case zqa => rfl); (case zqb => rfl); k_whole; intro m' h' tk' F' N'; (try k_sweep)))))) | walk1 | ((with_reducible show wpAny _ _ (exec (Stmt.For _ _ _ _ _) _) _ _ _); ((k_here; (rename Fr _ _ _ _ => lF'); (with_unfolding_all refine' For_turns lF' ?_; k_whole)))) | (dsimp only; walk1) | (leave1; (try dsimp only)) | fail "no step")
        rw [List.size_toArray, hes.length] at hml hmm
        refine fits_end (by assumption) (by assumption) (by intro y hy; (repeat (first | exact rfl | (refine (upd_skip hy ?_).trans ?_; (decide))))) hall hx (by assumption) (by assumption) (by assumption) hms ?_ (by omega) o1.1 o1.2.2.1 o1.2.2.2.1 o1.2.2.2.2.1 hDr hcI hoI mw
        have e6 : k_ ≠ 6 := by assumption
        simpa only [List.length_map] using ends_ne e6 (g := gr.map (·.1)) (by simpa only [List.length_map] using hsp) (by simpa only [List.take_length] using hmm)
      · intro i ys n v I' oI' C oC D m₂ h tk E' hi hJ104 hv hC hx9 F N off ne9; (try k_fold); obtain ⟨rfl, ms, hms, hml, hmm⟩ := hJ104
        have off9 := off
        simp only [LCg.Off3] at off9
        obtain ⟨b, t, rfl, hb⟩ := ints_get hes (by simpa using hv)
        have hb0 : 0 ≤ b := by
          obtain ⟨j, e, _⟩ := (hsp b).mp (List.mem_of_getElem? hb)
          omega
        have htk : ends.take (i + 1) = ends.take i ++ [b] := by
          obtain ⟨hlt, hget⟩ := List.getElem?_eq_some_iff.mp hb
          rw [List.take_succ_eq_append_getElem hlt, hget]
        repeat' (first | ((k_unfold); (try dsimp only)) | (k_end; kc_close) | ((with_reducible show wpAny _ _ (compareOp CmpOp.NotEq (Value.ref _) (Value.ref _)) _ _ _); ((k_here; (with_reducible show wpAny _ _ (compareOp CmpOp.NotEq (Value.ref _) (Value.ref _)) _ _ _); (with_unfolding_all refine' ne_intsK ?zqk1 ?zqk2 ?zqk3 ?zqk4 ?zqk5 ?_; (case zqk1 => is_list); (case zqk2 => l_intsC); (case zqk3 => is_list); (case zqk4 => exact IntsAre.nil); (case zqk5 => ktr_units); k_whole)))) | ((with_reducible show wpAny _ _ (call (Value.builtin "min") _ _) _ _ _); ((k_here; (with_reducible show wpAny _ _ (call (Value.builtin _) [Value.ref _]) _ _ _); (with_unfolding_all refine' kso_min ?zqk1 ?zqk2 ?zqk3 ?zqk4 ?zqk5 ?zqk6 ?_; (case zqk1 => k_asm); (case zqk2 => k_asm); (case zqk3 => kso_list); (case zqk4 => l_ints); (case zqk5 => exact len_pos_of (by assumption)); (case zqk6 => with_unfolding_all rfl); k_whole); intro h' M' t' k' F' N' a' b'))) | ((with_reducible show wpAny _ _ (exec (Stmt.For _ _ _ _ _) _) _ _ _); ((k_here; (rename Fr _ _ _ _ => lF'); (with_unfolding_all refine' For_turns lF' ?_; k_whole)))) | ((with_reducible show wpAny _ _ (subscriptTail _ _ (Value.ref _) _) _ _ _); ((k_here; (with_reducible show wpAny _ _ (subscriptTail _ _ (Value.ref _) (Value.int _ _)) _ _ _); (with_unfolding_all refine' item_rows ?zqk1 ?zqk2 ?zqk3 ?zqk4 ?zqk5 ?_ ?zqk6 ?zqk7; (case zqk1 => exact News.isList (by k_asm) (by k_mem)); (case zqk2 => assumption); (case zqk3 => omega); (case zqk4 => omega); (case zqk5 => assumption); (case zqk6 => with_unfolding_all rfl); (case zqk7 => kmk_pure); k_whole); intro T9 kk9 pp9 ta9 tb9 hg9 hT9))) | ((with_reducible show wpAny _ _ (storeName _ _ _) _ _ _); ((k_here; k_dflt ((refine' store_let ?zqF ?zqN ?_ ?zqa ?zqb; (case zqF => k_asm); (case zqN => k_asm); (case zqa => rfl); (case zqb => rfl); k_whole; intro m' h' tk' F' N'; (try k_sweep)))))) | walk1 | ((with_reducible show wpAny _ _ (exec (Stmt.For _ _ _ _ _) _) _ _ _); ((k_here; (rename Fr _ _ _ _ => lF'); (with_unfolding_all refine' For_turns lF' ?_; k_whole)))) | (dsimp only; walk1) | (leave1; (try dsimp only)) | fail "no step")
        · (rename gr[_]? = some _ => hg9)
          (rename _ = k_ => e9)
          refine LCg.CompEnd.intro (by assumption) (by assumption) _ (fun q hq => hq) off (.inr ⟨_, .tail _ (.head _), rfl, _, rfl⟩) ⟨rfl, ms ++ [b + 1], hms.append (.cons _ _ .nil), by rw [List.length_append, List.length_singleton]; omega, ?_⟩
          show ∀ a, a ∈ _ ↔ ∃ b ∈ List.take (i + 1) ends, _
          rw [htk]
          refine step_mem hmm fun a => ⟨fun ⟨c, _, _, e⟩ => e, fun e => ⟨b.toNat, by omega, ?_, e⟩⟩
          rw [List.getElem?_map, hg9, ← e9]
          rfl
        · (rename gr[_]? = some _ => hg9)
          (rename _ ≠ k_ => e9)
          refine LCg.CompEnd.intro (by assumption) (by assumption) _ (fun q hq => hq) off (.inr ⟨_, .tail _ (.head _), rfl, _, rfl⟩) ⟨rfl, ms, hms, by omega, ?_⟩
          show ∀ a, a ∈ _ ↔ ∃ b ∈ List.take (i + 1) ends, _
          rw [htk]
          refine step_no hmm fun a ⟨c, hc, h2, e⟩ => e9 ?_
          have : c = b.toNat := by omega
          rw [this, List.getElem?_map, hg9] at h2
          exact Option.some.inj h2
        · (rename ¬ b < _ => e9)
          refine LCg.CompEnd.intro (by assumption) (by assumption) _ (fun q hq => hq) off (.inr ⟨_, .tail _ (.head _), rfl, _, rfl⟩) ⟨rfl, ms, hms, by omega, ?_⟩
          show ∀ a, a ∈ _ ↔ ∃ b ∈ List.take (i + 1) ends, _
          rw [htk]
          refine step_no hmm fun a ⟨c, hc, h2, e⟩ => e9 ?_
          have := (List.getElem?_eq_some_iff.mp h2).1
          rw [List.length_map] at this
          omega
end
end Mine
end PartG3
section PartG4
open PySem PySem.W PyProof.Rows
namespace Mine
theorem offG4 : True := by w_top off; trivial
theorem halt_ {p : Prop} (h : Halt p) : p := h
noncomputable def encOf (d : Nat) (s : Str) : Str := if (s == Str.ofString "\\") = true then Txt.mul (Str.ofString "\\") (2 ^ d) else if (s == Str.ofString "\"") = true then Txt.mul (Str.ofString "\\") (2 ^ d - 1) ++ Str.ofString "\"" else s
noncomputable def rowSign (turn : Int) (gap : Str) (r : Int × Int) : Str := if r.1 = 6 then gap else signOf ((r.1 + turn).fmod 6) gap
noncomputable def bodyOf (h : Str) (f : Int × Int → Str) : List (Int × Int) → Str
  | [] => h
  | r :: l => bodyOf (h ++ f r) f l
theorem bodyOf_snoc (f : Int × Int → Str) (r : Int × Int) : ∀ (l : List (Int × Int)) (h : Str), bodyOf h f (l ++ [r]) = bodyOf h f l ++ f r
  | [], _ => rfl
  | _ :: l, _ => bodyOf_snoc f r l _
theorem bodyOf_len (f : Int × Int → Str) (hf : ∀ r, (f r).length ≤ 9) : ∀ (l : List (Int × Int)) (h : Str), (bodyOf h f l).length ≤ h.length + 9 * l.length
  | [], _ => Nat.le_add_right _ _
  | r :: l, h => by
    have h1 := bodyOf_len f hf l (h ++ f r)
    have h2 := hf r
    rw [Str.length_append] at h1
    simp only [bodyOf, List.length_cons]
    omega
noncomputable abbrev wrKs : List Str := [Str.ofString "kind", Str.ofString "part", Str.ofString "sign", Str.ofString "text"]
inductive WrJ (rest led : Led) (h : Str) (f : Int × Int → Str) (rr : List (Int × Int)) (m0 : Str → Option Value) (I : Addr) (xs : List Value) (m' : Str → Option Value) (n' : Led) : Prop
  | mk (pre rem : List (Int × Int)) (tt : Tok) (j0 : rr = pre ++ rem) (j1 : RowsIn rest xs rem) (j2 : n' = led) (j3 : (∀ p ∈ led, p.1 ≠ I)) (j4 : m' (Str.ofString "text") = some (.str (bodyOf h f pre) tt)) (j5 : UpdL wrKs m' m0) : WrJ rest led h f rr m0 I xs m' n'
theorem wr_start {rest led : Led} {h : Str} {f : Int × Int → Str} {rr : List (Int × Int)} {m0 : Str → Option Value} {rs : List Value} {tt : Tok} (hr : RowsIn rest rs rr) (htx : m0 (Str.ofString "text") = some (.str h tt)) : ∀ I, (∀ p ∈ led, p.1 < I) → WrJ rest led h f rr m0 I rs m0 led :=
  fun _ hI => ⟨[], rr, tt, rfl, hr, rfl, fun p hp => Nat.ne_of_lt (hI p hp), htx, fun _ _ => rfl⟩
theorem UpdL.ex' {ks : List Str} {m' m : Str → Option Value} (h : UpdL ks m' m) : m' = chain ks m' m := by
  funext y
  rw [chain_at]
  by_cases hy : y ∈ ks
  · rw [if_pos hy]
  · rw [if_neg hy]; exact h y hy
noncomputable def headOf : Nat → Str
  | 1 => Str.ofString "p=\""
  | 2 => Str.ofString "p=\"p=\\\""
  | _ => Str.ofString "p=\"p=\\\"p=\\\\\\\""
noncomputable def tailOf : Nat → Str
  | 1 => Str.ofString "\""
  | 2 => Str.ofString "\\\"\""
  | _ => Str.ofString "\\\\\\\"\\\"\""
noncomputable def writtenOf (d : Nat) (turn : Int) (gap : Str) (rr : List (Int × Int)) : Str := bodyOf (headOf d) (fun r => encOf d (rowSign turn gap r)) rr ++ tailOf d
theorem enc_bs {d : Nat} {s y : Str} (h : (s == Str.ofString "\\") = true) (e : y = Txt.mul (Str.ofString "\\") (2 ^ d)) : y = encOf d s := by unfold encOf; rw [if_pos h]; exact e
theorem enc_q {d : Nat} {s y : Str} (h : (s == Str.ofString "\\") = false) (h2 : (s == Str.ofString "\"") = true) (e : y = Txt.mul (Str.ofString "\\") (2 ^ d - 1) ++ Str.ofString "\"") : y = encOf d s := by unfold encOf; rw [if_neg (by rw [h]; decide), if_pos h2]; exact e
theorem enc_o {d : Nat} {s : Str} (h : (s == Str.ofString "\\") = false) (h2 : (s == Str.ofString "\"") = false) : s = encOf d s := by unfold encOf; rw [if_neg (by rw [h]; decide), if_neg (by rw [h2]; decide)]
theorem row_six {turn : Int} {gap : Str} {k p : Int} (h : k = 6) : rowSign turn gap (k, p) = gap := by unfold rowSign; rw [if_pos h]
theorem row_ne {turn : Int} {gap : Str} {k p : Int} (h : k ≠ 6) : rowSign turn gap (k, p) = signOf ((k + turn).fmod 6) gap := by unfold rowSign; rw [if_neg h]
theorem sign_len (k : Int) {g : Str} (hg : g.length ≤ 3) : (signOf k g).length ≤ 3 := by
  unfold signOf
  split
  · exact hg
  · exact Nat.le_trans (Nat.le_of_eq (len_item _ _)) (by decide)
section
variable {h₀ h' : Heap} {L I lr : Addr} {o : Obj} {s₁ : Shared} {tk : Nat} {m' m0 : Str → Option Value} {rest led : Led} {xs rs : List Value} {rr pre rm : List (Int × Int)} {k p : Int} {nr : Nat} {hd z : Str} {f : Int × Int → Str} {tt : Tok}
theorem wr_end (N : News h₀ L h' ((I, o) :: led)) (F : Fr h₀ L h' m') (hall : rr = pre ++ (k, p) :: rm) (hx : RowsIn rest xs rm) (hI : ∀ p ∈ led, p.1 ≠ I) (htx : m' (Str.ofString "text") = some (.str (bodyOf hd f pre ++ z) tt)) (hz : z = f (k, p)) (hU : UpdL wrKs m' m0) (mr : (lr, listOf rs.toArray nr) ∈ led) :
    UnrEndW h₀ L s₁ [(I, o)] (fun m' n' => SubL [(lr, listOf rs.toArray nr)] n' ∧ WrJ rest led hd f rr m0 I xs m' n') { s₁ with heap := h', toks := tk } :=
  ⟨h', tk, m', led, rfl, F, N, fun q hq r hr => by rw [List.mem_singleton.mp hr]; exact hI q hq, ⟨mr, trivial⟩, pre ++ [(k, p)], rm, tt, by rw [hall, List.append_assoc]; rfl, hx, rfl, hI, by rw [htx, bodyOf_snoc, hz], hU⟩
end
theorem mul_lit {prog : Program} {w : World} {A : Around} {E : Value → Shared → Prop} {s : Shared} {x : Str} {t u : Tok} {n : Int} {Q : Value → Shared → Prop} (y : String) (e : Txt.mul x n = Str.ofString y) (h1 : x.length ≤ 16) (h2 : n ≤ ((8 : Nat) : Int)) (h3 : -(2 ^ 63 : Int) ≤ n) (h : ∀ t' k, Q (.str (Str.ofString y) t') { s with toks := k }) :
    wpAny (model prog w) A (binaryOp .Mult (.str x t) (.int n u)) Q E s :=
  SB.mul (mulOk_of 16 8 h1 h2 h3 (by decide) (by decide)) fun t' k => e ▸ h t' k
theorem enc_len {d : Nat} (hd : d ≤ 3) (turn : Int) {gap : Str} (hg : gap.length ≤ 3) (r : Int × Int) : (encOf d (rowSign turn gap r)).length ≤ 9 := by
  have h1 : (rowSign turn gap r).length ≤ 3 := by
    unfold rowSign
    split
    · exact hg
    · unfold signOf
      split
      · exact hg
      · exact Nat.le_trans (Nat.le_of_eq (len_item _ _)) (by decide)
  unfold encOf
  have : d = 0 ∨ d = 1 ∨ d = 2 ∨ d = 3 := by omega
  split
  · rcases this with rfl | rfl | rfl | rfl <;> decide +kernel
  · split
    · rcases this with rfl | rfl | rfl | rfl <;> decide +kernel
    · omega
theorem body_le {d : Nat} {h : Str} (hd : d ≤ 3) (turn : Int) {gap : Str} (hg : gap.length ≤ 3) (hh : h.length ≤ 20) {l : List (Int × Int)} (hl : l.length ≤ 8) : (bodyOf h (fun r => encOf d (rowSign turn gap r)) l).length ≤ 100 := by
  have := bodyOf_len _ (enc_len hd turn hg) l h
  omega
section
variable (w : World) (mean : ExcName → Option Value) (mg mb : Str → Option Value) (rest : Led)
theorem written1 (lr : Addr) (rs : List Value) (rr : List (Int × Int)) (nr : Nat) (gap : Str) (turn : Int) (t1 t2 t3 : Tok) (mr : (lr, listOf rs.toArray nr) ∈ rest) (hr : RowsIn rest rs rr) (lrl : rr.length ≤ 8) (hgl : gap.length ≤ 3) :
    Ctr w mean mg mb 277 [.ref lr, .int turn t1, .str gap t2, .int 1 t3] rest 4 200 (fun v news' => news' = rest ∧ ∃ t, v = .str (writtenOf 1 turn gap rr) t) := by
  intro dp un gd cn cs a ccd cl outer A₀ base h₀ L m s Q E B F X N T hk hd hu hret
  refine wpAny_call ?_
  k_dflt ktr_enter
  (rename Fr _ _ _ _ => lF9); refine map_let lF9 ?_; clear lF9; intro m9 lF9; refine frame_let ?_; intro A9 env9
  repeat' (first | ((k_unfold); (try dsimp only)) | (k_end; kc_close) | ((with_reducible show wpAny _ _ (binaryOp Operator.Mult (Value.str _ _) (Value.int _ _)) _ _ _); first | with_reducible ((k_here; first | (refine mul_lit "" (by decide +kernel) (by decide +kernel) (by decide +kernel) (by decide +kernel) ?_; intro _ _) | (refine mul_lit "\\" (by decide +kernel) (by decide +kernel) (by decide +kernel) (by decide +kernel) ?_; intro _ _) | (refine mul_lit "\\\\\\" (by decide +kernel) (by decide +kernel) (by decide +kernel) (by decide +kernel) ?_; intro _ _) | (refine mul_lit "\\\\\\\\\\\\\\" (by decide +kernel) (by decide +kernel) (by decide +kernel) (by decide +kernel) ?_; intro _ _) | (refine mul_lit "\\\\" (by decide +kernel) (by decide +kernel) (by decide +kernel) (by decide +kernel) ?_; intro _ _) | (refine mul_lit "\\\\\\\\" (by decide +kernel) (by decide +kernel) (by decide +kernel) (by decide +kernel) ?_; intro _ _) | (refine mul_lit "\\\\\\\\\\\\\\\\" (by decide +kernel) (by decide +kernel) (by decide +kernel) (by decide +kernel) ?_; intro _ _))) | ((k_here; first | (refine mul_lit "" (by decide +kernel) (by decide +kernel) (by decide +kernel) (by decide +kernel) ?_; intro _ _) | (refine mul_lit "\\" (by decide +kernel) (by decide +kernel) (by decide +kernel) (by decide +kernel) ?_; intro _ _) | (refine mul_lit "\\\\\\" (by decide +kernel) (by decide +kernel) (by decide +kernel) (by decide +kernel) ?_; intro _ _) | (refine mul_lit "\\\\\\\\\\\\\\" (by decide +kernel) (by decide +kernel) (by decide +kernel) (by decide +kernel) ?_; intro _ _) | (refine mul_lit "\\\\" (by decide +kernel) (by decide +kernel) (by decide +kernel) (by decide +kernel) ?_; intro _ _) | (refine mul_lit "\\\\\\\\" (by decide +kernel) (by decide +kernel) (by decide +kernel) (by decide +kernel) ?_; intro _ _) | (refine mul_lit "\\\\\\\\\\\\\\\\" (by decide +kernel) (by decide +kernel) (by decide +kernel) (by decide +kernel) ?_; intro _ _)))) | ((with_reducible show wpAny _ _ (call (Value.ref _) _ _) _ _ _); ((k_here; (with_reducible show wpAny _ _ (call (Value.ref 244) [Value.int _ _, Value.str _ _] _) _ _ _); k_dflt (refine' use_val (law_sign _ _ _ _ _ _ _ _ _ ?zqp1 ?zqp2) ?zqB ?zqF ?zqX ?zqN ?zqT ?zqhk ?zqhd ?zqhu ?_; (case zqp1 => first | omega | exact fmod6_lo _ | (simp; done)); (case zqp2 => first | omega | exact fmod6_hi _ | (simp; done)); (case zqB => k_asm); (case zqF => k_asm); (case zqX => k_asm); (case zqN => k_asm); (case zqT => k_asm); (case zqhk => first | exact rfl | assumption); (case zqhd => first | exact room (by assumption) (by decide) | exact room0 (by assumption) (by decide) | ktr_room); (case zqhu => first | exact room (by assumption) (by decide) | exact room0 (by assumption) (by decide) | ktr_units); intro h9 tk9 t9 F9 N9; (try dsimp only); (try k_sweep); (try k_fold))))) | ((with_reducible show wpAny _ _ (pyIter (Value.ref _)) _ _ _); first | with_reducible ((k_here; (with_reducible show wpAny _ _ (pyIter (Value.ref _)) (fun it s₂ => TurnsAt _ _ _ _ _ _ _ _ _ it s₂) _ _); refine halt_ ?_)) | ((k_here; (with_reducible show wpAny _ _ (pyIter (Value.ref _)) (fun it s₂ => TurnsAt _ _ _ _ _ _ _ _ _ it s₂) _ _); refine halt_ ?_))) | ((with_reducible show wpAny _ _ (exec (Stmt.For _ _ _ _ _) _) _ _ _); ((k_here; (rename Fr _ _ _ _ => lF'); (with_unfolding_all refine' For_turns lF' ?_; k_whole)))) | ((with_reducible show LCg.CompEnd _ _ _ _ _ _ _ _ _ _ _ _ _ _); ((k_here; (with_unfolding_all refine LCg.CompEnd.intro (by assumption) (by assumption) _ (fun q hq => hq) (by assumption) (by first | exact trivial | exact Or.inr ⟨_, .head _, rfl, _, rfl⟩) ?_)))) | ((with_reducible show wpAny _ _ (storeName _ _ _) _ _ _); ((k_here; k_dflt ((refine' store_let ?zqF ?zqN ?_ ?zqa ?zqb; (case zqF => k_asm); (case zqN => k_asm); (case zqa => rfl); (case zqb => rfl); k_whole; intro m' h' tk' F' N'; (try k_sweep)))))) | walk1 | ((with_reducible show wpAny _ _ (exec (Stmt.For _ _ _ _ _) _) _ _ _); ((k_here; (rename Fr _ _ _ _ => lF'); (with_unfolding_all refine' For_turns lF' ?_; k_whole)))) | (dsimp only; walk1) | (leave1; (try dsimp only)) | fail "no step")
  unfold Halt
  refine for_items (WrJ rest _ _ (fun r => encOf 1 (rowSign turn gap r)) rr) rfl (by k_asm) (by k_asm) (by k_mem) (wr_start (h := headOf 1) hr rfl) ?_ ?_
  · intro I m n h tk hJ95 F N; (try k_fold); obtain ⟨pre, rem, tt, hall, hx, rfl, hI, htx, hU⟩ := hJ95
    cases hx
    rw [List.append_nil] at hall
    subst hall
    have hTl := body_le (d := 1) (h := headOf 1) (by decide) turn hgl (by decide +kernel) lrl
    rw [hU.ex'] at F
    dsimp only [chain] at F
    simp only [htx] at F
    refine map_let F ?_; clear F; intro m9 F
    repeat' (first | ((k_unfold); (try dsimp only)) | (k_end; kc_close) | ((with_reducible show wpAny _ _ (binaryOp Operator.Mult (Value.str _ _) (Value.int _ _)) _ _ _); first | with_reducible ((k_here; first | (refine mul_lit "" (by decide +kernel) (by decide +kernel) (by decide +kernel) (by decide +kernel) ?_; intro _ _) | (refine mul_lit "\\" (by decide +kernel) (by decide +kernel) (by decide +kernel) (by decide +kernel) ?_; intro _ _) | (refine mul_lit "\\\\\\" (by decide +kernel) (by decide +kernel) (by decide +kernel) (by decide +kernel) ?_; intro _ _) | (refine mul_lit "\\\\\\\\\\\\\\" (by decide +kernel) (by decide +kernel) (by decide +kernel) (by decide +kernel) ?_; intro _ _) | (refine mul_lit "\\\\" (by decide +kernel) (by decide +kernel) (by decide +kernel) (by decide +kernel) ?_; intro _ _) | (refine mul_lit "\\\\\\\\" (by decide +kernel) (by decide +kernel) (by decide +kernel) (by decide +kernel) ?_; intro _ _) | (refine mul_lit "\\\\\\\\\\\\\\\\" (by decide +kernel) (by decide +kernel) (by decide +kernel) (by decide +kernel) ?_; intro _ _))) | ((k_here; first | (refine mul_lit "" (by decide +kernel) (by decide +kernel) (by decide +kernel) (by decide +kernel) ?_; intro _ _) | (refine mul_lit "\\" (by decide +kernel) (by decide +kernel) (by decide +kernel) (by decide +kernel) ?_; intro _ _) | (refine mul_lit "\\\\\\" (by decide +kernel) (by decide +kernel) (by decide +kernel) (by decide +kernel) ?_; intro _ _) | (refine mul_lit "\\\\\\\\\\\\\\" (by decide +kernel) (by decide +kernel) (by decide +kernel) (by decide +kernel) ?_; intro _ _) | (refine mul_lit "\\\\" (by decide +kernel) (by decide +kernel) (by decide +kernel) (by decide +kernel) ?_; intro _ _) | (refine mul_lit "\\\\\\\\" (by decide +kernel) (by decide +kernel) (by decide +kernel) (by decide +kernel) ?_; intro _ _) | (refine mul_lit "\\\\\\\\\\\\\\\\" (by decide +kernel) (by decide +kernel) (by decide +kernel) (by decide +kernel) ?_; intro _ _)))) | ((with_reducible show wpAny _ _ (call (Value.ref _) _ _) _ _ _); ((k_here; (with_reducible show wpAny _ _ (call (Value.ref 244) [Value.int _ _, Value.str _ _] _) _ _ _); k_dflt (refine' use_val (law_sign _ _ _ _ _ _ _ _ _ ?zqp1 ?zqp2) ?zqB ?zqF ?zqX ?zqN ?zqT ?zqhk ?zqhd ?zqhu ?_; (case zqp1 => first | omega | exact fmod6_lo _ | (simp; done)); (case zqp2 => first | omega | exact fmod6_hi _ | (simp; done)); (case zqB => k_asm); (case zqF => k_asm); (case zqX => k_asm); (case zqN => k_asm); (case zqT => k_asm); (case zqhk => first | exact rfl | assumption); (case zqhd => first | exact room (by assumption) (by decide) | exact room0 (by assumption) (by decide) | ktr_room); (case zqhu => first | exact room (by assumption) (by decide) | exact room0 (by assumption) (by decide) | ktr_units); intro h9 tk9 t9 F9 N9; (try dsimp only); (try k_sweep); (try k_fold))))) | ((with_reducible show wpAny _ _ (pyIter (Value.ref _)) _ _ _); first | with_reducible ((k_here; (with_reducible show wpAny _ _ (pyIter (Value.ref _)) (fun it s₂ => TurnsAt _ _ _ _ _ _ _ _ _ it s₂) _ _); refine halt_ ?_)) | ((k_here; (with_reducible show wpAny _ _ (pyIter (Value.ref _)) (fun it s₂ => TurnsAt _ _ _ _ _ _ _ _ _ it s₂) _ _); refine halt_ ?_))) | ((with_reducible show wpAny _ _ (exec (Stmt.For _ _ _ _ _) _) _ _ _); ((k_here; (rename Fr _ _ _ _ => lF'); (with_unfolding_all refine' For_turns lF' ?_; k_whole)))) | ((with_reducible show LCg.CompEnd _ _ _ _ _ _ _ _ _ _ _ _ _ _); ((k_here; (with_unfolding_all refine LCg.CompEnd.intro (by assumption) (by assumption) _ (fun q hq => hq) (by assumption) (by first | exact trivial | exact Or.inr ⟨_, .head _, rfl, _, rfl⟩) ?_)))) | ((with_reducible show wpAny _ _ (storeName _ _ _) _ _ _); ((k_here; k_dflt ((refine' store_let ?zqF ?zqN ?_ ?zqa ?zqb; (case zqF => k_asm); (case zqN => k_asm); (case zqa => rfl); (case zqb => rfl); k_whole; intro m' h' tk' F' N'; (try k_sweep)))))) | walk1 | ((with_reducible show wpAny _ _ (exec (Stmt.For _ _ _ _ _) _) _ _ _); ((k_here; (rename Fr _ _ _ _ => lF'); (with_unfolding_all refine' For_turns lF' ?_; k_whole)))) | (dsimp only; walk1) | (leave1; (try dsimp only)) | fail "no step")
    refine hret _ _ _ _ ⟨rfl, _, congrArg (fun z => Value.str z _) (congrArg (bodyOf (headOf 1) (fun r => encOf 1 (rowSign turn gap r)) rr ++ ·) ?_)⟩ (by assumption) (fun q hq => by (rename News _ _ _ _ => kN); exact kN q (.tail _ (.tail _ (.tail _ hq))))
    decide +kernel
  · intro I x xs m n h tk o hJ98 ho F N; (try k_fold); obtain ⟨pre, rem, tt, hall, hx, rfl, hI, htx, hU⟩ := hJ98
    cases hx
    rename_i T_ k_ p_ ta_ tb_ rs_ hTm hx
    have hpl : pre.length ≤ 8 := by rw [hall, List.length_append] at lrl; omega
    have hTl := body_le (d := 1) (h := headOf 1) (by decide) turn hgl (by decide +kernel) hpl
    have hsl := sign_len ((k_ + turn).fmod 6) hgl
    rw [hU.ex'] at F
    dsimp only [chain] at F
    simp only [htx] at F
    refine map_let F ?_; clear F; intro m9 F
    repeat' (first | ((k_unfold); (try dsimp only)) | (k_end; kc_close) | ((with_reducible show wpAny _ _ (binaryOp Operator.Mult (Value.str _ _) (Value.int _ _)) _ _ _); first | with_reducible ((k_here; first | (refine mul_lit "" (by decide +kernel) (by decide +kernel) (by decide +kernel) (by decide +kernel) ?_; intro _ _) | (refine mul_lit "\\" (by decide +kernel) (by decide +kernel) (by decide +kernel) (by decide +kernel) ?_; intro _ _) | (refine mul_lit "\\\\\\" (by decide +kernel) (by decide +kernel) (by decide +kernel) (by decide +kernel) ?_; intro _ _) | (refine mul_lit "\\\\\\\\\\\\\\" (by decide +kernel) (by decide +kernel) (by decide +kernel) (by decide +kernel) ?_; intro _ _) | (refine mul_lit "\\\\" (by decide +kernel) (by decide +kernel) (by decide +kernel) (by decide +kernel) ?_; intro _ _) | (refine mul_lit "\\\\\\\\" (by decide +kernel) (by decide +kernel) (by decide +kernel) (by decide +kernel) ?_; intro _ _) | (refine mul_lit "\\\\\\\\\\\\\\\\" (by decide +kernel) (by decide +kernel) (by decide +kernel) (by decide +kernel) ?_; intro _ _))) | ((k_here; first | (refine mul_lit "" (by decide +kernel) (by decide +kernel) (by decide +kernel) (by decide +kernel) ?_; intro _ _) | (refine mul_lit "\\" (by decide +kernel) (by decide +kernel) (by decide +kernel) (by decide +kernel) ?_; intro _ _) | (refine mul_lit "\\\\\\" (by decide +kernel) (by decide +kernel) (by decide +kernel) (by decide +kernel) ?_; intro _ _) | (refine mul_lit "\\\\\\\\\\\\\\" (by decide +kernel) (by decide +kernel) (by decide +kernel) (by decide +kernel) ?_; intro _ _) | (refine mul_lit "\\\\" (by decide +kernel) (by decide +kernel) (by decide +kernel) (by decide +kernel) ?_; intro _ _) | (refine mul_lit "\\\\\\\\" (by decide +kernel) (by decide +kernel) (by decide +kernel) (by decide +kernel) ?_; intro _ _) | (refine mul_lit "\\\\\\\\\\\\\\\\" (by decide +kernel) (by decide +kernel) (by decide +kernel) (by decide +kernel) ?_; intro _ _)))) | ((with_reducible show wpAny _ _ (call (Value.ref _) _ _) _ _ _); ((k_here; (with_reducible show wpAny _ _ (call (Value.ref 244) [Value.int _ _, Value.str _ _] _) _ _ _); k_dflt (refine' use_val (law_sign _ _ _ _ _ _ _ _ _ ?zqp1 ?zqp2) ?zqB ?zqF ?zqX ?zqN ?zqT ?zqhk ?zqhd ?zqhu ?_; (case zqp1 => first | omega | exact fmod6_lo _ | (simp; done)); (case zqp2 => first | omega | exact fmod6_hi _ | (simp; done)); (case zqB => k_asm); (case zqF => k_asm); (case zqX => k_asm); (case zqN => k_asm); (case zqT => k_asm); (case zqhk => first | exact rfl | assumption); (case zqhd => first | exact room (by assumption) (by decide) | exact room0 (by assumption) (by decide) | ktr_room); (case zqhu => first | exact room (by assumption) (by decide) | exact room0 (by assumption) (by decide) | ktr_units); intro h9 tk9 t9 F9 N9; (try dsimp only); (try k_sweep); (try k_fold))))) | ((with_reducible show wpAny _ _ (pyIter (Value.ref _)) _ _ _); first | with_reducible ((k_here; (with_reducible show wpAny _ _ (pyIter (Value.ref _)) (fun it s₂ => TurnsAt _ _ _ _ _ _ _ _ _ it s₂) _ _); refine halt_ ?_)) | ((k_here; (with_reducible show wpAny _ _ (pyIter (Value.ref _)) (fun it s₂ => TurnsAt _ _ _ _ _ _ _ _ _ it s₂) _ _); refine halt_ ?_))) | ((with_reducible show wpAny _ _ (exec (Stmt.For _ _ _ _ _) _) _ _ _); ((k_here; (rename Fr _ _ _ _ => lF'); (with_unfolding_all refine' For_turns lF' ?_; k_whole)))) | ((with_reducible show LCg.CompEnd _ _ _ _ _ _ _ _ _ _ _ _ _ _); ((k_here; (with_unfolding_all refine LCg.CompEnd.intro (by assumption) (by assumption) _ (fun q hq => hq) (by assumption) (by first | exact trivial | exact Or.inr ⟨_, .head _, rfl, _, rfl⟩) ?_)))) | ((with_reducible show wpAny _ _ (storeName _ _ _) _ _ _); ((k_here; k_dflt ((refine' store_let ?zqF ?zqN ?_ ?zqa ?zqb; (case zqF => k_asm); (case zqN => k_asm); (case zqa => rfl); (case zqb => rfl); k_whole; intro m' h' tk' F' N'; (try k_sweep)))))) | walk1 | ((with_reducible show wpAny _ _ (exec (Stmt.For _ _ _ _ _) _) _ _ _); ((k_here; (rename Fr _ _ _ _ => lF'); (with_unfolding_all refine' For_turns lF' ?_; k_whole)))) | (dsimp only; walk1) | (leave1; (try dsimp only)) | fail "no step")
    all_goals first
      | (refine wr_end (by assumption) (by assumption) hall hx hI rfl ?_ (by intro y hy; (repeat (first | exact rfl | (refine (upd_skip hy ?_).trans ?_; (decide))))) (.tail _ (.tail _ mr)); first | (rw [row_six (by assumption)]; first | exact enc_bs (by assumption) (by decide +kernel) | exact enc_q (by assumption) (by assumption) (by decide +kernel) | exact enc_o (by assumption) (by assumption)) | (rw [row_ne (by assumption)]; first | exact enc_bs (by assumption) (by decide +kernel) | exact enc_q (by assumption) (by assumption) (by decide +kernel) | exact enc_o (by assumption) (by assumption)))
      | fail "no rule"
theorem written2 (lr : Addr) (rs : List Value) (rr : List (Int × Int)) (nr : Nat) (gap : Str) (turn : Int) (t1 t2 t3 : Tok) (mr : (lr, listOf rs.toArray nr) ∈ rest) (hr : RowsIn rest rs rr) (lrl : rr.length ≤ 8) (hgl : gap.length ≤ 3) :
    Ctr w mean mg mb 277 [.ref lr, .int turn t1, .str gap t2, .int 2 t3] rest 4 200 (fun v news' => news' = rest ∧ ∃ t, v = .str (writtenOf 2 turn gap rr) t) := by
  intro dp un gd cn cs a ccd cl outer A₀ base h₀ L m s Q E B F X N T hk hd hu hret
  refine wpAny_call ?_
  k_dflt ktr_enter
  (rename Fr _ _ _ _ => lF9); refine map_let lF9 ?_; clear lF9; intro m9 lF9; refine frame_let ?_; intro A9 env9
  repeat' (first | ((k_unfold); (try dsimp only)) | (k_end; kc_close) | ((with_reducible show wpAny _ _ (binaryOp Operator.Mult (Value.str _ _) (Value.int _ _)) _ _ _); first | with_reducible ((k_here; first | (refine mul_lit "" (by decide +kernel) (by decide +kernel) (by decide +kernel) (by decide +kernel) ?_; intro _ _) | (refine mul_lit "\\" (by decide +kernel) (by decide +kernel) (by decide +kernel) (by decide +kernel) ?_; intro _ _) | (refine mul_lit "\\\\\\" (by decide +kernel) (by decide +kernel) (by decide +kernel) (by decide +kernel) ?_; intro _ _) | (refine mul_lit "\\\\\\\\\\\\\\" (by decide +kernel) (by decide +kernel) (by decide +kernel) (by decide +kernel) ?_; intro _ _) | (refine mul_lit "\\\\" (by decide +kernel) (by decide +kernel) (by decide +kernel) (by decide +kernel) ?_; intro _ _) | (refine mul_lit "\\\\\\\\" (by decide +kernel) (by decide +kernel) (by decide +kernel) (by decide +kernel) ?_; intro _ _) | (refine mul_lit "\\\\\\\\\\\\\\\\" (by decide +kernel) (by decide +kernel) (by decide +kernel) (by decide +kernel) ?_; intro _ _))) | ((k_here; first | (refine mul_lit "" (by decide +kernel) (by decide +kernel) (by decide +kernel) (by decide +kernel) ?_; intro _ _) | (refine mul_lit "\\" (by decide +kernel) (by decide +kernel) (by decide +kernel) (by decide +kernel) ?_; intro _ _) | (refine mul_lit "\\\\\\" (by decide +kernel) (by decide +kernel) (by decide +kernel) (by decide +kernel) ?_; intro _ _) | (refine mul_lit "\\\\\\\\\\\\\\" (by decide +kernel) (by decide +kernel) (by decide +kernel) (by decide +kernel) ?_; intro _ _) | (refine mul_lit "\\\\" (by decide +kernel) (by decide +kernel) (by decide +kernel) (by decide +kernel) ?_; intro _ _) | (refine mul_lit "\\\\\\\\" (by decide +kernel) (by decide +kernel) (by decide +kernel) (by decide +kernel) ?_; intro _ _) | (refine mul_lit "\\\\\\\\\\\\\\\\" (by decide +kernel) (by decide +kernel) (by decide +kernel) (by decide +kernel) ?_; intro _ _)))) | ((with_reducible show wpAny _ _ (call (Value.ref _) _ _) _ _ _); ((k_here; (with_reducible show wpAny _ _ (call (Value.ref 244) [Value.int _ _, Value.str _ _] _) _ _ _); k_dflt (refine' use_val (law_sign _ _ _ _ _ _ _ _ _ ?zqp1 ?zqp2) ?zqB ?zqF ?zqX ?zqN ?zqT ?zqhk ?zqhd ?zqhu ?_; (case zqp1 => first | omega | exact fmod6_lo _ | (simp; done)); (case zqp2 => first | omega | exact fmod6_hi _ | (simp; done)); (case zqB => k_asm); (case zqF => k_asm); (case zqX => k_asm); (case zqN => k_asm); (case zqT => k_asm); (case zqhk => first | exact rfl | assumption); (case zqhd => first | exact room (by assumption) (by decide) | exact room0 (by assumption) (by decide) | ktr_room); (case zqhu => first | exact room (by assumption) (by decide) | exact room0 (by assumption) (by decide) | ktr_units); intro h9 tk9 t9 F9 N9; (try dsimp only); (try k_sweep); (try k_fold))))) | ((with_reducible show wpAny _ _ (pyIter (Value.ref _)) _ _ _); first | with_reducible ((k_here; (with_reducible show wpAny _ _ (pyIter (Value.ref _)) (fun it s₂ => TurnsAt _ _ _ _ _ _ _ _ _ it s₂) _ _); refine halt_ ?_)) | ((k_here; (with_reducible show wpAny _ _ (pyIter (Value.ref _)) (fun it s₂ => TurnsAt _ _ _ _ _ _ _ _ _ it s₂) _ _); refine halt_ ?_))) | ((with_reducible show wpAny _ _ (exec (Stmt.For _ _ _ _ _) _) _ _ _); ((k_here; (rename Fr _ _ _ _ => lF'); (with_unfolding_all refine' For_turns lF' ?_; k_whole)))) | ((with_reducible show LCg.CompEnd _ _ _ _ _ _ _ _ _ _ _ _ _ _); ((k_here; (with_unfolding_all refine LCg.CompEnd.intro (by assumption) (by assumption) _ (fun q hq => hq) (by assumption) (by first | exact trivial | exact Or.inr ⟨_, .head _, rfl, _, rfl⟩) ?_)))) | ((with_reducible show wpAny _ _ (storeName _ _ _) _ _ _); ((k_here; k_dflt ((refine' store_let ?zqF ?zqN ?_ ?zqa ?zqb; (case zqF => k_asm); (case zqN => k_asm); (case zqa => rfl); (case zqb => rfl); k_whole; intro m' h' tk' F' N'; (try k_sweep)))))) | walk1 | ((with_reducible show wpAny _ _ (exec (Stmt.For _ _ _ _ _) _) _ _ _); ((k_here; (rename Fr _ _ _ _ => lF'); (with_unfolding_all refine' For_turns lF' ?_; k_whole)))) | (dsimp only; walk1) | (leave1; (try dsimp only)) | fail "no step")
  unfold Halt
  refine for_items (WrJ rest _ _ (fun r => encOf 2 (rowSign turn gap r)) rr) rfl (by k_asm) (by k_asm) (by k_mem) (wr_start (h := headOf 2) hr rfl) ?_ ?_
  · intro I m n h tk hJ95 F N; (try k_fold); obtain ⟨pre, rem, tt, hall, hx, rfl, hI, htx, hU⟩ := hJ95
    cases hx
    rw [List.append_nil] at hall
    subst hall
    have hTl := body_le (d := 2) (h := headOf 2) (by decide) turn hgl (by decide +kernel) lrl
    rw [hU.ex'] at F
    dsimp only [chain] at F
    simp only [htx] at F
    refine map_let F ?_; clear F; intro m9 F
    repeat' (first | ((k_unfold); (try dsimp only)) | (k_end; kc_close) | ((with_reducible show wpAny _ _ (binaryOp Operator.Mult (Value.str _ _) (Value.int _ _)) _ _ _); first | with_reducible ((k_here; first | (refine mul_lit "" (by decide +kernel) (by decide +kernel) (by decide +kernel) (by decide +kernel) ?_; intro _ _) | (refine mul_lit "\\" (by decide +kernel) (by decide +kernel) (by decide +kernel) (by decide +kernel) ?_; intro _ _) | (refine mul_lit "\\\\\\" (by decide +kernel) (by decide +kernel) (by decide +kernel) (by decide +kernel) ?_; intro _ _) | (refine mul_lit "\\\\\\\\\\\\\\" (by decide +kernel) (by decide +kernel) (by decide +kernel) (by decide +kernel) ?_; intro _ _) | (refine mul_lit "\\\\" (by decide +kernel) (by decide +kernel) (by decide +kernel) (by decide +kernel) ?_; intro _ _) | (refine mul_lit "\\\\\\\\" (by decide +kernel) (by decide +kernel) (by decide +kernel) (by decide +kernel) ?_; intro _ _) | (refine mul_lit "\\\\\\\\\\\\\\\\" (by decide +kernel) (by decide +kernel) (by decide +kernel) (by decide +kernel) ?_; intro _ _))) | ((k_here; first | (refine mul_lit "" (by decide +kernel) (by decide +kernel) (by decide +kernel) (by decide +kernel) ?_; intro _ _) | (refine mul_lit "\\" (by decide +kernel) (by decide +kernel) (by decide +kernel) (by decide +kernel) ?_; intro _ _) | (refine mul_lit "\\\\\\" (by decide +kernel) (by decide +kernel) (by decide +kernel) (by decide +kernel) ?_; intro _ _) | (refine mul_lit "\\\\\\\\\\\\\\" (by decide +kernel) (by decide +kernel) (by decide +kernel) (by decide +kernel) ?_; intro _ _) | (refine mul_lit "\\\\" (by decide +kernel) (by decide +kernel) (by decide +kernel) (by decide +kernel) ?_; intro _ _) | (refine mul_lit "\\\\\\\\" (by decide +kernel) (by decide +kernel) (by decide +kernel) (by decide +kernel) ?_; intro _ _) | (refine mul_lit "\\\\\\\\\\\\\\\\" (by decide +kernel) (by decide +kernel) (by decide +kernel) (by decide +kernel) ?_; intro _ _)))) | ((with_reducible show wpAny _ _ (call (Value.ref _) _ _) _ _ _); ((k_here; (with_reducible show wpAny _ _ (call (Value.ref 244) [Value.int _ _, Value.str _ _] _) _ _ _); k_dflt (refine' use_val (law_sign _ _ _ _ _ _ _ _ _ ?zqp1 ?zqp2) ?zqB ?zqF ?zqX ?zqN ?zqT ?zqhk ?zqhd ?zqhu ?_; (case zqp1 => first | omega | exact fmod6_lo _ | (simp; done)); (case zqp2 => first | omega | exact fmod6_hi _ | (simp; done)); (case zqB => k_asm); (case zqF => k_asm); (case zqX => k_asm); (case zqN => k_asm); (case zqT => k_asm); (case zqhk => first | exact rfl | assumption); (case zqhd => first | exact room (by assumption) (by decide) | exact room0 (by assumption) (by decide) | ktr_room); (case zqhu => first | exact room (by assumption) (by decide) | exact room0 (by assumption) (by decide) | ktr_units); intro h9 tk9 t9 F9 N9; (try dsimp only); (try k_sweep); (try k_fold))))) | ((with_reducible show wpAny _ _ (pyIter (Value.ref _)) _ _ _); first | with_reducible ((k_here; (with_reducible show wpAny _ _ (pyIter (Value.ref _)) (fun it s₂ => TurnsAt _ _ _ _ _ _ _ _ _ it s₂) _ _); refine halt_ ?_)) | ((k_here; (with_reducible show wpAny _ _ (pyIter (Value.ref _)) (fun it s₂ => TurnsAt _ _ _ _ _ _ _ _ _ it s₂) _ _); refine halt_ ?_))) | ((with_reducible show wpAny _ _ (exec (Stmt.For _ _ _ _ _) _) _ _ _); ((k_here; (rename Fr _ _ _ _ => lF'); (with_unfolding_all refine' For_turns lF' ?_; k_whole)))) | ((with_reducible show LCg.CompEnd _ _ _ _ _ _ _ _ _ _ _ _ _ _); ((k_here; (with_unfolding_all refine LCg.CompEnd.intro (by assumption) (by assumption) _ (fun q hq => hq) (by assumption) (by first | exact trivial | exact Or.inr ⟨_, .head _, rfl, _, rfl⟩) ?_)))) | ((with_reducible show wpAny _ _ (storeName _ _ _) _ _ _); ((k_here; k_dflt ((refine' store_let ?zqF ?zqN ?_ ?zqa ?zqb; (case zqF => k_asm); (case zqN => k_asm); (case zqa => rfl); (case zqb => rfl); k_whole; intro m' h' tk' F' N'; (try k_sweep)))))) | walk1 | ((with_reducible show wpAny _ _ (exec (Stmt.For _ _ _ _ _) _) _ _ _); ((k_here; (rename Fr _ _ _ _ => lF'); (with_unfolding_all refine' For_turns lF' ?_; k_whole)))) | (dsimp only; walk1) | (leave1; (try dsimp only)) | fail "no step")
    refine hret _ _ _ _ ⟨rfl, _, congrArg (fun z => Value.str z _) (congrArg (bodyOf (headOf 2) (fun r => encOf 2 (rowSign turn gap r)) rr ++ ·) ?_)⟩ (by assumption) (fun q hq => by (rename News _ _ _ _ => kN); exact kN q (.tail _ (.tail _ (.tail _ hq))))
    decide +kernel
  · intro I x xs m n h tk o hJ98 ho F N; (try k_fold); obtain ⟨pre, rem, tt, hall, hx, rfl, hI, htx, hU⟩ := hJ98
    cases hx
    rename_i T_ k_ p_ ta_ tb_ rs_ hTm hx
    have hpl : pre.length ≤ 8 := by rw [hall, List.length_append] at lrl; omega
    have hTl := body_le (d := 2) (h := headOf 2) (by decide) turn hgl (by decide +kernel) hpl
    have hsl := sign_len ((k_ + turn).fmod 6) hgl
    rw [hU.ex'] at F
    dsimp only [chain] at F
    simp only [htx] at F
    refine map_let F ?_; clear F; intro m9 F
    repeat' (first | ((k_unfold); (try dsimp only)) | (k_end; kc_close) | ((with_reducible show wpAny _ _ (binaryOp Operator.Mult (Value.str _ _) (Value.int _ _)) _ _ _); first | with_reducible ((k_here; first | (refine mul_lit "" (by decide +kernel) (by decide +kernel) (by decide +kernel) (by decide +kernel) ?_; intro _ _) | (refine mul_lit "\\" (by decide +kernel) (by decide +kernel) (by decide +kernel) (by decide +kernel) ?_; intro _ _) | (refine mul_lit "\\\\\\" (by decide +kernel) (by decide +kernel) (by decide +kernel) (by decide +kernel) ?_; intro _ _) | (refine mul_lit "\\\\\\\\\\\\\\" (by decide +kernel) (by decide +kernel) (by decide +kernel) (by decide +kernel) ?_; intro _ _) | (refine mul_lit "\\\\" (by decide +kernel) (by decide +kernel) (by decide +kernel) (by decide +kernel) ?_; intro _ _) | (refine mul_lit "\\\\\\\\" (by decide +kernel) (by decide +kernel) (by decide +kernel) (by decide +kernel) ?_; intro _ _) | (refine mul_lit "\\\\\\\\\\\\\\\\" (by decide +kernel) (by decide +kernel) (by decide +kernel) (by decide +kernel) ?_; intro _ _))) | ((k_here; first | (refine mul_lit "" (by decide +kernel) (by decide +kernel) (by decide +kernel) (by decide +kernel) ?_; intro _ _) | (refine mul_lit "\\" (by decide +kernel) (by decide +kernel) (by decide +kernel) (by decide +kernel) ?_; intro _ _) | (refine mul_lit "\\\\\\" (by decide +kernel) (by decide +kernel) (by decide +kernel) (by decide +kernel) ?_; intro _ _) | (refine mul_lit "\\\\\\\\\\\\\\" (by decide +kernel) (by decide +kernel) (by decide +kernel) (by decide +kernel) ?_; intro _ _) | (refine mul_lit "\\\\" (by decide +kernel) (by decide +kernel) (by decide +kernel) (by decide +kernel) ?_; intro _ _) | (refine mul_lit "\\\\\\\\" (by decide +kernel) (by decide +kernel) (by decide +kernel) (by decide +kernel) ?_; intro _ _) | (refine mul_lit "\\\\\\\\\\\\\\\\" (by decide +kernel) (by decide +kernel) (by decide +kernel) (by decide +kernel) ?_; intro _ _)))) | ((with_reducible show wpAny _ _ (call (Value.ref _) _ _) _ _ _); ((k_here; (with_reducible show wpAny _ _ (call (Value.ref 244) [Value.int _ _, Value.str _ _] _) _ _ _); k_dflt (refine' use_val (law_sign _ _ _ _ _ _ _ _ _ ?zqp1 ?zqp2) ?zqB ?zqF ?zqX ?zqN ?zqT ?zqhk ?zqhd ?zqhu ?_; (case zqp1 => first | omega | exact fmod6_lo _ | (simp; done)); (case zqp2 => first | omega | exact fmod6_hi _ | (simp; done)); (case zqB => k_asm); (case zqF => k_asm); (case zqX => k_asm); (case zqN => k_asm); (case zqT => k_asm); (case zqhk => first | exact rfl | assumption); (case zqhd => first | exact room (by assumption) (by decide) | exact room0 (by assumption) (by decide) | ktr_room); (case zqhu => first | exact room (by assumption) (by decide) | exact room0 (by assumption) (by decide) | ktr_units); intro h9 tk9 t9 F9 N9; (try dsimp only); (try k_sweep); (try k_fold))))) | ((with_reducible show wpAny _ _ (pyIter (Value.ref _)) _ _ _); first | with_reducible ((k_here; (with_reducible show wpAny _ _ (pyIter (Value.ref _)) (fun it s₂ => TurnsAt _ _ _ _ _ _ _ _ _ it s₂) _ _); refine halt_ ?_)) | ((k_here; (with_reducible show wpAny _ _ (pyIter (Value.ref _)) (fun it s₂ => TurnsAt _ _ _ _ _ _ _ _ _ it s₂) _ _); refine halt_ ?_))) | ((with_reducible show wpAny _ _ (exec (Stmt.For _ _ _ _ _) _) _ _ _); ((k_here; (rename Fr _ _ _ _ => lF'); (with_unfolding_all refine' For_turns lF' ?_; k_whole)))) | ((with_reducible show LCg.CompEnd _ _ _ _ _ _ _ _ _ _ _ _ _ _); ((k_here; (with_unfolding_all refine LCg.CompEnd.intro (by assumption) (by assumption) _ (fun q hq => hq) (by assumption) (by first | exact trivial | exact Or.inr ⟨_, .head _, rfl, _, rfl⟩) ?_)))) | ((with_reducible show wpAny _ _ (storeName _ _ _) _ _ _); ((k_here; k_dflt ((refine' store_let ?zqF ?zqN ?_ ?zqa ?zqb; (case zqF => k_asm); (case zqN => k_asm); (case zqa => rfl); (case zqb => rfl); k_whole; intro m' h' tk' F' N'; (try k_sweep)))))) | walk1 | ((with_reducible show wpAny _ _ (exec (Stmt.For _ _ _ _ _) _) _ _ _); ((k_here; (rename Fr _ _ _ _ => lF'); (with_unfolding_all refine' For_turns lF' ?_; k_whole)))) | (dsimp only; walk1) | (leave1; (try dsimp only)) | fail "no step")
    all_goals first
      | (refine wr_end (by assumption) (by assumption) hall hx hI rfl ?_ (by intro y hy; (repeat (first | exact rfl | (refine (upd_skip hy ?_).trans ?_; (decide))))) (.tail _ (.tail _ mr)); first | (rw [row_six (by assumption)]; first | exact enc_bs (by assumption) (by decide +kernel) | exact enc_q (by assumption) (by assumption) (by decide +kernel) | exact enc_o (by assumption) (by assumption)) | (rw [row_ne (by assumption)]; first | exact enc_bs (by assumption) (by decide +kernel) | exact enc_q (by assumption) (by assumption) (by decide +kernel) | exact enc_o (by assumption) (by assumption)))
      | fail "no rule"
theorem written3 (lr : Addr) (rs : List Value) (rr : List (Int × Int)) (nr : Nat) (gap : Str) (turn : Int) (t1 t2 t3 : Tok) (mr : (lr, listOf rs.toArray nr) ∈ rest) (hr : RowsIn rest rs rr) (lrl : rr.length ≤ 8) (hgl : gap.length ≤ 3) :
    Ctr w mean mg mb 277 [.ref lr, .int turn t1, .str gap t2, .int 3 t3] rest 4 200 (fun v news' => news' = rest ∧ ∃ t, v = .str (writtenOf 3 turn gap rr) t) := by
  intro dp un gd cn cs a ccd cl outer A₀ base h₀ L m s Q E B F X N T hk hd hu hret
  refine wpAny_call ?_
  k_dflt ktr_enter
  (rename Fr _ _ _ _ => lF9); refine map_let lF9 ?_; clear lF9; intro m9 lF9; refine frame_let ?_; intro A9 env9
  repeat' (first | ((k_unfold); (try dsimp only)) | (k_end; kc_close) | ((with_reducible show wpAny _ _ (binaryOp Operator.Mult (Value.str _ _) (Value.int _ _)) _ _ _); first | with_reducible ((k_here; first | (refine mul_lit "" (by decide +kernel) (by decide +kernel) (by decide +kernel) (by decide +kernel) ?_; intro _ _) | (refine mul_lit "\\" (by decide +kernel) (by decide +kernel) (by decide +kernel) (by decide +kernel) ?_; intro _ _) | (refine mul_lit "\\\\\\" (by decide +kernel) (by decide +kernel) (by decide +kernel) (by decide +kernel) ?_; intro _ _) | (refine mul_lit "\\\\\\\\\\\\\\" (by decide +kernel) (by decide +kernel) (by decide +kernel) (by decide +kernel) ?_; intro _ _) | (refine mul_lit "\\\\" (by decide +kernel) (by decide +kernel) (by decide +kernel) (by decide +kernel) ?_; intro _ _) | (refine mul_lit "\\\\\\\\" (by decide +kernel) (by decide +kernel) (by decide +kernel) (by decide +kernel) ?_; intro _ _) | (refine mul_lit "\\\\\\\\\\\\\\\\" (by decide +kernel) (by decide +kernel) (by decide +kernel) (by decide +kernel) ?_; intro _ _))) | ((k_here; first | (refine mul_lit "" (by decide +kernel) (by decide +kernel) (by decide +kernel) (by decide +kernel) ?_; intro _ _) | (refine mul_lit "\\" (by decide +kernel) (by decide +kernel) (by decide +kernel) (by decide +kernel) ?_; intro _ _) | (refine mul_lit "\\\\\\" (by decide +kernel) (by decide +kernel) (by decide +kernel) (by decide +kernel) ?_; intro _ _) | (refine mul_lit "\\\\\\\\\\\\\\" (by decide +kernel) (by decide +kernel) (by decide +kernel) (by decide +kernel) ?_; intro _ _) | (refine mul_lit "\\\\" (by decide +kernel) (by decide +kernel) (by decide +kernel) (by decide +kernel) ?_; intro _ _) | (refine mul_lit "\\\\\\\\" (by decide +kernel) (by decide +kernel) (by decide +kernel) (by decide +kernel) ?_; intro _ _) | (refine mul_lit "\\\\\\\\\\\\\\\\" (by decide +kernel) (by decide +kernel) (by decide +kernel) (by decide +kernel) ?_; intro _ _)))) | ((with_reducible show wpAny _ _ (call (Value.ref _) _ _) _ _ _); ((k_here; (with_reducible show wpAny _ _ (call (Value.ref 244) [Value.int _ _, Value.str _ _] _) _ _ _); k_dflt (refine' use_val (law_sign _ _ _ _ _ _ _ _ _ ?zqp1 ?zqp2) ?zqB ?zqF ?zqX ?zqN ?zqT ?zqhk ?zqhd ?zqhu ?_; (case zqp1 => first | omega | exact fmod6_lo _ | (simp; done)); (case zqp2 => first | omega | exact fmod6_hi _ | (simp; done)); (case zqB => k_asm); (case zqF => k_asm); (case zqX => k_asm); (case zqN => k_asm); (case zqT => k_asm); (case zqhk => first | exact rfl | assumption); (case zqhd => first | exact room (by assumption) (by decide) | exact room0 (by assumption) (by decide) | ktr_room); (case zqhu => first | exact room (by assumption) (by decide) | exact room0 (by assumption) (by decide) | ktr_units); intro h9 tk9 t9 F9 N9; (try dsimp only); (try k_sweep); (try k_fold))))) | ((with_reducible show wpAny _ _ (pyIter (Value.ref _)) _ _ _); first | with_reducible ((k_here; (with_reducible show wpAny _ _ (pyIter (Value.ref _)) (fun it s₂ => TurnsAt _ _ _ _ _ _ _ _ _ it s₂) _ _); refine halt_ ?_)) | ((k_here; (with_reducible show wpAny _ _ (pyIter (Value.ref _)) (fun it s₂ => TurnsAt _ _ _ _ _ _ _ _ _ it s₂) _ _); refine halt_ ?_))) | ((with_reducible show wpAny _ _ (exec (Stmt.For _ _ _ _ _) _) _ _ _); ((k_here; (rename Fr _ _ _ _ => lF'); (with_unfolding_all refine' For_turns lF' ?_; k_whole)))) | ((with_reducible show LCg.CompEnd _ _ _ _ _ _ _ _ _ _ _ _ _ _); ((k_here; (with_unfolding_all refine LCg.CompEnd.intro (by assumption) (by assumption) _ (fun q hq => hq) (by assumption) (by first | exact trivial | exact Or.inr ⟨_, .head _, rfl, _, rfl⟩) ?_)))) | ((with_reducible show wpAny _ _ (storeName _ _ _) _ _ _); ((k_here; k_dflt ((refine' store_let ?zqF ?zqN ?_ ?zqa ?zqb; (case zqF => k_asm); (case zqN => k_asm); (case zqa => rfl); (case zqb => rfl); k_whole; intro m' h' tk' F' N'; (try k_sweep)))))) | walk1 | ((with_reducible show wpAny _ _ (exec (Stmt.For _ _ _ _ _) _) _ _ _); ((k_here; (rename Fr _ _ _ _ => lF'); (with_unfolding_all refine' For_turns lF' ?_; k_whole)))) | (dsimp only; walk1) | (leave1; (try dsimp only)) | fail "no step")
  unfold Halt
  refine for_items (WrJ rest _ _ (fun r => encOf 3 (rowSign turn gap r)) rr) rfl (by k_asm) (by k_asm) (by k_mem) (wr_start (h := headOf 3) hr rfl) ?_ ?_
  · intro I m n h tk hJ95 F N; (try k_fold); obtain ⟨pre, rem, tt, hall, hx, rfl, hI, htx, hU⟩ := hJ95
    cases hx
    rw [List.append_nil] at hall
    subst hall
    have hTl := body_le (d := 3) (h := headOf 3) (by decide) turn hgl (by decide +kernel) lrl
    rw [hU.ex'] at F
    dsimp only [chain] at F
    simp only [htx] at F
    refine map_let F ?_; clear F; intro m9 F
    repeat' (first | ((k_unfold); (try dsimp only)) | (k_end; kc_close) | ((with_reducible show wpAny _ _ (binaryOp Operator.Mult (Value.str _ _) (Value.int _ _)) _ _ _); first | with_reducible ((k_here; first | (refine mul_lit "" (by decide +kernel) (by decide +kernel) (by decide +kernel) (by decide +kernel) ?_; intro _ _) | (refine mul_lit "\\" (by decide +kernel) (by decide +kernel) (by decide +kernel) (by decide +kernel) ?_; intro _ _) | (refine mul_lit "\\\\\\" (by decide +kernel) (by decide +kernel) (by decide +kernel) (by decide +kernel) ?_; intro _ _) | (refine mul_lit "\\\\\\\\\\\\\\" (by decide +kernel) (by decide +kernel) (by decide +kernel) (by decide +kernel) ?_; intro _ _) | (refine mul_lit "\\\\" (by decide +kernel) (by decide +kernel) (by decide +kernel) (by decide +kernel) ?_; intro _ _) | (refine mul_lit "\\\\\\\\" (by decide +kernel) (by decide +kernel) (by decide +kernel) (by decide +kernel) ?_; intro _ _) | (refine mul_lit "\\\\\\\\\\\\\\\\" (by decide +kernel) (by decide +kernel) (by decide +kernel) (by decide +kernel) ?_; intro _ _))) | ((k_here; first | (refine mul_lit "" (by decide +kernel) (by decide +kernel) (by decide +kernel) (by decide +kernel) ?_; intro _ _) | (refine mul_lit "\\" (by decide +kernel) (by decide +kernel) (by decide +kernel) (by decide +kernel) ?_; intro _ _) | (refine mul_lit "\\\\\\" (by decide +kernel) (by decide +kernel) (by decide +kernel) (by decide +kernel) ?_; intro _ _) | (refine mul_lit "\\\\\\\\\\\\\\" (by decide +kernel) (by decide +kernel) (by decide +kernel) (by decide +kernel) ?_; intro _ _) | (refine mul_lit "\\\\" (by decide +kernel) (by decide +kernel) (by decide +kernel) (by decide +kernel) ?_; intro _ _) | (refine mul_lit "\\\\\\\\" (by decide +kernel) (by decide +kernel) (by decide +kernel) (by decide +kernel) ?_; intro _ _) | (refine mul_lit "\\\\\\\\\\\\\\\\" (by decide +kernel) (by decide +kernel) (by decide +kernel) (by decide +kernel) ?_; intro _ _)))) | ((with_reducible show wpAny _ _ (call (Value.ref _) _ _) _ _ _); ((k_here; (with_reducible show wpAny _ _ (call (Value.ref 244) [Value.int _ _, Value.str _ _] _) _ _ _); k_dflt (refine' use_val (law_sign _ _ _ _ _ _ _ _ _ ?zqp1 ?zqp2) ?zqB ?zqF ?zqX ?zqN ?zqT ?zqhk ?zqhd ?zqhu ?_; (case zqp1 => first | omega | exact fmod6_lo _ | (simp; done)); (case zqp2 => first | omega | exact fmod6_hi _ | (simp; done)); (case zqB => k_asm); (case zqF => k_asm); (case zqX => k_asm); (case zqN => k_asm); (case zqT => k_asm); (case zqhk => first | exact rfl | assumption); (case zqhd => first | exact room (by assumption) (by decide) | exact room0 (by assumption) (by decide) | ktr_room); (case zqhu => first | exact room (by assumption) (by decide) | exact room0 (by assumption) (by decide) | ktr_units); intro h9 tk9 t9 F9 N9; (try dsimp only); (try k_sweep); (try k_fold))))) | ((with_reducible show wpAny _ _ (pyIter (Value.ref _)) _ _ _); first | with_reducible ((k_here; (with_reducible show wpAny _ _ (pyIter (Value.ref _)) (fun it s₂ => TurnsAt _ _ _ _ _ _ _ _ _ it s₂) _ _); refine halt_ ?_)) | ((k_here; (with_reducible show wpAny _ _ (pyIter (Value.ref _)) (fun it s₂ => TurnsAt _ _ _ _ _ _ _ _ _ it s₂) _ _); refine halt_ ?_))) | ((with_reducible show wpAny _ _ (exec (Stmt.For _ _ _ _ _) _) _ _ _); ((k_here; (rename Fr _ _ _ _ => lF'); (with_unfolding_all refine' For_turns lF' ?_; k_whole)))) | ((with_reducible show LCg.CompEnd _ _ _ _ _ _ _ _ _ _ _ _ _ _); ((k_here; (with_unfolding_all refine LCg.CompEnd.intro (by assumption) (by assumption) _ (fun q hq => hq) (by assumption) (by first | exact trivial | exact Or.inr ⟨_, .head _, rfl, _, rfl⟩) ?_)))) | ((with_reducible show wpAny _ _ (storeName _ _ _) _ _ _); ((k_here; k_dflt ((refine' store_let ?zqF ?zqN ?_ ?zqa ?zqb; (case zqF => k_asm); (case zqN => k_asm); (case zqa => rfl); (case zqb => rfl); k_whole; intro m' h' tk' F' N'; (try k_sweep)))))) | walk1 | ((with_reducible show wpAny _ _ (exec (Stmt.For _ _ _ _ _) _) _ _ _); ((k_here; (rename Fr _ _ _ _ => lF'); (with_unfolding_all refine' For_turns lF' ?_; k_whole)))) | (dsimp only; walk1) | (leave1; (try dsimp only)) | fail "no step")
    refine hret _ _ _ _ ⟨rfl, _, congrArg (fun z => Value.str z _) (congrArg (bodyOf (headOf 3) (fun r => encOf 3 (rowSign turn gap r)) rr ++ ·) ?_)⟩ (by assumption) (fun q hq => by (rename News _ _ _ _ => kN); exact kN q (.tail _ (.tail _ (.tail _ hq))))
    decide +kernel
  · intro I x xs m n h tk o hJ98 ho F N; (try k_fold); obtain ⟨pre, rem, tt, hall, hx, rfl, hI, htx, hU⟩ := hJ98
    cases hx
    rename_i T_ k_ p_ ta_ tb_ rs_ hTm hx
    have hpl : pre.length ≤ 8 := by rw [hall, List.length_append] at lrl; omega
    have hTl := body_le (d := 3) (h := headOf 3) (by decide) turn hgl (by decide +kernel) hpl
    have hsl := sign_len ((k_ + turn).fmod 6) hgl
    rw [hU.ex'] at F
    dsimp only [chain] at F
    simp only [htx] at F
    refine map_let F ?_; clear F; intro m9 F
    repeat' (first | ((k_unfold); (try dsimp only)) | (k_end; kc_close) | ((with_reducible show wpAny _ _ (binaryOp Operator.Mult (Value.str _ _) (Value.int _ _)) _ _ _); first | with_reducible ((k_here; first | (refine mul_lit "" (by decide +kernel) (by decide +kernel) (by decide +kernel) (by decide +kernel) ?_; intro _ _) | (refine mul_lit "\\" (by decide +kernel) (by decide +kernel) (by decide +kernel) (by decide +kernel) ?_; intro _ _) | (refine mul_lit "\\\\\\" (by decide +kernel) (by decide +kernel) (by decide +kernel) (by decide +kernel) ?_; intro _ _) | (refine mul_lit "\\\\\\\\\\\\\\" (by decide +kernel) (by decide +kernel) (by decide +kernel) (by decide +kernel) ?_; intro _ _) | (refine mul_lit "\\\\" (by decide +kernel) (by decide +kernel) (by decide +kernel) (by decide +kernel) ?_; intro _ _) | (refine mul_lit "\\\\\\\\" (by decide +kernel) (by decide +kernel) (by decide +kernel) (by decide +kernel) ?_; intro _ _) | (refine mul_lit "\\\\\\\\\\\\\\\\" (by decide +kernel) (by decide +kernel) (by decide +kernel) (by decide +kernel) ?_; intro _ _))) | ((k_here; first | (refine mul_lit "" (by decide +kernel) (by decide +kernel) (by decide +kernel) (by decide +kernel) ?_; intro _ _) | (refine mul_lit "\\" (by decide +kernel) (by decide +kernel) (by decide +kernel) (by decide +kernel) ?_; intro _ _) | (refine mul_lit "\\\\\\" (by decide +kernel) (by decide +kernel) (by decide +kernel) (by decide +kernel) ?_; intro _ _) | (refine mul_lit "\\\\\\\\\\\\\\" (by decide +kernel) (by decide +kernel) (by decide +kernel) (by decide +kernel) ?_; intro _ _) | (refine mul_lit "\\\\" (by decide +kernel) (by decide +kernel) (by decide +kernel) (by decide +kernel) ?_; intro _ _) | (refine mul_lit "\\\\\\\\" (by decide +kernel) (by decide +kernel) (by decide +kernel) (by decide +kernel) ?_; intro _ _) | (refine mul_lit "\\\\\\\\\\\\\\\\" (by decide +kernel) (by decide +kernel) (by decide +kernel) (by decide +kernel) ?_; intro _ _)))) | ((with_reducible show wpAny _ _ (call (Value.ref _) _ _) _ _ _); ((k_here; (with_reducible show wpAny _ _ (call (Value.ref 244) [Value.int _ _, Value.str _ _] _) _ _ _); k_dflt (refine' use_val (law_sign _ _ _ _ _ _ _ _ _ ?zqp1 ?zqp2) ?zqB ?zqF ?zqX ?zqN ?zqT ?zqhk ?zqhd ?zqhu ?_; (case zqp1 => first | omega | exact fmod6_lo _ | (simp; done)); (case zqp2 => first | omega | exact fmod6_hi _ | (simp; done)); (case zqB => k_asm); (case zqF => k_asm); (case zqX => k_asm); (case zqN => k_asm); (case zqT => k_asm); (case zqhk => first | exact rfl | assumption); (case zqhd => first | exact room (by assumption) (by decide) | exact room0 (by assumption) (by decide) | ktr_room); (case zqhu => first | exact room (by assumption) (by decide) | exact room0 (by assumption) (by decide) | ktr_units); intro h9 tk9 t9 F9 N9; (try dsimp only); (try k_sweep); (try k_fold))))) | ((with_reducible show wpAny _ _ (pyIter (Value.ref _)) _ _ _); first | with_reducible ((k_here; (with_reducible show wpAny _ _ (pyIter (Value.ref _)) (fun it s₂ => TurnsAt _ _ _ _ _ _ _ _ _ it s₂) _ _); refine halt_ ?_)) | ((k_here; (with_reducible show wpAny _ _ (pyIter (Value.ref _)) (fun it s₂ => TurnsAt _ _ _ _ _ _ _ _ _ it s₂) _ _); refine halt_ ?_))) | ((with_reducible show wpAny _ _ (exec (Stmt.For _ _ _ _ _) _) _ _ _); ((k_here; (rename Fr _ _ _ _ => lF'); (with_unfolding_all refine' For_turns lF' ?_; k_whole)))) | ((with_reducible show LCg.CompEnd _ _ _ _ _ _ _ _ _ _ _ _ _ _); ((k_here; (with_unfolding_all refine LCg.CompEnd.intro (by assumption) (by assumption) _ (fun q hq => hq) (by assumption) (by first | exact trivial | exact Or.inr ⟨_, .head _, rfl, _, rfl⟩) ?_)))) | ((with_reducible show wpAny _ _ (storeName _ _ _) _ _ _); ((k_here; k_dflt ((refine' store_let ?zqF ?zqN ?_ ?zqa ?zqb; (case zqF => k_asm); (case zqN => k_asm); (case zqa => rfl); (case zqb => rfl); k_whole; intro m' h' tk' F' N'; (try k_sweep)))))) | walk1 | ((with_reducible show wpAny _ _ (exec (Stmt.For _ _ _ _ _) _) _ _ _); ((k_here; (rename Fr _ _ _ _ => lF'); (with_unfolding_all refine' For_turns lF' ?_; k_whole)))) | (dsimp only; walk1) | (leave1; (try dsimp only)) | fail "no step")
    all_goals first
      | (refine wr_end (by assumption) (by assumption) hall hx hI rfl ?_ (by intro y hy; (repeat (first | exact rfl | (refine (upd_skip hy ?_).trans ?_; (decide))))) (.tail _ (.tail _ mr)); first | (rw [row_six (by assumption)]; first | exact enc_bs (by assumption) (by decide +kernel) | exact enc_q (by assumption) (by assumption) (by decide +kernel) | exact enc_o (by assumption) (by assumption)) | (rw [row_ne (by assumption)]; first | exact enc_bs (by assumption) (by decide +kernel) | exact enc_q (by assumption) (by assumption) (by decide +kernel) | exact enc_o (by assumption) (by assumption)))
      | fail "no rule"
end
end Mine
end PartG4
section PartG5
open PySem PySem.W PyProof.Rows
namespace Mine
theorem offG5 : True := by w_top off; trivial
section
open PySem.Spec PySem.Calls LCg LCp
variable {prog : Program} {w : World} {A : Around} {s : Shared} {h₀ : Heap} {L : Addr} {m : Str → Option Value} {env : Env} {elt : Expr} {x x₂ : Str} {scope : Scope} {cl : List (Str × Addr)} {S : Led → Prop} {Fin : List Value → Led → Prop}
theorem compP_rows {rs : List Value} {rr : List (Int × Int)} {n₀ : Led} (hr : RowsIn n₀ rs rr) (J : List (Int × Int) → List Value → Prop) (done : ∀ ys, J rr ys → Fin ys n₀)
    (turn : ∀ pre k p rem ys I oI C oC D m₂ h tk (E' : Value → Shared → Prop) ta tb, rr = pre ++ (k, p) :: rem → J pre ys → NsObj oC m₂ → m₂ x = some (.int k ta) → m₂ x₂ = some (.int p tb) → Fr h₀ L h m → News h₀ L h ((I, oI) :: (C, oC) :: (D, lst ys) :: n₀) → Off3 I C D n₀ → ((@Ne Nat I C) ∧ (@Ne Nat I D) ∧ (@Ne Nat C D)) →
      wpAny (model prog w) A (eval elt (compEnvC scope cl C env)) (CompEnd h₀ L m { s with heap := h, toks := tk } I oI C oC D (lst ys) S (fun y news' => news' = n₀ ∧ J (pre ++ [(k, p)]) (ys ++ [y]))) E' { s with heap := h, toks := tk }) :
    ∀ k i ys, i + k = rr.length → J (rr.take i) ys → CompRestP prog w A h₀ L m env elt x x₂ scope cl s S (fun i v => rs.toArray[i]? = some v) Fin k i ys n₀
  | 0, i, ys, e, hj => by
    have e' : i = rr.length := e
    subst e'
    rw [List.take_length] at hj
    exact CompRestP.zero (done ys hj)
  | k + 1, i, ys, e, hj => by
    refine CompRestP.succ fun v hv => ?_
    obtain ⟨T, kk, pp, ta, tb, h1, h2, h3⟩ := rows_get hr (i := i) (by omega)
    have ev : v = .ref T := by
      have h4 : rs[i]? = some v := by simpa using hv
      exact Option.some.inj (h4.symm.trans h1)
    obtain ⟨hlt, hget⟩ := List.getElem?_eq_some_iff.mp h2
    refine ⟨T, pairTup kk pp ta tb, _, _, _, ev, h3, rfl, rfl, fun I oI C oC D m₂ h tk E' hC hx hx₂ F N off ne => ?_⟩
    have et : rr.take (i + 1) = rr.take i ++ [(kk, pp)] := by rw [List.take_succ_eq_append_getElem hlt, hget]
    refine wpAny_mono (turn (rr.take i) kk pp (rr.drop (i + 1)) ys I oI C oC D m₂ h tk E' ta tb ?_ hj hC hx hx₂ F N off ne) (fun y s₂ p => ?_) fun _ _ e => e
    · rw [← hget, ← List.drop_eq_getElem_cons hlt, List.take_append_drop]
    · obtain ⟨h1, tk1, n1, e1, F1, N1, o1, s1, e2, r1⟩ := p
      subst e2
      exact ⟨h1, tk1, n1, e1, F1, N1, o1, s1, compP_rows hr J done turn k (i + 1) _ (by omega) (et ▸ r1)⟩
end
theorem unrEnd_2 {h₀ : Heap} {L I : Addr} {it : Obj} {restP : (Str → Option Value) → Led → Prop} {s₁ : Shared} {h' : Heap} {tk : Nat} {m' : Str → Option Value} {a b : Addr × Obj} {rest : Led} (F : Fr h₀ L h' m') (N : News h₀ L h' (a :: b :: (I, it) :: rest))
    (h1 : AllLt a.1 (b :: (I, it) :: rest)) (h2 : AllLt b.1 ((I, it) :: rest)) (h3 : AllLt I rest) (r : restP m' (a :: b :: rest)) : UnrEnd h₀ L s₁ I it restP { s₁ with heap := h', toks := tk } := by
  refine UnrEnd.intro F N (a :: b :: rest) ?_ ?_ r
  · intro p hp
    simp only [List.mem_cons] at hp ⊢
    rcases hp with h | h | h | h
    · exact .inr (.inr (.inl h))
    · exact .inl h
    · exact .inr (.inl h)
    · exact .inr (.inr (.inr h))
  · intro p hp
    simp only [List.mem_cons] at hp
    rcases hp with rfl | rfl | h
    · exact Nat.ne_of_gt h1.2.1
    · exact Nat.ne_of_gt h2.1
    · exact Nat.ne_of_lt (allLt_mem h3 p h)
theorem unrEnd_m {h₀ : Heap} {L I : Addr} {it : Obj} {restP : (Str → Option Value) → Led → Prop} {s₁ : Shared} {h' : Heap} {tk : Nat} {m' : Str → Option Value} {a b : Addr × Obj} {mid rest : Led} (F : Fr h₀ L h' m') (N : News h₀ L h' (a :: b :: (I, it) :: (mid ++ rest)))
    (h1 : @LT.lt Nat _ I a.1) (h2 : @LT.lt Nat _ I b.1) (hm : ∀ p ∈ mid, @LT.lt Nat _ I p.1) (h3 : AllLt I rest) (r : restP m' (a :: b :: (mid ++ rest))) : UnrEnd h₀ L s₁ I it restP { s₁ with heap := h', toks := tk } := by
  refine UnrEnd.intro F N (a :: b :: (mid ++ rest)) ?_ ?_ r
  · intro p hp
    simp only [List.mem_cons] at hp ⊢
    rcases hp with h | h | h | h
    · exact .inr (.inr (.inl h))
    · exact .inl h
    · exact .inr (.inl h)
    · exact .inr (.inr (.inr h))
  · intro p hp
    simp only [List.mem_cons, List.mem_append] at hp
    rcases hp with rfl | rfl | h | h
    · exact Nat.ne_of_gt h1
    · exact Nat.ne_of_gt h2
    · exact Nat.ne_of_gt (hm p h)
    · exact Nat.ne_of_lt (allLt_mem h3 p h)
theorem unrEnd_4 {h₀ : Heap} {L I : Addr} {it : Obj} {restP : (Str → Option Value) → Led → Prop} {s₁ : Shared} {h' : Heap} {tk : Nat} {m' : Str → Option Value} {a b c d : Addr × Obj} {rest : Led} (F : Fr h₀ L h' m') (N : News h₀ L h' (a :: b :: (I, it) :: c :: d :: rest))
    (h1 : @LT.lt Nat _ I a.1) (h2 : @LT.lt Nat _ I b.1) (hc : @LT.lt Nat _ I c.1) (hd : @LT.lt Nat _ I d.1) (h3 : AllLt I rest) (r : restP m' (a :: b :: c :: d :: rest)) : UnrEnd h₀ L s₁ I it restP { s₁ with heap := h', toks := tk } :=
  unrEnd_m (mid := [c, d]) F N h1 h2 (fun p hp => by
    rcases List.mem_cons.mp hp with rfl | hp
    · exact hc
    · rw [List.mem_singleton.mp hp]; exact hd) h3 r
theorem unrEnd_6 {h₀ : Heap} {L I : Addr} {it : Obj} {restP : (Str → Option Value) → Led → Prop} {s₁ : Shared} {h' : Heap} {tk : Nat} {m' : Str → Option Value} {a b c d e f : Addr × Obj} {rest : Led} (F : Fr h₀ L h' m') (N : News h₀ L h' (a :: b :: (I, it) :: c :: d :: e :: f :: rest))
    (h1 : @LT.lt Nat _ I a.1) (h2 : @LT.lt Nat _ I b.1) (hc : @LT.lt Nat _ I c.1) (hd : @LT.lt Nat _ I d.1) (he : @LT.lt Nat _ I e.1) (hf : @LT.lt Nat _ I f.1) (h3 : AllLt I rest) (r : restP m' (a :: b :: c :: d :: e :: f :: rest)) : UnrEnd h₀ L s₁ I it restP { s₁ with heap := h', toks := tk } :=
  unrEnd_m (mid := [c, d, e, f]) F N h1 h2 (fun p hp => by
    rcases List.mem_cons.mp hp with rfl | hp
    · exact hc
    · rcases List.mem_cons.mp hp with rfl | hp
      · exact hd
      · rcases List.mem_cons.mp hp with rfl | hp
        · exact he
        · rw [List.mem_singleton.mp hp]; exact hf) h3 r
local macro_rules | `(tactic| walk_at "SrcLP") => `(tactic| (k_here; refine halt ?_))
local macro_rules | `(tactic| walk_at "eval ListComp") => `(tactic| (k_here; lcp_look; k_dflt (refine LCp.ListComp_P (F₀ := by k_asm) (by with_unfolding_all rfl) (by decide) (by rfl) (by decide) (by rfl) (by rfl) (by decide) ?_); k_dflt lcp_toSrc))
noncomputable def Shows (led : Led) (v : Value) (D : PyData) : Prop := ∀ h : Heap, (∀ p ∈ led, h.get? p.1 = some p.2) → ∃ ads, Reads h v D ads
inductive ShowsAll (led : Led) : List Value → List PyData → Prop
  | nil : ShowsAll led [] []
  | cons {v : Value} {vs : List Value} {D : PyData} {Ds : List PyData} (h : Shows led v D) (r : ShowsAll led vs Ds) : ShowsAll led (v :: vs) (D :: Ds)
theorem ShowsAll.reads {led : Led} {h : Heap} (hl : ∀ p ∈ led, h.get? p.1 = some p.2) : ∀ {vs : List Value} {Ds : List PyData}, ShowsAll led vs Ds → ∃ ads, ReadsAll h vs Ds ads
  | _, _, .nil => ⟨_, .nil⟩
  | _, _, .cons a r => by
    obtain ⟨a1, h1⟩ := a h hl
    obtain ⟨a2, h2⟩ := r.reads hl
    exact ⟨_, .cons h1 h2⟩
theorem shows_str {led : Led} {x y : Str} {t : Tok} (e : x = y) : Shows led (.str x t) (.str y) := fun _ _ => e ▸ ⟨_, .str x t⟩
theorem shows_bool {led : Led} {b : Bool} : Shows led (.bool b) (.bool b) := fun _ _ => ⟨_, .bool b⟩
theorem shows_list {led : Led} {l : Addr} {vs : List Value} {n : Nat} {Ds : List PyData} (hm : (l, listOf vs.toArray n) ∈ led) (ha : ShowsAll led vs Ds) : Shows led (.ref l) (.list Ds) := fun h hl => by
  obtain ⟨ads, hr⟩ := ha.reads hl
  exact ⟨_, .list (hl _ hm) rfl rfl (by simpa using hr)⟩
theorem shows_tup {led : Led} {T : Addr} {vs : List Value} {Ds : List PyData} (hm : (T, ({ cls := .type "tuple", data := .seq vs.toArray } : Obj)) ∈ led) (ha : ShowsAll led vs Ds) : Shows led (.ref T) (.tuple Ds) := fun h hl => by
  obtain ⟨ads, hr⟩ := ha.reads hl
  exact ⟨_, .tuple (hl _ hm) rfl rfl (by simpa using hr)⟩
noncomputable def black (rr : List (Int × Int)) : Bool := (rr.map (·.1)).any fun x => x == 7
noncomputable def laidD (turn : Int) (wr gr : List (Int × Int)) : Nat → List PyData
  | 1 => [.tuple [.str (Str.ofString "Wa"), .str (writtenOf 1 turn (Str.ofString "...") wr)], .tuple [.str (Str.ofString "Ta"), .str (writtenOf 1 turn (Str.ofString ".") gr)]]
  | 2 => [.tuple [.str (Str.ofString "Wa"), .str (writtenOf 1 turn (Str.ofString "...") wr)], .tuple [.str (Str.ofString "Ta"), .str (writtenOf 1 turn (Str.ofString ".") gr)]] ++ [.tuple [.str (Str.ofString "Wb"), .str (writtenOf 2 turn (Str.ofString "...") wr)], .tuple [.str (Str.ofString "Tb"), .str (writtenOf 2 turn (Str.ofString ".") gr)]]
  | _ => [.tuple [.str (Str.ofString "Wa"), .str (writtenOf 1 turn (Str.ofString "...") wr)], .tuple [.str (Str.ofString "Ta"), .str (writtenOf 1 turn (Str.ofString ".") gr)], .tuple [.str (Str.ofString "Wb"), .str (writtenOf 2 turn (Str.ofString "...") wr)], .tuple [.str (Str.ofString "Tb"), .str (writtenOf 2 turn (Str.ofString ".") gr)]] ++ [.tuple [.str (Str.ofString "Wc"), .str (writtenOf 3 turn (Str.ofString "...") wr)], .tuple [.str (Str.ofString "Tc"), .str (writtenOf 3 turn (Str.ofString ".") gr)]]
noncomputable def DueRet (rest : Led) (d : Nat) (turn : Int) (wr gr : List (Int × Int)) (v : Value) (led : Led) : Prop := (∀ p ∈ rest, p ∈ led) ∧
  ((black wr = true ∧ Shows led v (.tuple [.list [.str (Str.ofString "refused")], .list []])) ∨
   (black wr = false ∧ black gr = true ∧ Shows led v (.tuple [.list [.str (Str.ofString "refused")], .list [.tuple [.str (Str.ofString "Wa"), .str (writtenOf 1 turn (Str.ofString "...") wr)]]])) ∨
   (black wr = false ∧ black gr = false ∧ ∃ b : Bool, (b = true ↔ Match (wr.map (·.1)) (gr.map (·.1))) ∧ Shows led v (.tuple [.list (List.replicate d (.bool b)), .list (laidD turn wr gr d)])))
section
variable (w : World) (mean : ExcName → Option Value) (mg mb : Str → Option Value) (rest : Led)
theorem due1 (lw lg : Addr) (ws gs : List Value) (wr gr : List (Int × Int)) (nw ng : Nat) (turn : Int) (t1 t2 : Tok) (mw : (lw, listOf ws.toArray nw) ∈ rest) (hw : RowsIn rest ws wr) (mg' : (lg, listOf gs.toArray ng) ∈ rest) (hg : RowsIn rest gs gr) (lwl : wr.length ≤ 8) (lgl : gr.length ≤ 8) :
    Ctr w mean mg mb 287 [.ref lw, .ref lg, .int turn t1, .int 1 t2] rest 8 300 (DueRet rest 1 turn wr gr) := by
  intro dp un gd cn cs a ccd cl outer A₀ base h₀ L m s Q E B F X N T hk hd hu hret
  refine wpAny_call ?_
  k_dflt ktr_enter
  (rename Fr _ _ _ _ => lF9); refine map_let lF9 ?_; clear lF9; intro m9 lF9; refine frame_let ?_; intro A9 env9
  repeat' (first | ((k_unfold); (try dsimp only)) | (k_end; kc_close) | ((with_reducible show wpAny _ _ (binaryOp Operator.Mult (Value.ref _) (Value.int _ _)) _ _ _); ((k_here; (with_reducible show wpAny _ _ (binaryOp Operator.Mult (Value.ref _) (Value.int _ _)) _ _ _); (with_unfolding_all refine' KMa.mul ?zqF ?zqN ?zql ?zqlo ?zqhi ?zqz ?zqe ?_; (case zqF => k_asm); (case zqN => k_asm); (case zql => exact News.isList (by k_asm) (.head _)); (case zqlo => decide); (case zqhi => decide); (case zqz => exact Nat.le_of_ble_eq_true rfl); (case zqe => exact rfl); k_whole); intro D' h' F' N' l1; (try k_lt l1)))) | ((with_reducible show wpAny _ _ (call (Value.ref _) _ _) _ _ _); ((k_here; (with_reducible show wpAny _ _ (call (Value.ref 282) [Value.ref _, Value.ref _] _) _ _ _); k_dflt ((refine' use_bool (fits_ctr _ _ _ _ _ _ _ _ _ _ _ _ _ ?zqp1 ?zqp2 ?zqp3 ?zqp4 ?zqp5 ?zqp6) ?zqB ?zqF ?zqX ?zqN ?zqT ?zqhk ?zqhd ?zqhu ?_; (case zqB => k_asm); (case zqF => k_asm); (case zqX => k_asm); (case zqN => k_asm); (case zqT => k_asm); (case zqp1 => k_mem); (case zqp2 => (first | assumption | exact RowsIn.mono (fun q hq => by (repeat refine List.mem_cons_of_mem _ ?_); exact hq) (by assumption))); (case zqp3 => k_mem); (case zqp4 => (first | assumption | exact RowsIn.mono (fun q hq => by (repeat refine List.mem_cons_of_mem _ ?_); exact hq) (by assumption))); (case zqp5 => first | assumption | omega); (case zqp6 => first | assumption | omega); (case zqhk => first | exact rfl | assumption); (case zqhd => first | exact room (by assumption) (by decide) | exact room0 (by assumption) (by decide) | ktr_room); (case zqhu => first | exact room (by assumption) (by decide) | exact room0 (by assumption) (by decide) | ktr_units))); intro h9 tk9 b9 hb9 F9 N9; (try dsimp only); (try k_sweep); (try k_fold)))) | ((with_reducible show wpAny _ _ (call (Value.ref _) _ _) _ _ _); ((k_here; (with_reducible show wpAny _ _ (call (Value.ref 277) [Value.ref _, Value.int _ _, Value.str _ _, Value.int _ _] _) _ _ _); k_dflt ((first | refine' use_val (written1 _ _ _ _ _ _ _ _ _ _ _ _ _ _ ?zqp1 ?zqp2 ?zqp3 ?zqp4) ?zqB ?zqF ?zqX ?zqN ?zqT ?zqhk ?zqhd ?zqhu ?_ | refine' use_val (written2 _ _ _ _ _ _ _ _ _ _ _ _ _ _ ?zqp1 ?zqp2 ?zqp3 ?zqp4) ?zqB ?zqF ?zqX ?zqN ?zqT ?zqhk ?zqhd ?zqhu ?_ | refine' use_val (written3 _ _ _ _ _ _ _ _ _ _ _ _ _ _ ?zqp1 ?zqp2 ?zqp3 ?zqp4) ?zqB ?zqF ?zqX ?zqN ?zqT ?zqhk ?zqhd ?zqhu ?_); (case zqB => k_asm); (case zqF => k_asm); (case zqX => k_asm); (case zqN => k_asm); (case zqT => k_asm); (case zqp1 => k_mem); (case zqp2 => (first | assumption | exact RowsIn.mono (fun q hq => by (repeat refine List.mem_cons_of_mem _ ?_); exact hq) (by assumption))); (case zqp3 => first | assumption | omega); (case zqp4 => decide +kernel); (case zqhk => first | exact rfl | assumption); (case zqhd => first | exact room (by assumption) (by decide) | exact room0 (by assumption) (by decide) | ktr_room); (case zqhu => first | exact room (by assumption) (by decide) | exact room0 (by assumption) (by decide) | ktr_units)); intro h9 tk9 t9 F9 N9; (try dsimp only); (try k_sweep); (try k_fold)))) | ((with_reducible show UnrEnd _ _ _ _ _ _ _); (first | (with_unfolding_all refine unrEnd_2 (by assumption) (by assumption) (by assumption) (by assumption) (by assumption) ?_) | ((first | with_unfolding_all refine unrEnd_4 (by assumption) (by assumption) ?_ ?_ ?_ ?_ (by assumption) ?_ | with_unfolding_all refine unrEnd_6 (by assumption) (by assumption) ?_ ?_ ?_ ?_ ?_ ?_ (by assumption) ?_); (repeat (first | assumption | exact And.left (by assumption) | exact And.left (And.right (by assumption)) | exact And.left (And.right (And.right (by assumption))) | exact And.left (And.right (And.right (And.right (by assumption)))) | exact And.left (And.right (And.right (And.right (And.right (by assumption))))) | exact And.left (And.right (And.right (And.right (And.right (And.right (by assumption)))))) | exact And.left (And.right (And.right (And.right (And.right (And.right (And.right (by assumption))))))) | exact And.left (And.right (And.right (And.right (And.right (And.right (And.right (And.right (by assumption)))))))) | exact And.left (And.right (And.right (And.right (And.right (And.right (And.right (And.right (And.right (by assumption))))))))) | exact And.left (And.right (And.right (And.right (And.right (And.right (And.right (And.right (And.right (And.right (by assumption)))))))))) | omega))))) | ((with_reducible show wpAny _ _ (storeName _ _ _) _ _ _); ((k_here; k_dflt ((refine' store_let ?zqF ?zqN ?_ ?zqa ?zqb; (case zqF => k_asm); (case zqN => k_asm); (case zqa => rfl); (case zqb => rfl); k_whole; intro m' h' tk' F' N'; (try k_sweep)))))) | walk1 | (dsimp only; walk1) | (leave1; (try dsimp only)) | fail "no step")
  unfold Halt
  k_dflt (refine LCp.SrcLP.ledger (by rfl) (by k_asm) (by k_asm) (by k_mem) (by rw [List.size_toArray, hw.length, sizeLine_eq]; omega) ?_)
  intro g9
  refine compP_rows hw (fun pre ys => IntsAre ys (pre.map (·.1))) ?_ ?_ _ 0 [] (by rw [List.size_toArray, hw.length]; omega) .nil
  · intro ys hys D h tk F N o1
    repeat' (first | ((k_unfold); (try dsimp only)) | (k_end; kc_close) | ((with_reducible show wpAny _ _ (binaryOp Operator.Mult (Value.ref _) (Value.int _ _)) _ _ _); ((k_here; (with_reducible show wpAny _ _ (binaryOp Operator.Mult (Value.ref _) (Value.int _ _)) _ _ _); (with_unfolding_all refine' KMa.mul ?zqF ?zqN ?zql ?zqlo ?zqhi ?zqz ?zqe ?_; (case zqF => k_asm); (case zqN => k_asm); (case zql => exact News.isList (by k_asm) (.head _)); (case zqlo => decide); (case zqhi => decide); (case zqz => exact Nat.le_of_ble_eq_true rfl); (case zqe => exact rfl); k_whole); intro D' h' F' N' l1; (try k_lt l1)))) | ((with_reducible show wpAny _ _ (call (Value.ref _) _ _) _ _ _); ((k_here; (with_reducible show wpAny _ _ (call (Value.ref 282) [Value.ref _, Value.ref _] _) _ _ _); k_dflt ((refine' use_bool (fits_ctr _ _ _ _ _ _ _ _ _ _ _ _ _ ?zqp1 ?zqp2 ?zqp3 ?zqp4 ?zqp5 ?zqp6) ?zqB ?zqF ?zqX ?zqN ?zqT ?zqhk ?zqhd ?zqhu ?_; (case zqB => k_asm); (case zqF => k_asm); (case zqX => k_asm); (case zqN => k_asm); (case zqT => k_asm); (case zqp1 => k_mem); (case zqp2 => (first | assumption | exact RowsIn.mono (fun q hq => by (repeat refine List.mem_cons_of_mem _ ?_); exact hq) (by assumption))); (case zqp3 => k_mem); (case zqp4 => (first | assumption | exact RowsIn.mono (fun q hq => by (repeat refine List.mem_cons_of_mem _ ?_); exact hq) (by assumption))); (case zqp5 => first | assumption | omega); (case zqp6 => first | assumption | omega); (case zqhk => first | exact rfl | assumption); (case zqhd => first | exact room (by assumption) (by decide) | exact room0 (by assumption) (by decide) | ktr_room); (case zqhu => first | exact room (by assumption) (by decide) | exact room0 (by assumption) (by decide) | ktr_units))); intro h9 tk9 b9 hb9 F9 N9; (try dsimp only); (try k_sweep); (try k_fold)))) | ((with_reducible show wpAny _ _ (call (Value.ref _) _ _) _ _ _); ((k_here; (with_reducible show wpAny _ _ (call (Value.ref 277) [Value.ref _, Value.int _ _, Value.str _ _, Value.int _ _] _) _ _ _); k_dflt ((first | refine' use_val (written1 _ _ _ _ _ _ _ _ _ _ _ _ _ _ ?zqp1 ?zqp2 ?zqp3 ?zqp4) ?zqB ?zqF ?zqX ?zqN ?zqT ?zqhk ?zqhd ?zqhu ?_ | refine' use_val (written2 _ _ _ _ _ _ _ _ _ _ _ _ _ _ ?zqp1 ?zqp2 ?zqp3 ?zqp4) ?zqB ?zqF ?zqX ?zqN ?zqT ?zqhk ?zqhd ?zqhu ?_ | refine' use_val (written3 _ _ _ _ _ _ _ _ _ _ _ _ _ _ ?zqp1 ?zqp2 ?zqp3 ?zqp4) ?zqB ?zqF ?zqX ?zqN ?zqT ?zqhk ?zqhd ?zqhu ?_); (case zqB => k_asm); (case zqF => k_asm); (case zqX => k_asm); (case zqN => k_asm); (case zqT => k_asm); (case zqp1 => k_mem); (case zqp2 => (first | assumption | exact RowsIn.mono (fun q hq => by (repeat refine List.mem_cons_of_mem _ ?_); exact hq) (by assumption))); (case zqp3 => first | assumption | omega); (case zqp4 => decide +kernel); (case zqhk => first | exact rfl | assumption); (case zqhd => first | exact room (by assumption) (by decide) | exact room0 (by assumption) (by decide) | ktr_room); (case zqhu => first | exact room (by assumption) (by decide) | exact room0 (by assumption) (by decide) | ktr_units)); intro h9 tk9 t9 F9 N9; (try dsimp only); (try k_sweep); (try k_fold)))) | ((with_reducible show UnrEnd _ _ _ _ _ _ _); (first | (with_unfolding_all refine unrEnd_2 (by assumption) (by assumption) (by assumption) (by assumption) (by assumption) ?_) | ((first | with_unfolding_all refine unrEnd_4 (by assumption) (by assumption) ?_ ?_ ?_ ?_ (by assumption) ?_ | with_unfolding_all refine unrEnd_6 (by assumption) (by assumption) ?_ ?_ ?_ ?_ ?_ ?_ (by assumption) ?_); (repeat (first | assumption | exact And.left (by assumption) | exact And.left (And.right (by assumption)) | exact And.left (And.right (And.right (by assumption))) | exact And.left (And.right (And.right (And.right (by assumption)))) | exact And.left (And.right (And.right (And.right (And.right (by assumption))))) | exact And.left (And.right (And.right (And.right (And.right (And.right (by assumption)))))) | exact And.left (And.right (And.right (And.right (And.right (And.right (And.right (by assumption))))))) | exact And.left (And.right (And.right (And.right (And.right (And.right (And.right (And.right (by assumption)))))))) | exact And.left (And.right (And.right (And.right (And.right (And.right (And.right (And.right (And.right (by assumption))))))))) | exact And.left (And.right (And.right (And.right (And.right (And.right (And.right (And.right (And.right (And.right (by assumption)))))))))) | omega))))) | ((with_reducible show wpAny _ _ (storeName _ _ _) _ _ _); ((k_here; k_dflt ((refine' store_let ?zqF ?zqN ?_ ?zqa ?zqb; (case zqF => k_asm); (case zqN => k_asm); (case zqa => rfl); (case zqb => rfl); k_whole; intro m' h' tk' F' N'; (try k_sweep)))))) | walk1 | (dsimp only; walk1) | (leave1; (try dsimp only)) | fail "no step")
    · (rename News h₀ _ _ _ => kN)
      refine hret _ _ _ _ ?_ (by assumption) kN
      exact ⟨fun q hq => (by repeat first | exact hq | refine List.Mem.tail _ ?_), .inl ⟨by assumption, shows_tup (.head _) (.cons (shows_list (by repeat first | exact List.Mem.head _ | refine List.Mem.tail _ ?_) (.cons (shows_str rfl) .nil)) (.cons (shows_list (by repeat first | exact List.Mem.head _ | refine List.Mem.tail _ ?_) .nil) .nil))⟩⟩
    · unfold Halt
      k_dflt (refine LCp.SrcLP.ledger (by rfl) (by k_asm) (by k_asm) (by k_mem) (by rw [List.size_toArray, hg.length, sizeLine_eq]; omega) ?_)
      intro g9
      refine compP_rows (hg.mono fun q hq => .tail _ hq) (fun pre ys => IntsAre ys (pre.map (·.1))) ?_ ?_ _ 0 [] (by rw [List.size_toArray, hg.length]; omega) .nil
      · intro ys hys D h tk F N o1
        repeat' (first | ((k_unfold); (try dsimp only)) | (k_end; kc_close) | ((with_reducible show wpAny _ _ (binaryOp Operator.Mult (Value.ref _) (Value.int _ _)) _ _ _); ((k_here; (with_reducible show wpAny _ _ (binaryOp Operator.Mult (Value.ref _) (Value.int _ _)) _ _ _); (with_unfolding_all refine' KMa.mul ?zqF ?zqN ?zql ?zqlo ?zqhi ?zqz ?zqe ?_; (case zqF => k_asm); (case zqN => k_asm); (case zql => exact News.isList (by k_asm) (.head _)); (case zqlo => decide); (case zqhi => decide); (case zqz => exact Nat.le_of_ble_eq_true rfl); (case zqe => exact rfl); k_whole); intro D' h' F' N' l1; (try k_lt l1)))) | ((with_reducible show wpAny _ _ (call (Value.ref _) _ _) _ _ _); ((k_here; (with_reducible show wpAny _ _ (call (Value.ref 282) [Value.ref _, Value.ref _] _) _ _ _); k_dflt ((refine' use_bool (fits_ctr _ _ _ _ _ _ _ _ _ _ _ _ _ ?zqp1 ?zqp2 ?zqp3 ?zqp4 ?zqp5 ?zqp6) ?zqB ?zqF ?zqX ?zqN ?zqT ?zqhk ?zqhd ?zqhu ?_; (case zqB => k_asm); (case zqF => k_asm); (case zqX => k_asm); (case zqN => k_asm); (case zqT => k_asm); (case zqp1 => k_mem); (case zqp2 => (first | assumption | exact RowsIn.mono (fun q hq => by (repeat refine List.mem_cons_of_mem _ ?_); exact hq) (by assumption))); (case zqp3 => k_mem); (case zqp4 => (first | assumption | exact RowsIn.mono (fun q hq => by (repeat refine List.mem_cons_of_mem _ ?_); exact hq) (by assumption))); (case zqp5 => first | assumption | omega); (case zqp6 => first | assumption | omega); (case zqhk => first | exact rfl | assumption); (case zqhd => first | exact room (by assumption) (by decide) | exact room0 (by assumption) (by decide) | ktr_room); (case zqhu => first | exact room (by assumption) (by decide) | exact room0 (by assumption) (by decide) | ktr_units))); intro h9 tk9 b9 hb9 F9 N9; (try dsimp only); (try k_sweep); (try k_fold)))) | ((with_reducible show wpAny _ _ (call (Value.ref _) _ _) _ _ _); ((k_here; (with_reducible show wpAny _ _ (call (Value.ref 277) [Value.ref _, Value.int _ _, Value.str _ _, Value.int _ _] _) _ _ _); k_dflt ((first | refine' use_val (written1 _ _ _ _ _ _ _ _ _ _ _ _ _ _ ?zqp1 ?zqp2 ?zqp3 ?zqp4) ?zqB ?zqF ?zqX ?zqN ?zqT ?zqhk ?zqhd ?zqhu ?_ | refine' use_val (written2 _ _ _ _ _ _ _ _ _ _ _ _ _ _ ?zqp1 ?zqp2 ?zqp3 ?zqp4) ?zqB ?zqF ?zqX ?zqN ?zqT ?zqhk ?zqhd ?zqhu ?_ | refine' use_val (written3 _ _ _ _ _ _ _ _ _ _ _ _ _ _ ?zqp1 ?zqp2 ?zqp3 ?zqp4) ?zqB ?zqF ?zqX ?zqN ?zqT ?zqhk ?zqhd ?zqhu ?_); (case zqB => k_asm); (case zqF => k_asm); (case zqX => k_asm); (case zqN => k_asm); (case zqT => k_asm); (case zqp1 => k_mem); (case zqp2 => (first | assumption | exact RowsIn.mono (fun q hq => by (repeat refine List.mem_cons_of_mem _ ?_); exact hq) (by assumption))); (case zqp3 => first | assumption | omega); (case zqp4 => decide +kernel); (case zqhk => first | exact rfl | assumption); (case zqhd => first | exact room (by assumption) (by decide) | exact room0 (by assumption) (by decide) | ktr_room); (case zqhu => first | exact room (by assumption) (by decide) | exact room0 (by assumption) (by decide) | ktr_units)); intro h9 tk9 t9 F9 N9; (try dsimp only); (try k_sweep); (try k_fold)))) | ((with_reducible show UnrEnd _ _ _ _ _ _ _); (first | (with_unfolding_all refine unrEnd_2 (by assumption) (by assumption) (by assumption) (by assumption) (by assumption) ?_) | ((first | with_unfolding_all refine unrEnd_4 (by assumption) (by assumption) ?_ ?_ ?_ ?_ (by assumption) ?_ | with_unfolding_all refine unrEnd_6 (by assumption) (by assumption) ?_ ?_ ?_ ?_ ?_ ?_ (by assumption) ?_); (repeat (first | assumption | exact And.left (by assumption) | exact And.left (And.right (by assumption)) | exact And.left (And.right (And.right (by assumption))) | exact And.left (And.right (And.right (And.right (by assumption)))) | exact And.left (And.right (And.right (And.right (And.right (by assumption))))) | exact And.left (And.right (And.right (And.right (And.right (And.right (by assumption)))))) | exact And.left (And.right (And.right (And.right (And.right (And.right (And.right (by assumption))))))) | exact And.left (And.right (And.right (And.right (And.right (And.right (And.right (And.right (by assumption)))))))) | exact And.left (And.right (And.right (And.right (And.right (And.right (And.right (And.right (And.right (by assumption))))))))) | exact And.left (And.right (And.right (And.right (And.right (And.right (And.right (And.right (And.right (And.right (by assumption)))))))))) | omega))))) | ((with_reducible show wpAny _ _ (storeName _ _ _) _ _ _); ((k_here; k_dflt ((refine' store_let ?zqF ?zqN ?_ ?zqa ?zqb; (case zqF => k_asm); (case zqN => k_asm); (case zqa => rfl); (case zqb => rfl); k_whole; intro m' h' tk' F' N'; (try k_sweep)))))) | walk1 | (dsimp only; walk1) | (leave1; (try dsimp only)) | fail "no step")
        · (rename News h₀ _ _ _ => kN)
          refine hret _ _ _ _ ?_ (by assumption) kN
          exact ⟨fun q hq => (by repeat first | exact hq | refine List.Mem.tail _ ?_), .inr (.inl ⟨by assumption, by assumption, shows_tup (.head _) (.cons (shows_list (by repeat first | exact List.Mem.head _ | refine List.Mem.tail _ ?_) (.cons (shows_str rfl) .nil)) (.cons (shows_list (by repeat first | exact List.Mem.head _ | refine List.Mem.tail _ ?_) (.cons (shows_tup (by repeat first | exact List.Mem.head _ | refine List.Mem.tail _ ?_) (.cons (shows_str (by decide +kernel)) (.cons (shows_str rfl) .nil))) .nil)) .nil))⟩)⟩
        · (rename News h₀ _ _ _ => kN)
          refine hret _ _ _ _ ?_ (by assumption) kN
          exact ⟨fun q hq => (by repeat first | exact hq | refine List.Mem.tail _ ?_), .inr (.inr ⟨by assumption, by assumption, _, by assumption, shows_tup (.head _) (.cons (shows_list (by repeat first | exact List.Mem.head _ | refine List.Mem.tail _ ?_) (.cons shows_bool .nil)) (.cons (shows_list (by repeat first | exact List.Mem.head _ | refine List.Mem.tail _ ?_) (.cons (shows_tup (by repeat first | exact List.Mem.head _ | refine List.Mem.tail _ ?_) (.cons (shows_str (by decide +kernel)) (.cons (shows_str rfl) .nil))) (.cons (shows_tup (by repeat first | exact List.Mem.head _ | refine List.Mem.tail _ ?_) (.cons (shows_str (by decide +kernel)) (.cons (shows_str rfl) .nil))) .nil))) .nil))⟩)⟩
      · intro pre k p rem ys I oI C oC D m₂ h tk E' ta tb hrr hys hC hx hx₂ F N off ne
        repeat' (first | ((k_unfold); (try dsimp only)) | (k_end; kc_close) | ((with_reducible show wpAny _ _ (binaryOp Operator.Mult (Value.ref _) (Value.int _ _)) _ _ _); ((k_here; (with_reducible show wpAny _ _ (binaryOp Operator.Mult (Value.ref _) (Value.int _ _)) _ _ _); (with_unfolding_all refine' KMa.mul ?zqF ?zqN ?zql ?zqlo ?zqhi ?zqz ?zqe ?_; (case zqF => k_asm); (case zqN => k_asm); (case zql => exact News.isList (by k_asm) (.head _)); (case zqlo => decide); (case zqhi => decide); (case zqz => exact Nat.le_of_ble_eq_true rfl); (case zqe => exact rfl); k_whole); intro D' h' F' N' l1; (try k_lt l1)))) | ((with_reducible show wpAny _ _ (call (Value.ref _) _ _) _ _ _); ((k_here; (with_reducible show wpAny _ _ (call (Value.ref 282) [Value.ref _, Value.ref _] _) _ _ _); k_dflt ((refine' use_bool (fits_ctr _ _ _ _ _ _ _ _ _ _ _ _ _ ?zqp1 ?zqp2 ?zqp3 ?zqp4 ?zqp5 ?zqp6) ?zqB ?zqF ?zqX ?zqN ?zqT ?zqhk ?zqhd ?zqhu ?_; (case zqB => k_asm); (case zqF => k_asm); (case zqX => k_asm); (case zqN => k_asm); (case zqT => k_asm); (case zqp1 => k_mem); (case zqp2 => (first | assumption | exact RowsIn.mono (fun q hq => by (repeat refine List.mem_cons_of_mem _ ?_); exact hq) (by assumption))); (case zqp3 => k_mem); (case zqp4 => (first | assumption | exact RowsIn.mono (fun q hq => by (repeat refine List.mem_cons_of_mem _ ?_); exact hq) (by assumption))); (case zqp5 => first | assumption | omega); (case zqp6 => first | assumption | omega); (case zqhk => first | exact rfl | assumption); (case zqhd => first | exact room (by assumption) (by decide) | exact room0 (by assumption) (by decide) | ktr_room); (case zqhu => first | exact room (by assumption) (by decide) | exact room0 (by assumption) (by decide) | ktr_units))); intro h9 tk9 b9 hb9 F9 N9; (try dsimp only); (try k_sweep); (try k_fold)))) | ((with_reducible show wpAny _ _ (call (Value.ref _) _ _) _ _ _); ((k_here; (with_reducible show wpAny _ _ (call (Value.ref 277) [Value.ref _, Value.int _ _, Value.str _ _, Value.int _ _] _) _ _ _); k_dflt ((first | refine' use_val (written1 _ _ _ _ _ _ _ _ _ _ _ _ _ _ ?zqp1 ?zqp2 ?zqp3 ?zqp4) ?zqB ?zqF ?zqX ?zqN ?zqT ?zqhk ?zqhd ?zqhu ?_ | refine' use_val (written2 _ _ _ _ _ _ _ _ _ _ _ _ _ _ ?zqp1 ?zqp2 ?zqp3 ?zqp4) ?zqB ?zqF ?zqX ?zqN ?zqT ?zqhk ?zqhd ?zqhu ?_ | refine' use_val (written3 _ _ _ _ _ _ _ _ _ _ _ _ _ _ ?zqp1 ?zqp2 ?zqp3 ?zqp4) ?zqB ?zqF ?zqX ?zqN ?zqT ?zqhk ?zqhd ?zqhu ?_); (case zqB => k_asm); (case zqF => k_asm); (case zqX => k_asm); (case zqN => k_asm); (case zqT => k_asm); (case zqp1 => k_mem); (case zqp2 => (first | assumption | exact RowsIn.mono (fun q hq => by (repeat refine List.mem_cons_of_mem _ ?_); exact hq) (by assumption))); (case zqp3 => first | assumption | omega); (case zqp4 => decide +kernel); (case zqhk => first | exact rfl | assumption); (case zqhd => first | exact room (by assumption) (by decide) | exact room0 (by assumption) (by decide) | ktr_room); (case zqhu => first | exact room (by assumption) (by decide) | exact room0 (by assumption) (by decide) | ktr_units)); intro h9 tk9 t9 F9 N9; (try dsimp only); (try k_sweep); (try k_fold)))) | ((with_reducible show UnrEnd _ _ _ _ _ _ _); (first | (with_unfolding_all refine unrEnd_2 (by assumption) (by assumption) (by assumption) (by assumption) (by assumption) ?_) | ((first | with_unfolding_all refine unrEnd_4 (by assumption) (by assumption) ?_ ?_ ?_ ?_ (by assumption) ?_ | with_unfolding_all refine unrEnd_6 (by assumption) (by assumption) ?_ ?_ ?_ ?_ ?_ ?_ (by assumption) ?_); (repeat (first | assumption | exact And.left (by assumption) | exact And.left (And.right (by assumption)) | exact And.left (And.right (And.right (by assumption))) | exact And.left (And.right (And.right (And.right (by assumption)))) | exact And.left (And.right (And.right (And.right (And.right (by assumption))))) | exact And.left (And.right (And.right (And.right (And.right (And.right (by assumption)))))) | exact And.left (And.right (And.right (And.right (And.right (And.right (And.right (by assumption))))))) | exact And.left (And.right (And.right (And.right (And.right (And.right (And.right (And.right (by assumption)))))))) | exact And.left (And.right (And.right (And.right (And.right (And.right (And.right (And.right (And.right (by assumption))))))))) | exact And.left (And.right (And.right (And.right (And.right (And.right (And.right (And.right (And.right (And.right (by assumption)))))))))) | omega))))) | ((with_reducible show wpAny _ _ (storeName _ _ _) _ _ _); ((k_here; k_dflt ((refine' store_let ?zqF ?zqN ?_ ?zqa ?zqb; (case zqF => k_asm); (case zqN => k_asm); (case zqa => rfl); (case zqb => rfl); k_whole; intro m' h' tk' F' N'; (try k_sweep)))))) | walk1 | (dsimp only; walk1) | (leave1; (try dsimp only)) | fail "no step")
        exact LCg.CompEnd.intro (by assumption) (by assumption) _ (fun q hq => hq) off (.inr ⟨_, .tail _ (by assumption), rfl, _, rfl⟩) ⟨rfl, by rw [List.map_append]; exact hys.append (.cons _ _ .nil)⟩
  · intro pre k p rem ys I oI C oC D m₂ h tk E' ta tb hrr hys hC hx hx₂ F N off ne
    repeat' (first | ((k_unfold); (try dsimp only)) | (k_end; kc_close) | ((with_reducible show wpAny _ _ (binaryOp Operator.Mult (Value.ref _) (Value.int _ _)) _ _ _); ((k_here; (with_reducible show wpAny _ _ (binaryOp Operator.Mult (Value.ref _) (Value.int _ _)) _ _ _); (with_unfolding_all refine' KMa.mul ?zqF ?zqN ?zql ?zqlo ?zqhi ?zqz ?zqe ?_; (case zqF => k_asm); (case zqN => k_asm); (case zql => exact News.isList (by k_asm) (.head _)); (case zqlo => decide); (case zqhi => decide); (case zqz => exact Nat.le_of_ble_eq_true rfl); (case zqe => exact rfl); k_whole); intro D' h' F' N' l1; (try k_lt l1)))) | ((with_reducible show wpAny _ _ (call (Value.ref _) _ _) _ _ _); ((k_here; (with_reducible show wpAny _ _ (call (Value.ref 282) [Value.ref _, Value.ref _] _) _ _ _); k_dflt ((refine' use_bool (fits_ctr _ _ _ _ _ _ _ _ _ _ _ _ _ ?zqp1 ?zqp2 ?zqp3 ?zqp4 ?zqp5 ?zqp6) ?zqB ?zqF ?zqX ?zqN ?zqT ?zqhk ?zqhd ?zqhu ?_; (case zqB => k_asm); (case zqF => k_asm); (case zqX => k_asm); (case zqN => k_asm); (case zqT => k_asm); (case zqp1 => k_mem); (case zqp2 => (first | assumption | exact RowsIn.mono (fun q hq => by (repeat refine List.mem_cons_of_mem _ ?_); exact hq) (by assumption))); (case zqp3 => k_mem); (case zqp4 => (first | assumption | exact RowsIn.mono (fun q hq => by (repeat refine List.mem_cons_of_mem _ ?_); exact hq) (by assumption))); (case zqp5 => first | assumption | omega); (case zqp6 => first | assumption | omega); (case zqhk => first | exact rfl | assumption); (case zqhd => first | exact room (by assumption) (by decide) | exact room0 (by assumption) (by decide) | ktr_room); (case zqhu => first | exact room (by assumption) (by decide) | exact room0 (by assumption) (by decide) | ktr_units))); intro h9 tk9 b9 hb9 F9 N9; (try dsimp only); (try k_sweep); (try k_fold)))) | ((with_reducible show wpAny _ _ (call (Value.ref _) _ _) _ _ _); ((k_here; (with_reducible show wpAny _ _ (call (Value.ref 277) [Value.ref _, Value.int _ _, Value.str _ _, Value.int _ _] _) _ _ _); k_dflt ((first | refine' use_val (written1 _ _ _ _ _ _ _ _ _ _ _ _ _ _ ?zqp1 ?zqp2 ?zqp3 ?zqp4) ?zqB ?zqF ?zqX ?zqN ?zqT ?zqhk ?zqhd ?zqhu ?_ | refine' use_val (written2 _ _ _ _ _ _ _ _ _ _ _ _ _ _ ?zqp1 ?zqp2 ?zqp3 ?zqp4) ?zqB ?zqF ?zqX ?zqN ?zqT ?zqhk ?zqhd ?zqhu ?_ | refine' use_val (written3 _ _ _ _ _ _ _ _ _ _ _ _ _ _ ?zqp1 ?zqp2 ?zqp3 ?zqp4) ?zqB ?zqF ?zqX ?zqN ?zqT ?zqhk ?zqhd ?zqhu ?_); (case zqB => k_asm); (case zqF => k_asm); (case zqX => k_asm); (case zqN => k_asm); (case zqT => k_asm); (case zqp1 => k_mem); (case zqp2 => (first | assumption | exact RowsIn.mono (fun q hq => by (repeat refine List.mem_cons_of_mem _ ?_); exact hq) (by assumption))); (case zqp3 => first | assumption | omega); (case zqp4 => decide +kernel); (case zqhk => first | exact rfl | assumption); (case zqhd => first | exact room (by assumption) (by decide) | exact room0 (by assumption) (by decide) | ktr_room); (case zqhu => first | exact room (by assumption) (by decide) | exact room0 (by assumption) (by decide) | ktr_units)); intro h9 tk9 t9 F9 N9; (try dsimp only); (try k_sweep); (try k_fold)))) | ((with_reducible show UnrEnd _ _ _ _ _ _ _); (first | (with_unfolding_all refine unrEnd_2 (by assumption) (by assumption) (by assumption) (by assumption) (by assumption) ?_) | ((first | with_unfolding_all refine unrEnd_4 (by assumption) (by assumption) ?_ ?_ ?_ ?_ (by assumption) ?_ | with_unfolding_all refine unrEnd_6 (by assumption) (by assumption) ?_ ?_ ?_ ?_ ?_ ?_ (by assumption) ?_); (repeat (first | assumption | exact And.left (by assumption) | exact And.left (And.right (by assumption)) | exact And.left (And.right (And.right (by assumption))) | exact And.left (And.right (And.right (And.right (by assumption)))) | exact And.left (And.right (And.right (And.right (And.right (by assumption))))) | exact And.left (And.right (And.right (And.right (And.right (And.right (by assumption)))))) | exact And.left (And.right (And.right (And.right (And.right (And.right (And.right (by assumption))))))) | exact And.left (And.right (And.right (And.right (And.right (And.right (And.right (And.right (by assumption)))))))) | exact And.left (And.right (And.right (And.right (And.right (And.right (And.right (And.right (And.right (by assumption))))))))) | exact And.left (And.right (And.right (And.right (And.right (And.right (And.right (And.right (And.right (And.right (by assumption)))))))))) | omega))))) | ((with_reducible show wpAny _ _ (storeName _ _ _) _ _ _); ((k_here; k_dflt ((refine' store_let ?zqF ?zqN ?_ ?zqa ?zqb; (case zqF => k_asm); (case zqN => k_asm); (case zqa => rfl); (case zqb => rfl); k_whole; intro m' h' tk' F' N'; (try k_sweep)))))) | walk1 | (dsimp only; walk1) | (leave1; (try dsimp only)) | fail "no step")
    exact LCg.CompEnd.intro (by assumption) (by assumption) _ (fun q hq => hq) off (.inr ⟨_, by assumption, rfl, _, rfl⟩) ⟨rfl, by rw [List.map_append]; exact hys.append (.cons _ _ .nil)⟩
theorem due2 (lw lg : Addr) (ws gs : List Value) (wr gr : List (Int × Int)) (nw ng : Nat) (turn : Int) (t1 t2 : Tok) (mw : (lw, listOf ws.toArray nw) ∈ rest) (hw : RowsIn rest ws wr) (mg' : (lg, listOf gs.toArray ng) ∈ rest) (hg : RowsIn rest gs gr) (lwl : wr.length ≤ 8) (lgl : gr.length ≤ 8) :
    Ctr w mean mg mb 287 [.ref lw, .ref lg, .int turn t1, .int 2 t2] rest 8 300 (DueRet rest 2 turn wr gr) := by
  intro dp un gd cn cs a ccd cl outer A₀ base h₀ L m s Q E B F X N T hk hd hu hret
  refine wpAny_call ?_
  k_dflt ktr_enter
  (rename Fr _ _ _ _ => lF9); refine map_let lF9 ?_; clear lF9; intro m9 lF9; refine frame_let ?_; intro A9 env9
  repeat' (first | ((k_unfold); (try dsimp only)) | (k_end; kc_close) | ((with_reducible show wpAny _ _ (binaryOp Operator.Mult (Value.ref _) (Value.int _ _)) _ _ _); ((k_here; (with_reducible show wpAny _ _ (binaryOp Operator.Mult (Value.ref _) (Value.int _ _)) _ _ _); (with_unfolding_all refine' KMa.mul ?zqF ?zqN ?zql ?zqlo ?zqhi ?zqz ?zqe ?_; (case zqF => k_asm); (case zqN => k_asm); (case zql => exact News.isList (by k_asm) (.head _)); (case zqlo => decide); (case zqhi => decide); (case zqz => exact Nat.le_of_ble_eq_true rfl); (case zqe => exact rfl); k_whole); intro D' h' F' N' l1; (try k_lt l1)))) | ((with_reducible show wpAny _ _ (call (Value.ref _) _ _) _ _ _); ((k_here; (with_reducible show wpAny _ _ (call (Value.ref 282) [Value.ref _, Value.ref _] _) _ _ _); k_dflt ((refine' use_bool (fits_ctr _ _ _ _ _ _ _ _ _ _ _ _ _ ?zqp1 ?zqp2 ?zqp3 ?zqp4 ?zqp5 ?zqp6) ?zqB ?zqF ?zqX ?zqN ?zqT ?zqhk ?zqhd ?zqhu ?_; (case zqB => k_asm); (case zqF => k_asm); (case zqX => k_asm); (case zqN => k_asm); (case zqT => k_asm); (case zqp1 => k_mem); (case zqp2 => (first | assumption | exact RowsIn.mono (fun q hq => by (repeat refine List.mem_cons_of_mem _ ?_); exact hq) (by assumption))); (case zqp3 => k_mem); (case zqp4 => (first | assumption | exact RowsIn.mono (fun q hq => by (repeat refine List.mem_cons_of_mem _ ?_); exact hq) (by assumption))); (case zqp5 => first | assumption | omega); (case zqp6 => first | assumption | omega); (case zqhk => first | exact rfl | assumption); (case zqhd => first | exact room (by assumption) (by decide) | exact room0 (by assumption) (by decide) | ktr_room); (case zqhu => first | exact room (by assumption) (by decide) | exact room0 (by assumption) (by decide) | ktr_units))); intro h9 tk9 b9 hb9 F9 N9; (try dsimp only); (try k_sweep); (try k_fold)))) | ((with_reducible show wpAny _ _ (call (Value.ref _) _ _) _ _ _); ((k_here; (with_reducible show wpAny _ _ (call (Value.ref 277) [Value.ref _, Value.int _ _, Value.str _ _, Value.int _ _] _) _ _ _); k_dflt ((first | refine' use_val (written1 _ _ _ _ _ _ _ _ _ _ _ _ _ _ ?zqp1 ?zqp2 ?zqp3 ?zqp4) ?zqB ?zqF ?zqX ?zqN ?zqT ?zqhk ?zqhd ?zqhu ?_ | refine' use_val (written2 _ _ _ _ _ _ _ _ _ _ _ _ _ _ ?zqp1 ?zqp2 ?zqp3 ?zqp4) ?zqB ?zqF ?zqX ?zqN ?zqT ?zqhk ?zqhd ?zqhu ?_ | refine' use_val (written3 _ _ _ _ _ _ _ _ _ _ _ _ _ _ ?zqp1 ?zqp2 ?zqp3 ?zqp4) ?zqB ?zqF ?zqX ?zqN ?zqT ?zqhk ?zqhd ?zqhu ?_); (case zqB => k_asm); (case zqF => k_asm); (case zqX => k_asm); (case zqN => k_asm); (case zqT => k_asm); (case zqp1 => k_mem); (case zqp2 => (first | assumption | exact RowsIn.mono (fun q hq => by (repeat refine List.mem_cons_of_mem _ ?_); exact hq) (by assumption))); (case zqp3 => first | assumption | omega); (case zqp4 => decide +kernel); (case zqhk => first | exact rfl | assumption); (case zqhd => first | exact room (by assumption) (by decide) | exact room0 (by assumption) (by decide) | ktr_room); (case zqhu => first | exact room (by assumption) (by decide) | exact room0 (by assumption) (by decide) | ktr_units)); intro h9 tk9 t9 F9 N9; (try dsimp only); (try k_sweep); (try k_fold)))) | ((with_reducible show UnrEnd _ _ _ _ _ _ _); (first | (with_unfolding_all refine unrEnd_2 (by assumption) (by assumption) (by assumption) (by assumption) (by assumption) ?_) | ((first | with_unfolding_all refine unrEnd_4 (by assumption) (by assumption) ?_ ?_ ?_ ?_ (by assumption) ?_ | with_unfolding_all refine unrEnd_6 (by assumption) (by assumption) ?_ ?_ ?_ ?_ ?_ ?_ (by assumption) ?_); (repeat (first | assumption | exact And.left (by assumption) | exact And.left (And.right (by assumption)) | exact And.left (And.right (And.right (by assumption))) | exact And.left (And.right (And.right (And.right (by assumption)))) | exact And.left (And.right (And.right (And.right (And.right (by assumption))))) | exact And.left (And.right (And.right (And.right (And.right (And.right (by assumption)))))) | exact And.left (And.right (And.right (And.right (And.right (And.right (And.right (by assumption))))))) | exact And.left (And.right (And.right (And.right (And.right (And.right (And.right (And.right (by assumption)))))))) | exact And.left (And.right (And.right (And.right (And.right (And.right (And.right (And.right (And.right (by assumption))))))))) | exact And.left (And.right (And.right (And.right (And.right (And.right (And.right (And.right (And.right (And.right (by assumption)))))))))) | omega))))) | ((with_reducible show wpAny _ _ (storeName _ _ _) _ _ _); ((k_here; k_dflt ((refine' store_let ?zqF ?zqN ?_ ?zqa ?zqb; (case zqF => k_asm); (case zqN => k_asm); (case zqa => rfl); (case zqb => rfl); k_whole; intro m' h' tk' F' N'; (try k_sweep)))))) | walk1 | (dsimp only; walk1) | (leave1; (try dsimp only)) | fail "no step")
  unfold Halt
  k_dflt (refine LCp.SrcLP.ledger (by rfl) (by k_asm) (by k_asm) (by k_mem) (by rw [List.size_toArray, hw.length, sizeLine_eq]; omega) ?_)
  intro g9
  refine compP_rows hw (fun pre ys => IntsAre ys (pre.map (·.1))) ?_ ?_ _ 0 [] (by rw [List.size_toArray, hw.length]; omega) .nil
  · intro ys hys D h tk F N o1
    repeat' (first | ((k_unfold); (try dsimp only)) | (k_end; kc_close) | ((with_reducible show wpAny _ _ (binaryOp Operator.Mult (Value.ref _) (Value.int _ _)) _ _ _); ((k_here; (with_reducible show wpAny _ _ (binaryOp Operator.Mult (Value.ref _) (Value.int _ _)) _ _ _); (with_unfolding_all refine' KMa.mul ?zqF ?zqN ?zql ?zqlo ?zqhi ?zqz ?zqe ?_; (case zqF => k_asm); (case zqN => k_asm); (case zql => exact News.isList (by k_asm) (.head _)); (case zqlo => decide); (case zqhi => decide); (case zqz => exact Nat.le_of_ble_eq_true rfl); (case zqe => exact rfl); k_whole); intro D' h' F' N' l1; (try k_lt l1)))) | ((with_reducible show wpAny _ _ (call (Value.ref _) _ _) _ _ _); ((k_here; (with_reducible show wpAny _ _ (call (Value.ref 282) [Value.ref _, Value.ref _] _) _ _ _); k_dflt ((refine' use_bool (fits_ctr _ _ _ _ _ _ _ _ _ _ _ _ _ ?zqp1 ?zqp2 ?zqp3 ?zqp4 ?zqp5 ?zqp6) ?zqB ?zqF ?zqX ?zqN ?zqT ?zqhk ?zqhd ?zqhu ?_; (case zqB => k_asm); (case zqF => k_asm); (case zqX => k_asm); (case zqN => k_asm); (case zqT => k_asm); (case zqp1 => k_mem); (case zqp2 => (first | assumption | exact RowsIn.mono (fun q hq => by (repeat refine List.mem_cons_of_mem _ ?_); exact hq) (by assumption))); (case zqp3 => k_mem); (case zqp4 => (first | assumption | exact RowsIn.mono (fun q hq => by (repeat refine List.mem_cons_of_mem _ ?_); exact hq) (by assumption))); (case zqp5 => first | assumption | omega); (case zqp6 => first | assumption | omega); (case zqhk => first | exact rfl | assumption); (case zqhd => first | exact room (by assumption) (by decide) | exact room0 (by assumption) (by decide) | ktr_room); (case zqhu => first | exact room (by assumption) (by decide) | exact room0 (by assumption) (by decide) | ktr_units))); intro h9 tk9 b9 hb9 F9 N9; (try dsimp only); (try k_sweep); (try k_fold)))) | ((with_reducible show wpAny _ _ (call (Value.ref _) _ _) _ _ _); ((k_here; (with_reducible show wpAny _ _ (call (Value.ref 277) [Value.ref _, Value.int _ _, Value.str _ _, Value.int _ _] _) _ _ _); k_dflt ((first | refine' use_val (written1 _ _ _ _ _ _ _ _ _ _ _ _ _ _ ?zqp1 ?zqp2 ?zqp3 ?zqp4) ?zqB ?zqF ?zqX ?zqN ?zqT ?zqhk ?zqhd ?zqhu ?_ | refine' use_val (written2 _ _ _ _ _ _ _ _ _ _ _ _ _ _ ?zqp1 ?zqp2 ?zqp3 ?zqp4) ?zqB ?zqF ?zqX ?zqN ?zqT ?zqhk ?zqhd ?zqhu ?_ | refine' use_val (written3 _ _ _ _ _ _ _ _ _ _ _ _ _ _ ?zqp1 ?zqp2 ?zqp3 ?zqp4) ?zqB ?zqF ?zqX ?zqN ?zqT ?zqhk ?zqhd ?zqhu ?_); (case zqB => k_asm); (case zqF => k_asm); (case zqX => k_asm); (case zqN => k_asm); (case zqT => k_asm); (case zqp1 => k_mem); (case zqp2 => (first | assumption | exact RowsIn.mono (fun q hq => by (repeat refine List.mem_cons_of_mem _ ?_); exact hq) (by assumption))); (case zqp3 => first | assumption | omega); (case zqp4 => decide +kernel); (case zqhk => first | exact rfl | assumption); (case zqhd => first | exact room (by assumption) (by decide) | exact room0 (by assumption) (by decide) | ktr_room); (case zqhu => first | exact room (by assumption) (by decide) | exact room0 (by assumption) (by decide) | ktr_units)); intro h9 tk9 t9 F9 N9; (try dsimp only); (try k_sweep); (try k_fold)))) | ((with_reducible show UnrEnd _ _ _ _ _ _ _); (first | (with_unfolding_all refine unrEnd_2 (by assumption) (by assumption) (by assumption) (by assumption) (by assumption) ?_) | ((first | with_unfolding_all refine unrEnd_4 (by assumption) (by assumption) ?_ ?_ ?_ ?_ (by assumption) ?_ | with_unfolding_all refine unrEnd_6 (by assumption) (by assumption) ?_ ?_ ?_ ?_ ?_ ?_ (by assumption) ?_); (repeat (first | assumption | exact And.left (by assumption) | exact And.left (And.right (by assumption)) | exact And.left (And.right (And.right (by assumption))) | exact And.left (And.right (And.right (And.right (by assumption)))) | exact And.left (And.right (And.right (And.right (And.right (by assumption))))) | exact And.left (And.right (And.right (And.right (And.right (And.right (by assumption)))))) | exact And.left (And.right (And.right (And.right (And.right (And.right (And.right (by assumption))))))) | exact And.left (And.right (And.right (And.right (And.right (And.right (And.right (And.right (by assumption)))))))) | exact And.left (And.right (And.right (And.right (And.right (And.right (And.right (And.right (And.right (by assumption))))))))) | exact And.left (And.right (And.right (And.right (And.right (And.right (And.right (And.right (And.right (And.right (by assumption)))))))))) | omega))))) | ((with_reducible show wpAny _ _ (storeName _ _ _) _ _ _); ((k_here; k_dflt ((refine' store_let ?zqF ?zqN ?_ ?zqa ?zqb; (case zqF => k_asm); (case zqN => k_asm); (case zqa => rfl); (case zqb => rfl); k_whole; intro m' h' tk' F' N'; (try k_sweep)))))) | walk1 | (dsimp only; walk1) | (leave1; (try dsimp only)) | fail "no step")
    · (rename News h₀ _ _ _ => kN)
      refine hret _ _ _ _ ?_ (by assumption) kN
      exact ⟨fun q hq => (by repeat first | exact hq | refine List.Mem.tail _ ?_), .inl ⟨by assumption, shows_tup (.head _) (.cons (shows_list (by repeat first | exact List.Mem.head _ | refine List.Mem.tail _ ?_) (.cons (shows_str rfl) .nil)) (.cons (shows_list (by repeat first | exact List.Mem.head _ | refine List.Mem.tail _ ?_) .nil) .nil))⟩⟩
    · unfold Halt
      k_dflt (refine LCp.SrcLP.ledger (by rfl) (by k_asm) (by k_asm) (by k_mem) (by rw [List.size_toArray, hg.length, sizeLine_eq]; omega) ?_)
      intro g9
      refine compP_rows (hg.mono fun q hq => .tail _ hq) (fun pre ys => IntsAre ys (pre.map (·.1))) ?_ ?_ _ 0 [] (by rw [List.size_toArray, hg.length]; omega) .nil
      · intro ys hys D h tk F N o1
        repeat' (first | ((k_unfold); (try dsimp only)) | (k_end; kc_close) | ((with_reducible show wpAny _ _ (binaryOp Operator.Mult (Value.ref _) (Value.int _ _)) _ _ _); ((k_here; (with_reducible show wpAny _ _ (binaryOp Operator.Mult (Value.ref _) (Value.int _ _)) _ _ _); (with_unfolding_all refine' KMa.mul ?zqF ?zqN ?zql ?zqlo ?zqhi ?zqz ?zqe ?_; (case zqF => k_asm); (case zqN => k_asm); (case zql => exact News.isList (by k_asm) (.head _)); (case zqlo => decide); (case zqhi => decide); (case zqz => exact Nat.le_of_ble_eq_true rfl); (case zqe => exact rfl); k_whole); intro D' h' F' N' l1; (try k_lt l1)))) | ((with_reducible show wpAny _ _ (call (Value.ref _) _ _) _ _ _); ((k_here; (with_reducible show wpAny _ _ (call (Value.ref 282) [Value.ref _, Value.ref _] _) _ _ _); k_dflt ((refine' use_bool (fits_ctr _ _ _ _ _ _ _ _ _ _ _ _ _ ?zqp1 ?zqp2 ?zqp3 ?zqp4 ?zqp5 ?zqp6) ?zqB ?zqF ?zqX ?zqN ?zqT ?zqhk ?zqhd ?zqhu ?_; (case zqB => k_asm); (case zqF => k_asm); (case zqX => k_asm); (case zqN => k_asm); (case zqT => k_asm); (case zqp1 => k_mem); (case zqp2 => (first | assumption | exact RowsIn.mono (fun q hq => by (repeat refine List.mem_cons_of_mem _ ?_); exact hq) (by assumption))); (case zqp3 => k_mem); (case zqp4 => (first | assumption | exact RowsIn.mono (fun q hq => by (repeat refine List.mem_cons_of_mem _ ?_); exact hq) (by assumption))); (case zqp5 => first | assumption | omega); (case zqp6 => first | assumption | omega); (case zqhk => first | exact rfl | assumption); (case zqhd => first | exact room (by assumption) (by decide) | exact room0 (by assumption) (by decide) | ktr_room); (case zqhu => first | exact room (by assumption) (by decide) | exact room0 (by assumption) (by decide) | ktr_units))); intro h9 tk9 b9 hb9 F9 N9; (try dsimp only); (try k_sweep); (try k_fold)))) | ((with_reducible show wpAny _ _ (call (Value.ref _) _ _) _ _ _); ((k_here; (with_reducible show wpAny _ _ (call (Value.ref 277) [Value.ref _, Value.int _ _, Value.str _ _, Value.int _ _] _) _ _ _); k_dflt ((first | refine' use_val (written1 _ _ _ _ _ _ _ _ _ _ _ _ _ _ ?zqp1 ?zqp2 ?zqp3 ?zqp4) ?zqB ?zqF ?zqX ?zqN ?zqT ?zqhk ?zqhd ?zqhu ?_ | refine' use_val (written2 _ _ _ _ _ _ _ _ _ _ _ _ _ _ ?zqp1 ?zqp2 ?zqp3 ?zqp4) ?zqB ?zqF ?zqX ?zqN ?zqT ?zqhk ?zqhd ?zqhu ?_ | refine' use_val (written3 _ _ _ _ _ _ _ _ _ _ _ _ _ _ ?zqp1 ?zqp2 ?zqp3 ?zqp4) ?zqB ?zqF ?zqX ?zqN ?zqT ?zqhk ?zqhd ?zqhu ?_); (case zqB => k_asm); (case zqF => k_asm); (case zqX => k_asm); (case zqN => k_asm); (case zqT => k_asm); (case zqp1 => k_mem); (case zqp2 => (first | assumption | exact RowsIn.mono (fun q hq => by (repeat refine List.mem_cons_of_mem _ ?_); exact hq) (by assumption))); (case zqp3 => first | assumption | omega); (case zqp4 => decide +kernel); (case zqhk => first | exact rfl | assumption); (case zqhd => first | exact room (by assumption) (by decide) | exact room0 (by assumption) (by decide) | ktr_room); (case zqhu => first | exact room (by assumption) (by decide) | exact room0 (by assumption) (by decide) | ktr_units)); intro h9 tk9 t9 F9 N9; (try dsimp only); (try k_sweep); (try k_fold)))) | ((with_reducible show UnrEnd _ _ _ _ _ _ _); (first | (with_unfolding_all refine unrEnd_2 (by assumption) (by assumption) (by assumption) (by assumption) (by assumption) ?_) | ((first | with_unfolding_all refine unrEnd_4 (by assumption) (by assumption) ?_ ?_ ?_ ?_ (by assumption) ?_ | with_unfolding_all refine unrEnd_6 (by assumption) (by assumption) ?_ ?_ ?_ ?_ ?_ ?_ (by assumption) ?_); (repeat (first | assumption | exact And.left (by assumption) | exact And.left (And.right (by assumption)) | exact And.left (And.right (And.right (by assumption))) | exact And.left (And.right (And.right (And.right (by assumption)))) | exact And.left (And.right (And.right (And.right (And.right (by assumption))))) | exact And.left (And.right (And.right (And.right (And.right (And.right (by assumption)))))) | exact And.left (And.right (And.right (And.right (And.right (And.right (And.right (by assumption))))))) | exact And.left (And.right (And.right (And.right (And.right (And.right (And.right (And.right (by assumption)))))))) | exact And.left (And.right (And.right (And.right (And.right (And.right (And.right (And.right (And.right (by assumption))))))))) | exact And.left (And.right (And.right (And.right (And.right (And.right (And.right (And.right (And.right (And.right (by assumption)))))))))) | omega))))) | ((with_reducible show wpAny _ _ (storeName _ _ _) _ _ _); ((k_here; k_dflt ((refine' store_let ?zqF ?zqN ?_ ?zqa ?zqb; (case zqF => k_asm); (case zqN => k_asm); (case zqa => rfl); (case zqb => rfl); k_whole; intro m' h' tk' F' N'; (try k_sweep)))))) | walk1 | (dsimp only; walk1) | (leave1; (try dsimp only)) | fail "no step")
        · (rename News h₀ _ _ _ => kN)
          refine hret _ _ _ _ ?_ (by assumption) kN
          exact ⟨fun q hq => (by repeat first | exact hq | refine List.Mem.tail _ ?_), .inr (.inl ⟨by assumption, by assumption, shows_tup (.head _) (.cons (shows_list (by repeat first | exact List.Mem.head _ | refine List.Mem.tail _ ?_) (.cons (shows_str rfl) .nil)) (.cons (shows_list (by repeat first | exact List.Mem.head _ | refine List.Mem.tail _ ?_) (.cons (shows_tup (by repeat first | exact List.Mem.head _ | refine List.Mem.tail _ ?_) (.cons (shows_str (by decide +kernel)) (.cons (shows_str rfl) .nil))) .nil)) .nil))⟩)⟩
        · (rename News h₀ _ _ _ => kN)
          refine hret _ _ _ _ ?_ (by assumption) kN
          exact ⟨fun q hq => (by repeat first | exact hq | refine List.Mem.tail _ ?_), .inr (.inr ⟨by assumption, by assumption, _, by assumption, shows_tup (.head _) (.cons (shows_list (by repeat first | exact List.Mem.head _ | refine List.Mem.tail _ ?_) (.cons shows_bool (.cons shows_bool .nil))) (.cons (shows_list (by repeat first | exact List.Mem.head _ | refine List.Mem.tail _ ?_) (.cons (shows_tup (by repeat first | exact List.Mem.head _ | refine List.Mem.tail _ ?_) (.cons (shows_str (by decide +kernel)) (.cons (shows_str rfl) .nil))) (.cons (shows_tup (by repeat first | exact List.Mem.head _ | refine List.Mem.tail _ ?_) (.cons (shows_str (by decide +kernel)) (.cons (shows_str rfl) .nil))) (.cons (shows_tup (by repeat first | exact List.Mem.head _ | refine List.Mem.tail _ ?_) (.cons (shows_str (by decide +kernel)) (.cons (shows_str rfl) .nil))) (.cons (shows_tup (by repeat first | exact List.Mem.head _ | refine List.Mem.tail _ ?_) (.cons (shows_str (by decide +kernel)) (.cons (shows_str rfl) .nil))) .nil))))) .nil))⟩)⟩
      · intro pre k p rem ys I oI C oC D m₂ h tk E' ta tb hrr hys hC hx hx₂ F N off ne
        repeat' (first | ((k_unfold); (try dsimp only)) | (k_end; kc_close) | ((with_reducible show wpAny _ _ (binaryOp Operator.Mult (Value.ref _) (Value.int _ _)) _ _ _); ((k_here; (with_reducible show wpAny _ _ (binaryOp Operator.Mult (Value.ref _) (Value.int _ _)) _ _ _); (with_unfolding_all refine' KMa.mul ?zqF ?zqN ?zql ?zqlo ?zqhi ?zqz ?zqe ?_; (case zqF => k_asm); (case zqN => k_asm); (case zql => exact News.isList (by k_asm) (.head _)); (case zqlo => decide); (case zqhi => decide); (case zqz => exact Nat.le_of_ble_eq_true rfl); (case zqe => exact rfl); k_whole); intro D' h' F' N' l1; (try k_lt l1)))) | ((with_reducible show wpAny _ _ (call (Value.ref _) _ _) _ _ _); ((k_here; (with_reducible show wpAny _ _ (call (Value.ref 282) [Value.ref _, Value.ref _] _) _ _ _); k_dflt ((refine' use_bool (fits_ctr _ _ _ _ _ _ _ _ _ _ _ _ _ ?zqp1 ?zqp2 ?zqp3 ?zqp4 ?zqp5 ?zqp6) ?zqB ?zqF ?zqX ?zqN ?zqT ?zqhk ?zqhd ?zqhu ?_; (case zqB => k_asm); (case zqF => k_asm); (case zqX => k_asm); (case zqN => k_asm); (case zqT => k_asm); (case zqp1 => k_mem); (case zqp2 => (first | assumption | exact RowsIn.mono (fun q hq => by (repeat refine List.mem_cons_of_mem _ ?_); exact hq) (by assumption))); (case zqp3 => k_mem); (case zqp4 => (first | assumption | exact RowsIn.mono (fun q hq => by (repeat refine List.mem_cons_of_mem _ ?_); exact hq) (by assumption))); (case zqp5 => first | assumption | omega); (case zqp6 => first | assumption | omega); (case zqhk => first | exact rfl | assumption); (case zqhd => first | exact room (by assumption) (by decide) | exact room0 (by assumption) (by decide) | ktr_room); (case zqhu => first | exact room (by assumption) (by decide) | exact room0 (by assumption) (by decide) | ktr_units))); intro h9 tk9 b9 hb9 F9 N9; (try dsimp only); (try k_sweep); (try k_fold)))) | ((with_reducible show wpAny _ _ (call (Value.ref _) _ _) _ _ _); ((k_here; (with_reducible show wpAny _ _ (call (Value.ref 277) [Value.ref _, Value.int _ _, Value.str _ _, Value.int _ _] _) _ _ _); k_dflt ((first | refine' use_val (written1 _ _ _ _ _ _ _ _ _ _ _ _ _ _ ?zqp1 ?zqp2 ?zqp3 ?zqp4) ?zqB ?zqF ?zqX ?zqN ?zqT ?zqhk ?zqhd ?zqhu ?_ | refine' use_val (written2 _ _ _ _ _ _ _ _ _ _ _ _ _ _ ?zqp1 ?zqp2 ?zqp3 ?zqp4) ?zqB ?zqF ?zqX ?zqN ?zqT ?zqhk ?zqhd ?zqhu ?_ | refine' use_val (written3 _ _ _ _ _ _ _ _ _ _ _ _ _ _ ?zqp1 ?zqp2 ?zqp3 ?zqp4) ?zqB ?zqF ?zqX ?zqN ?zqT ?zqhk ?zqhd ?zqhu ?_); (case zqB => k_asm); (case zqF => k_asm); (case zqX => k_asm); (case zqN => k_asm); (case zqT => k_asm); (case zqp1 => k_mem); (case zqp2 => (first | assumption | exact RowsIn.mono (fun q hq => by (repeat refine List.mem_cons_of_mem _ ?_); exact hq) (by assumption))); (case zqp3 => first | assumption | omega); (case zqp4 => decide +kernel); (case zqhk => first | exact rfl | assumption); (case zqhd => first | exact room (by assumption) (by decide) | exact room0 (by assumption) (by decide) | ktr_room); (case zqhu => first | exact room (by assumption) (by decide) | exact room0 (by assumption) (by decide) | ktr_units)); intro h9 tk9 t9 F9 N9; (try dsimp only); (try k_sweep); (try k_fold)))) | ((with_reducible show UnrEnd _ _ _ _ _ _ _); (first | (with_unfolding_all refine unrEnd_2 (by assumption) (by assumption) (by assumption) (by assumption) (by assumption) ?_) | ((first | with_unfolding_all refine unrEnd_4 (by assumption) (by assumption) ?_ ?_ ?_ ?_ (by assumption) ?_ | with_unfolding_all refine unrEnd_6 (by assumption) (by assumption) ?_ ?_ ?_ ?_ ?_ ?_ (by assumption) ?_); (repeat (first | assumption | exact And.left (by assumption) | exact And.left (And.right (by assumption)) | exact And.left (And.right (And.right (by assumption))) | exact And.left (And.right (And.right (And.right (by assumption)))) | exact And.left (And.right (And.right (And.right (And.right (by assumption))))) | exact And.left (And.right (And.right (And.right (And.right (And.right (by assumption)))))) | exact And.left (And.right (And.right (And.right (And.right (And.right (And.right (by assumption))))))) | exact And.left (And.right (And.right (And.right (And.right (And.right (And.right (And.right (by assumption)))))))) | exact And.left (And.right (And.right (And.right (And.right (And.right (And.right (And.right (And.right (by assumption))))))))) | exact And.left (And.right (And.right (And.right (And.right (And.right (And.right (And.right (And.right (And.right (by assumption)))))))))) | omega))))) | ((with_reducible show wpAny _ _ (storeName _ _ _) _ _ _); ((k_here; k_dflt ((refine' store_let ?zqF ?zqN ?_ ?zqa ?zqb; (case zqF => k_asm); (case zqN => k_asm); (case zqa => rfl); (case zqb => rfl); k_whole; intro m' h' tk' F' N'; (try k_sweep)))))) | walk1 | (dsimp only; walk1) | (leave1; (try dsimp only)) | fail "no step")
        exact LCg.CompEnd.intro (by assumption) (by assumption) _ (fun q hq => hq) off (.inr ⟨_, .tail _ (by assumption), rfl, _, rfl⟩) ⟨rfl, by rw [List.map_append]; exact hys.append (.cons _ _ .nil)⟩
  · intro pre k p rem ys I oI C oC D m₂ h tk E' ta tb hrr hys hC hx hx₂ F N off ne
    repeat' (first | ((k_unfold); (try dsimp only)) | (k_end; kc_close) | ((with_reducible show wpAny _ _ (binaryOp Operator.Mult (Value.ref _) (Value.int _ _)) _ _ _); ((k_here; (with_reducible show wpAny _ _ (binaryOp Operator.Mult (Value.ref _) (Value.int _ _)) _ _ _); (with_unfolding_all refine' KMa.mul ?zqF ?zqN ?zql ?zqlo ?zqhi ?zqz ?zqe ?_; (case zqF => k_asm); (case zqN => k_asm); (case zql => exact News.isList (by k_asm) (.head _)); (case zqlo => decide); (case zqhi => decide); (case zqz => exact Nat.le_of_ble_eq_true rfl); (case zqe => exact rfl); k_whole); intro D' h' F' N' l1; (try k_lt l1)))) | ((with_reducible show wpAny _ _ (call (Value.ref _) _ _) _ _ _); ((k_here; (with_reducible show wpAny _ _ (call (Value.ref 282) [Value.ref _, Value.ref _] _) _ _ _); k_dflt ((refine' use_bool (fits_ctr _ _ _ _ _ _ _ _ _ _ _ _ _ ?zqp1 ?zqp2 ?zqp3 ?zqp4 ?zqp5 ?zqp6) ?zqB ?zqF ?zqX ?zqN ?zqT ?zqhk ?zqhd ?zqhu ?_; (case zqB => k_asm); (case zqF => k_asm); (case zqX => k_asm); (case zqN => k_asm); (case zqT => k_asm); (case zqp1 => k_mem); (case zqp2 => (first | assumption | exact RowsIn.mono (fun q hq => by (repeat refine List.mem_cons_of_mem _ ?_); exact hq) (by assumption))); (case zqp3 => k_mem); (case zqp4 => (first | assumption | exact RowsIn.mono (fun q hq => by (repeat refine List.mem_cons_of_mem _ ?_); exact hq) (by assumption))); (case zqp5 => first | assumption | omega); (case zqp6 => first | assumption | omega); (case zqhk => first | exact rfl | assumption); (case zqhd => first | exact room (by assumption) (by decide) | exact room0 (by assumption) (by decide) | ktr_room); (case zqhu => first | exact room (by assumption) (by decide) | exact room0 (by assumption) (by decide) | ktr_units))); intro h9 tk9 b9 hb9 F9 N9; (try dsimp only); (try k_sweep); (try k_fold)))) | ((with_reducible show wpAny _ _ (call (Value.ref _) _ _) _ _ _); ((k_here; (with_reducible show wpAny _ _ (call (Value.ref 277) [Value.ref _, Value.int _ _, Value.str _ _, Value.int _ _] _) _ _ _); k_dflt ((first | refine' use_val (written1 _ _ _ _ _ _ _ _ _ _ _ _ _ _ ?zqp1 ?zqp2 ?zqp3 ?zqp4) ?zqB ?zqF ?zqX ?zqN ?zqT ?zqhk ?zqhd ?zqhu ?_ | refine' use_val (written2 _ _ _ _ _ _ _ _ _ _ _ _ _ _ ?zqp1 ?zqp2 ?zqp3 ?zqp4) ?zqB ?zqF ?zqX ?zqN ?zqT ?zqhk ?zqhd ?zqhu ?_ | refine' use_val (written3 _ _ _ _ _ _ _ _ _ _ _ _ _ _ ?zqp1 ?zqp2 ?zqp3 ?zqp4) ?zqB ?zqF ?zqX ?zqN ?zqT ?zqhk ?zqhd ?zqhu ?_); (case zqB => k_asm); (case zqF => k_asm); (case zqX => k_asm); (case zqN => k_asm); (case zqT => k_asm); (case zqp1 => k_mem); (case zqp2 => (first | assumption | exact RowsIn.mono (fun q hq => by (repeat refine List.mem_cons_of_mem _ ?_); exact hq) (by assumption))); (case zqp3 => first | assumption | omega); (case zqp4 => decide +kernel); (case zqhk => first | exact rfl | assumption); (case zqhd => first | exact room (by assumption) (by decide) | exact room0 (by assumption) (by decide) | ktr_room); (case zqhu => first | exact room (by assumption) (by decide) | exact room0 (by assumption) (by decide) | ktr_units)); intro h9 tk9 t9 F9 N9; (try dsimp only); (try k_sweep); (try k_fold)))) | ((with_reducible show UnrEnd _ _ _ _ _ _ _); (first | (with_unfolding_all refine unrEnd_2 (by assumption) (by assumption) (by assumption) (by assumption) (by assumption) ?_) | ((first | with_unfolding_all refine unrEnd_4 (by assumption) (by assumption) ?_ ?_ ?_ ?_ (by assumption) ?_ | with_unfolding_all refine unrEnd_6 (by assumption) (by assumption) ?_ ?_ ?_ ?_ ?_ ?_ (by assumption) ?_); (repeat (first | assumption | exact And.left (by assumption) | exact And.left (And.right (by assumption)) | exact And.left (And.right (And.right (by assumption))) | exact And.left (And.right (And.right (And.right (by assumption)))) | exact And.left (And.right (And.right (And.right (And.right (by assumption))))) | exact And.left (And.right (And.right (And.right (And.right (And.right (by assumption)))))) | exact And.left (And.right (And.right (And.right (And.right (And.right (And.right (by assumption))))))) | exact And.left (And.right (And.right (And.right (And.right (And.right (And.right (And.right (by assumption)))))))) | exact And.left (And.right (And.right (And.right (And.right (And.right (And.right (And.right (And.right (by assumption))))))))) | exact And.left (And.right (And.right (And.right (And.right (And.right (And.right (And.right (And.right (And.right (by assumption)))))))))) | omega))))) | ((with_reducible show wpAny _ _ (storeName _ _ _) _ _ _); ((k_here; k_dflt ((refine' store_let ?zqF ?zqN ?_ ?zqa ?zqb; (case zqF => k_asm); (case zqN => k_asm); (case zqa => rfl); (case zqb => rfl); k_whole; intro m' h' tk' F' N'; (try k_sweep)))))) | walk1 | (dsimp only; walk1) | (leave1; (try dsimp only)) | fail "no step")
    exact LCg.CompEnd.intro (by assumption) (by assumption) _ (fun q hq => hq) off (.inr ⟨_, by assumption, rfl, _, rfl⟩) ⟨rfl, by rw [List.map_append]; exact hys.append (.cons _ _ .nil)⟩
theorem due3 (lw lg : Addr) (ws gs : List Value) (wr gr : List (Int × Int)) (nw ng : Nat) (turn : Int) (t1 t2 : Tok) (mw : (lw, listOf ws.toArray nw) ∈ rest) (hw : RowsIn rest ws wr) (mg' : (lg, listOf gs.toArray ng) ∈ rest) (hg : RowsIn rest gs gr) (lwl : wr.length ≤ 8) (lgl : gr.length ≤ 8) :
    Ctr w mean mg mb 287 [.ref lw, .ref lg, .int turn t1, .int 3 t2] rest 8 300 (DueRet rest 3 turn wr gr) := by
  intro dp un gd cn cs a ccd cl outer A₀ base h₀ L m s Q E B F X N T hk hd hu hret
  refine wpAny_call ?_
  k_dflt ktr_enter
  (rename Fr _ _ _ _ => lF9); refine map_let lF9 ?_; clear lF9; intro m9 lF9; refine frame_let ?_; intro A9 env9
  repeat' (first | ((k_unfold); (try dsimp only)) | (k_end; kc_close) | ((with_reducible show wpAny _ _ (binaryOp Operator.Mult (Value.ref _) (Value.int _ _)) _ _ _); ((k_here; (with_reducible show wpAny _ _ (binaryOp Operator.Mult (Value.ref _) (Value.int _ _)) _ _ _); (with_unfolding_all refine' KMa.mul ?zqF ?zqN ?zql ?zqlo ?zqhi ?zqz ?zqe ?_; (case zqF => k_asm); (case zqN => k_asm); (case zql => exact News.isList (by k_asm) (.head _)); (case zqlo => decide); (case zqhi => decide); (case zqz => exact Nat.le_of_ble_eq_true rfl); (case zqe => exact rfl); k_whole); intro D' h' F' N' l1; (try k_lt l1)))) | ((with_reducible show wpAny _ _ (call (Value.ref _) _ _) _ _ _); ((k_here; (with_reducible show wpAny _ _ (call (Value.ref 282) [Value.ref _, Value.ref _] _) _ _ _); k_dflt ((refine' use_bool (fits_ctr _ _ _ _ _ _ _ _ _ _ _ _ _ ?zqp1 ?zqp2 ?zqp3 ?zqp4 ?zqp5 ?zqp6) ?zqB ?zqF ?zqX ?zqN ?zqT ?zqhk ?zqhd ?zqhu ?_; (case zqB => k_asm); (case zqF => k_asm); (case zqX => k_asm); (case zqN => k_asm); (case zqT => k_asm); (case zqp1 => k_mem); (case zqp2 => (first | assumption | exact RowsIn.mono (fun q hq => by (repeat refine List.mem_cons_of_mem _ ?_); exact hq) (by assumption))); (case zqp3 => k_mem); (case zqp4 => (first | assumption | exact RowsIn.mono (fun q hq => by (repeat refine List.mem_cons_of_mem _ ?_); exact hq) (by assumption))); (case zqp5 => first | assumption | omega); (case zqp6 => first | assumption | omega); (case zqhk => first | exact rfl | assumption); (case zqhd => first | exact room (by assumption) (by decide) | exact room0 (by assumption) (by decide) | ktr_room); (case zqhu => first | exact room (by assumption) (by decide) | exact room0 (by assumption) (by decide) | ktr_units))); intro h9 tk9 b9 hb9 F9 N9; (try dsimp only); (try k_sweep); (try k_fold)))) | ((with_reducible show wpAny _ _ (call (Value.ref _) _ _) _ _ _); ((k_here; (with_reducible show wpAny _ _ (call (Value.ref 277) [Value.ref _, Value.int _ _, Value.str _ _, Value.int _ _] _) _ _ _); k_dflt ((first | refine' use_val (written1 _ _ _ _ _ _ _ _ _ _ _ _ _ _ ?zqp1 ?zqp2 ?zqp3 ?zqp4) ?zqB ?zqF ?zqX ?zqN ?zqT ?zqhk ?zqhd ?zqhu ?_ | refine' use_val (written2 _ _ _ _ _ _ _ _ _ _ _ _ _ _ ?zqp1 ?zqp2 ?zqp3 ?zqp4) ?zqB ?zqF ?zqX ?zqN ?zqT ?zqhk ?zqhd ?zqhu ?_ | refine' use_val (written3 _ _ _ _ _ _ _ _ _ _ _ _ _ _ ?zqp1 ?zqp2 ?zqp3 ?zqp4) ?zqB ?zqF ?zqX ?zqN ?zqT ?zqhk ?zqhd ?zqhu ?_); (case zqB => k_asm); (case zqF => k_asm); (case zqX => k_asm); (case zqN => k_asm); (case zqT => k_asm); (case zqp1 => k_mem); (case zqp2 => (first | assumption | exact RowsIn.mono (fun q hq => by (repeat refine List.mem_cons_of_mem _ ?_); exact hq) (by assumption))); (case zqp3 => first | assumption | omega); (case zqp4 => decide +kernel); (case zqhk => first | exact rfl | assumption); (case zqhd => first | exact room (by assumption) (by decide) | exact room0 (by assumption) (by decide) | ktr_room); (case zqhu => first | exact room (by assumption) (by decide) | exact room0 (by assumption) (by decide) | ktr_units)); intro h9 tk9 t9 F9 N9; (try dsimp only); (try k_sweep); (try k_fold)))) | ((with_reducible show UnrEnd _ _ _ _ _ _ _); (first | (with_unfolding_all refine unrEnd_2 (by assumption) (by assumption) (by assumption) (by assumption) (by assumption) ?_) | ((first | with_unfolding_all refine unrEnd_4 (by assumption) (by assumption) ?_ ?_ ?_ ?_ (by assumption) ?_ | with_unfolding_all refine unrEnd_6 (by assumption) (by assumption) ?_ ?_ ?_ ?_ ?_ ?_ (by assumption) ?_); (repeat (first | assumption | exact And.left (by assumption) | exact And.left (And.right (by assumption)) | exact And.left (And.right (And.right (by assumption))) | exact And.left (And.right (And.right (And.right (by assumption)))) | exact And.left (And.right (And.right (And.right (And.right (by assumption))))) | exact And.left (And.right (And.right (And.right (And.right (And.right (by assumption)))))) | exact And.left (And.right (And.right (And.right (And.right (And.right (And.right (by assumption))))))) | exact And.left (And.right (And.right (And.right (And.right (And.right (And.right (And.right (by assumption)))))))) | exact And.left (And.right (And.right (And.right (And.right (And.right (And.right (And.right (And.right (by assumption))))))))) | exact And.left (And.right (And.right (And.right (And.right (And.right (And.right (And.right (And.right (And.right (by assumption)))))))))) | omega))))) | ((with_reducible show wpAny _ _ (storeName _ _ _) _ _ _); ((k_here; k_dflt ((refine' store_let ?zqF ?zqN ?_ ?zqa ?zqb; (case zqF => k_asm); (case zqN => k_asm); (case zqa => rfl); (case zqb => rfl); k_whole; intro m' h' tk' F' N'; (try k_sweep)))))) | walk1 | (dsimp only; walk1) | (leave1; (try dsimp only)) | fail "no step")
  unfold Halt
  k_dflt (refine LCp.SrcLP.ledger (by rfl) (by k_asm) (by k_asm) (by k_mem) (by rw [List.size_toArray, hw.length, sizeLine_eq]; omega) ?_)
  intro g9
  refine compP_rows hw (fun pre ys => IntsAre ys (pre.map (·.1))) ?_ ?_ _ 0 [] (by rw [List.size_toArray, hw.length]; omega) .nil
  · intro ys hys D h tk F N o1
    repeat' (first | ((k_unfold); (try dsimp only)) | (k_end; kc_close) | ((with_reducible show wpAny _ _ (binaryOp Operator.Mult (Value.ref _) (Value.int _ _)) _ _ _); ((k_here; (with_reducible show wpAny _ _ (binaryOp Operator.Mult (Value.ref _) (Value.int _ _)) _ _ _); (with_unfolding_all refine' KMa.mul ?zqF ?zqN ?zql ?zqlo ?zqhi ?zqz ?zqe ?_; (case zqF => k_asm); (case zqN => k_asm); (case zql => exact News.isList (by k_asm) (.head _)); (case zqlo => decide); (case zqhi => decide); (case zqz => exact Nat.le_of_ble_eq_true rfl); (case zqe => exact rfl); k_whole); intro D' h' F' N' l1; (try k_lt l1)))) | ((with_reducible show wpAny _ _ (call (Value.ref _) _ _) _ _ _); ((k_here; (with_reducible show wpAny _ _ (call (Value.ref 282) [Value.ref _, Value.ref _] _) _ _ _); k_dflt ((refine' use_bool (fits_ctr _ _ _ _ _ _ _ _ _ _ _ _ _ ?zqp1 ?zqp2 ?zqp3 ?zqp4 ?zqp5 ?zqp6) ?zqB ?zqF ?zqX ?zqN ?zqT ?zqhk ?zqhd ?zqhu ?_; (case zqB => k_asm); (case zqF => k_asm); (case zqX => k_asm); (case zqN => k_asm); (case zqT => k_asm); (case zqp1 => k_mem); (case zqp2 => (first | assumption | exact RowsIn.mono (fun q hq => by (repeat refine List.mem_cons_of_mem _ ?_); exact hq) (by assumption))); (case zqp3 => k_mem); (case zqp4 => (first | assumption | exact RowsIn.mono (fun q hq => by (repeat refine List.mem_cons_of_mem _ ?_); exact hq) (by assumption))); (case zqp5 => first | assumption | omega); (case zqp6 => first | assumption | omega); (case zqhk => first | exact rfl | assumption); (case zqhd => first | exact room (by assumption) (by decide) | exact room0 (by assumption) (by decide) | ktr_room); (case zqhu => first | exact room (by assumption) (by decide) | exact room0 (by assumption) (by decide) | ktr_units))); intro h9 tk9 b9 hb9 F9 N9; (try dsimp only); (try k_sweep); (try k_fold)))) | ((with_reducible show wpAny _ _ (call (Value.ref _) _ _) _ _ _); ((k_here; (with_reducible show wpAny _ _ (call (Value.ref 277) [Value.ref _, Value.int _ _, Value.str _ _, Value.int _ _] _) _ _ _); k_dflt ((first | refine' use_val (written1 _ _ _ _ _ _ _ _ _ _ _ _ _ _ ?zqp1 ?zqp2 ?zqp3 ?zqp4) ?zqB ?zqF ?zqX ?zqN ?zqT ?zqhk ?zqhd ?zqhu ?_ | refine' use_val (written2 _ _ _ _ _ _ _ _ _ _ _ _ _ _ ?zqp1 ?zqp2 ?zqp3 ?zqp4) ?zqB ?zqF ?zqX ?zqN ?zqT ?zqhk ?zqhd ?zqhu ?_ | refine' use_val (written3 _ _ _ _ _ _ _ _ _ _ _ _ _ _ ?zqp1 ?zqp2 ?zqp3 ?zqp4) ?zqB ?zqF ?zqX ?zqN ?zqT ?zqhk ?zqhd ?zqhu ?_); (case zqB => k_asm); (case zqF => k_asm); (case zqX => k_asm); (case zqN => k_asm); (case zqT => k_asm); (case zqp1 => k_mem); (case zqp2 => (first | assumption | exact RowsIn.mono (fun q hq => by (repeat refine List.mem_cons_of_mem _ ?_); exact hq) (by assumption))); (case zqp3 => first | assumption | omega); (case zqp4 => decide +kernel); (case zqhk => first | exact rfl | assumption); (case zqhd => first | exact room (by assumption) (by decide) | exact room0 (by assumption) (by decide) | ktr_room); (case zqhu => first | exact room (by assumption) (by decide) | exact room0 (by assumption) (by decide) | ktr_units)); intro h9 tk9 t9 F9 N9; (try dsimp only); (try k_sweep); (try k_fold)))) | ((with_reducible show UnrEnd _ _ _ _ _ _ _); (first | (with_unfolding_all refine unrEnd_2 (by assumption) (by assumption) (by assumption) (by assumption) (by assumption) ?_) | ((first | with_unfolding_all refine unrEnd_4 (by assumption) (by assumption) ?_ ?_ ?_ ?_ (by assumption) ?_ | with_unfolding_all refine unrEnd_6 (by assumption) (by assumption) ?_ ?_ ?_ ?_ ?_ ?_ (by assumption) ?_); (repeat (first | assumption | exact And.left (by assumption) | exact And.left (And.right (by assumption)) | exact And.left (And.right (And.right (by assumption))) | exact And.left (And.right (And.right (And.right (by assumption)))) | exact And.left (And.right (And.right (And.right (And.right (by assumption))))) | exact And.left (And.right (And.right (And.right (And.right (And.right (by assumption)))))) | exact And.left (And.right (And.right (And.right (And.right (And.right (And.right (by assumption))))))) | exact And.left (And.right (And.right (And.right (And.right (And.right (And.right (And.right (by assumption)))))))) | exact And.left (And.right (And.right (And.right (And.right (And.right (And.right (And.right (And.right (by assumption))))))))) | exact And.left (And.right (And.right (And.right (And.right (And.right (And.right (And.right (And.right (And.right (by assumption)))))))))) | omega))))) | ((with_reducible show wpAny _ _ (storeName _ _ _) _ _ _); ((k_here; k_dflt ((refine' store_let ?zqF ?zqN ?_ ?zqa ?zqb; (case zqF => k_asm); (case zqN => k_asm); (case zqa => rfl); (case zqb => rfl); k_whole; intro m' h' tk' F' N'; (try k_sweep)))))) | walk1 | (dsimp only; walk1) | (leave1; (try dsimp only)) | fail "no step")
    · (rename News h₀ _ _ _ => kN)
      refine hret _ _ _ _ ?_ (by assumption) kN
      exact ⟨fun q hq => (by repeat first | exact hq | refine List.Mem.tail _ ?_), .inl ⟨by assumption, shows_tup (.head _) (.cons (shows_list (by repeat first | exact List.Mem.head _ | refine List.Mem.tail _ ?_) (.cons (shows_str rfl) .nil)) (.cons (shows_list (by repeat first | exact List.Mem.head _ | refine List.Mem.tail _ ?_) .nil) .nil))⟩⟩
    · unfold Halt
      k_dflt (refine LCp.SrcLP.ledger (by rfl) (by k_asm) (by k_asm) (by k_mem) (by rw [List.size_toArray, hg.length, sizeLine_eq]; omega) ?_)
      intro g9
      refine compP_rows (hg.mono fun q hq => .tail _ hq) (fun pre ys => IntsAre ys (pre.map (·.1))) ?_ ?_ _ 0 [] (by rw [List.size_toArray, hg.length]; omega) .nil
      · intro ys hys D h tk F N o1
        repeat' (first | ((k_unfold); (try dsimp only)) | (k_end; kc_close) | ((with_reducible show wpAny _ _ (binaryOp Operator.Mult (Value.ref _) (Value.int _ _)) _ _ _); ((k_here; (with_reducible show wpAny _ _ (binaryOp Operator.Mult (Value.ref _) (Value.int _ _)) _ _ _); (with_unfolding_all refine' KMa.mul ?zqF ?zqN ?zql ?zqlo ?zqhi ?zqz ?zqe ?_; (case zqF => k_asm); (case zqN => k_asm); (case zql => exact News.isList (by k_asm) (.head _)); (case zqlo => decide); (case zqhi => decide); (case zqz => exact Nat.le_of_ble_eq_true rfl); (case zqe => exact rfl); k_whole); intro D' h' F' N' l1; (try k_lt l1)))) | ((with_reducible show wpAny _ _ (call (Value.ref _) _ _) _ _ _); ((k_here; (with_reducible show wpAny _ _ (call (Value.ref 282) [Value.ref _, Value.ref _] _) _ _ _); k_dflt ((refine' use_bool (fits_ctr _ _ _ _ _ _ _ _ _ _ _ _ _ ?zqp1 ?zqp2 ?zqp3 ?zqp4 ?zqp5 ?zqp6) ?zqB ?zqF ?zqX ?zqN ?zqT ?zqhk ?zqhd ?zqhu ?_; (case zqB => k_asm); (case zqF => k_asm); (case zqX => k_asm); (case zqN => k_asm); (case zqT => k_asm); (case zqp1 => k_mem); (case zqp2 => (first | assumption | exact RowsIn.mono (fun q hq => by (repeat refine List.mem_cons_of_mem _ ?_); exact hq) (by assumption))); (case zqp3 => k_mem); (case zqp4 => (first | assumption | exact RowsIn.mono (fun q hq => by (repeat refine List.mem_cons_of_mem _ ?_); exact hq) (by assumption))); (case zqp5 => first | assumption | omega); (case zqp6 => first | assumption | omega); (case zqhk => first | exact rfl | assumption); (case zqhd => first | exact room (by assumption) (by decide) | exact room0 (by assumption) (by decide) | ktr_room); (case zqhu => first | exact room (by assumption) (by decide) | exact room0 (by assumption) (by decide) | ktr_units))); intro h9 tk9 b9 hb9 F9 N9; (try dsimp only); (try k_sweep); (try k_fold)))) | ((with_reducible show wpAny _ _ (call (Value.ref _) _ _) _ _ _); ((k_here; (with_reducible show wpAny _ _ (call (Value.ref 277) [Value.ref _, Value.int _ _, Value.str _ _, Value.int _ _] _) _ _ _); k_dflt ((first | refine' use_val (written1 _ _ _ _ _ _ _ _ _ _ _ _ _ _ ?zqp1 ?zqp2 ?zqp3 ?zqp4) ?zqB ?zqF ?zqX ?zqN ?zqT ?zqhk ?zqhd ?zqhu ?_ | refine' use_val (written2 _ _ _ _ _ _ _ _ _ _ _ _ _ _ ?zqp1 ?zqp2 ?zqp3 ?zqp4) ?zqB ?zqF ?zqX ?zqN ?zqT ?zqhk ?zqhd ?zqhu ?_ | refine' use_val (written3 _ _ _ _ _ _ _ _ _ _ _ _ _ _ ?zqp1 ?zqp2 ?zqp3 ?zqp4) ?zqB ?zqF ?zqX ?zqN ?zqT ?zqhk ?zqhd ?zqhu ?_); (case zqB => k_asm); (case zqF => k_asm); (case zqX => k_asm); (case zqN => k_asm); (case zqT => k_asm); (case zqp1 => k_mem); (case zqp2 => (first | assumption | exact RowsIn.mono (fun q hq => by (repeat refine List.mem_cons_of_mem _ ?_); exact hq) (by assumption))); (case zqp3 => first | assumption | omega); (case zqp4 => decide +kernel); (case zqhk => first | exact rfl | assumption); (case zqhd => first | exact room (by assumption) (by decide) | exact room0 (by assumption) (by decide) | ktr_room); (case zqhu => first | exact room (by assumption) (by decide) | exact room0 (by assumption) (by decide) | ktr_units)); intro h9 tk9 t9 F9 N9; (try dsimp only); (try k_sweep); (try k_fold)))) | ((with_reducible show UnrEnd _ _ _ _ _ _ _); (first | (with_unfolding_all refine unrEnd_2 (by assumption) (by assumption) (by assumption) (by assumption) (by assumption) ?_) | ((first | with_unfolding_all refine unrEnd_4 (by assumption) (by assumption) ?_ ?_ ?_ ?_ (by assumption) ?_ | with_unfolding_all refine unrEnd_6 (by assumption) (by assumption) ?_ ?_ ?_ ?_ ?_ ?_ (by assumption) ?_); (repeat (first | assumption | exact And.left (by assumption) | exact And.left (And.right (by assumption)) | exact And.left (And.right (And.right (by assumption))) | exact And.left (And.right (And.right (And.right (by assumption)))) | exact And.left (And.right (And.right (And.right (And.right (by assumption))))) | exact And.left (And.right (And.right (And.right (And.right (And.right (by assumption)))))) | exact And.left (And.right (And.right (And.right (And.right (And.right (And.right (by assumption))))))) | exact And.left (And.right (And.right (And.right (And.right (And.right (And.right (And.right (by assumption)))))))) | exact And.left (And.right (And.right (And.right (And.right (And.right (And.right (And.right (And.right (by assumption))))))))) | exact And.left (And.right (And.right (And.right (And.right (And.right (And.right (And.right (And.right (And.right (by assumption)))))))))) | omega))))) | ((with_reducible show wpAny _ _ (storeName _ _ _) _ _ _); ((k_here; k_dflt ((refine' store_let ?zqF ?zqN ?_ ?zqa ?zqb; (case zqF => k_asm); (case zqN => k_asm); (case zqa => rfl); (case zqb => rfl); k_whole; intro m' h' tk' F' N'; (try k_sweep)))))) | walk1 | (dsimp only; walk1) | (leave1; (try dsimp only)) | fail "no step")
        · (rename News h₀ _ _ _ => kN)
          refine hret _ _ _ _ ?_ (by assumption) kN
          exact ⟨fun q hq => (by repeat first | exact hq | refine List.Mem.tail _ ?_), .inr (.inl ⟨by assumption, by assumption, shows_tup (.head _) (.cons (shows_list (by repeat first | exact List.Mem.head _ | refine List.Mem.tail _ ?_) (.cons (shows_str rfl) .nil)) (.cons (shows_list (by repeat first | exact List.Mem.head _ | refine List.Mem.tail _ ?_) (.cons (shows_tup (by repeat first | exact List.Mem.head _ | refine List.Mem.tail _ ?_) (.cons (shows_str (by decide +kernel)) (.cons (shows_str rfl) .nil))) .nil)) .nil))⟩)⟩
        · (rename News h₀ _ _ _ => kN)
          refine hret _ _ _ _ ?_ (by assumption) kN
          exact ⟨fun q hq => (by repeat first | exact hq | refine List.Mem.tail _ ?_), .inr (.inr ⟨by assumption, by assumption, _, by assumption, shows_tup (.head _) (.cons (shows_list (by repeat first | exact List.Mem.head _ | refine List.Mem.tail _ ?_) (.cons shows_bool (.cons shows_bool (.cons shows_bool .nil)))) (.cons (shows_list (by repeat first | exact List.Mem.head _ | refine List.Mem.tail _ ?_) (.cons (shows_tup (by repeat first | exact List.Mem.head _ | refine List.Mem.tail _ ?_) (.cons (shows_str (by decide +kernel)) (.cons (shows_str rfl) .nil))) (.cons (shows_tup (by repeat first | exact List.Mem.head _ | refine List.Mem.tail _ ?_) (.cons (shows_str (by decide +kernel)) (.cons (shows_str rfl) .nil))) (.cons (shows_tup (by repeat first | exact List.Mem.head _ | refine List.Mem.tail _ ?_) (.cons (shows_str (by decide +kernel)) (.cons (shows_str rfl) .nil))) (.cons (shows_tup (by repeat first | exact List.Mem.head _ | refine List.Mem.tail _ ?_) (.cons (shows_str (by decide +kernel)) (.cons (shows_str rfl) .nil))) (.cons (shows_tup (by repeat first | exact List.Mem.head _ | refine List.Mem.tail _ ?_) (.cons (shows_str (by decide +kernel)) (.cons (shows_str rfl) .nil))) (.cons (shows_tup (by repeat first | exact List.Mem.head _ | refine List.Mem.tail _ ?_) (.cons (shows_str (by decide +kernel)) (.cons (shows_str rfl) .nil))) .nil))))))) .nil))⟩)⟩
      · intro pre k p rem ys I oI C oC D m₂ h tk E' ta tb hrr hys hC hx hx₂ F N off ne
        repeat' (first | ((k_unfold); (try dsimp only)) | (k_end; kc_close) | ((with_reducible show wpAny _ _ (binaryOp Operator.Mult (Value.ref _) (Value.int _ _)) _ _ _); ((k_here; (with_reducible show wpAny _ _ (binaryOp Operator.Mult (Value.ref _) (Value.int _ _)) _ _ _); (with_unfolding_all refine' KMa.mul ?zqF ?zqN ?zql ?zqlo ?zqhi ?zqz ?zqe ?_; (case zqF => k_asm); (case zqN => k_asm); (case zql => exact News.isList (by k_asm) (.head _)); (case zqlo => decide); (case zqhi => decide); (case zqz => exact Nat.le_of_ble_eq_true rfl); (case zqe => exact rfl); k_whole); intro D' h' F' N' l1; (try k_lt l1)))) | ((with_reducible show wpAny _ _ (call (Value.ref _) _ _) _ _ _); ((k_here; (with_reducible show wpAny _ _ (call (Value.ref 282) [Value.ref _, Value.ref _] _) _ _ _); k_dflt ((refine' use_bool (fits_ctr _ _ _ _ _ _ _ _ _ _ _ _ _ ?zqp1 ?zqp2 ?zqp3 ?zqp4 ?zqp5 ?zqp6) ?zqB ?zqF ?zqX ?zqN ?zqT ?zqhk ?zqhd ?zqhu ?_; (case zqB => k_asm); (case zqF => k_asm); (case zqX => k_asm); (case zqN => k_asm); (case zqT => k_asm); (case zqp1 => k_mem); (case zqp2 => (first | assumption | exact RowsIn.mono (fun q hq => by (repeat refine List.mem_cons_of_mem _ ?_); exact hq) (by assumption))); (case zqp3 => k_mem); (case zqp4 => (first | assumption | exact RowsIn.mono (fun q hq => by (repeat refine List.mem_cons_of_mem _ ?_); exact hq) (by assumption))); (case zqp5 => first | assumption | omega); (case zqp6 => first | assumption | omega); (case zqhk => first | exact rfl | assumption); (case zqhd => first | exact room (by assumption) (by decide) | exact room0 (by assumption) (by decide) | ktr_room); (case zqhu => first | exact room (by assumption) (by decide) | exact room0 (by assumption) (by decide) | ktr_units))); intro h9 tk9 b9 hb9 F9 N9; (try dsimp only); (try k_sweep); (try k_fold)))) | ((with_reducible show wpAny _ _ (call (Value.ref _) _ _) _ _ _); ((k_here; (with_reducible show wpAny _ _ (call (Value.ref 277) [Value.ref _, Value.int _ _, Value.str _ _, Value.int _ _] _) _ _ _); k_dflt ((first | refine' use_val (written1 _ _ _ _ _ _ _ _ _ _ _ _ _ _ ?zqp1 ?zqp2 ?zqp3 ?zqp4) ?zqB ?zqF ?zqX ?zqN ?zqT ?zqhk ?zqhd ?zqhu ?_ | refine' use_val (written2 _ _ _ _ _ _ _ _ _ _ _ _ _ _ ?zqp1 ?zqp2 ?zqp3 ?zqp4) ?zqB ?zqF ?zqX ?zqN ?zqT ?zqhk ?zqhd ?zqhu ?_ | refine' use_val (written3 _ _ _ _ _ _ _ _ _ _ _ _ _ _ ?zqp1 ?zqp2 ?zqp3 ?zqp4) ?zqB ?zqF ?zqX ?zqN ?zqT ?zqhk ?zqhd ?zqhu ?_); (case zqB => k_asm); (case zqF => k_asm); (case zqX => k_asm); (case zqN => k_asm); (case zqT => k_asm); (case zqp1 => k_mem); (case zqp2 => (first | assumption | exact RowsIn.mono (fun q hq => by (repeat refine List.mem_cons_of_mem _ ?_); exact hq) (by assumption))); (case zqp3 => first | assumption | omega); (case zqp4 => decide +kernel); (case zqhk => first | exact rfl | assumption); (case zqhd => first | exact room (by assumption) (by decide) | exact room0 (by assumption) (by decide) | ktr_room); (case zqhu => first | exact room (by assumption) (by decide) | exact room0 (by assumption) (by decide) | ktr_units)); intro h9 tk9 t9 F9 N9; (try dsimp only); (try k_sweep); (try k_fold)))) | ((with_reducible show UnrEnd _ _ _ _ _ _ _); (first | (with_unfolding_all refine unrEnd_2 (by assumption) (by assumption) (by assumption) (by assumption) (by assumption) ?_) | ((first | with_unfolding_all refine unrEnd_4 (by assumption) (by assumption) ?_ ?_ ?_ ?_ (by assumption) ?_ | with_unfolding_all refine unrEnd_6 (by assumption) (by assumption) ?_ ?_ ?_ ?_ ?_ ?_ (by assumption) ?_); (repeat (first | assumption | exact And.left (by assumption) | exact And.left (And.right (by assumption)) | exact And.left (And.right (And.right (by assumption))) | exact And.left (And.right (And.right (And.right (by assumption)))) | exact And.left (And.right (And.right (And.right (And.right (by assumption))))) | exact And.left (And.right (And.right (And.right (And.right (And.right (by assumption)))))) | exact And.left (And.right (And.right (And.right (And.right (And.right (And.right (by assumption))))))) | exact And.left (And.right (And.right (And.right (And.right (And.right (And.right (And.right (by assumption)))))))) | exact And.left (And.right (And.right (And.right (And.right (And.right (And.right (And.right (And.right (by assumption))))))))) | exact And.left (And.right (And.right (And.right (And.right (And.right (And.right (And.right (And.right (And.right (by assumption)))))))))) | omega))))) | ((with_reducible show wpAny _ _ (storeName _ _ _) _ _ _); ((k_here; k_dflt ((refine' store_let ?zqF ?zqN ?_ ?zqa ?zqb; (case zqF => k_asm); (case zqN => k_asm); (case zqa => rfl); (case zqb => rfl); k_whole; intro m' h' tk' F' N'; (try k_sweep)))))) | walk1 | (dsimp only; walk1) | (leave1; (try dsimp only)) | fail "no step")
        exact LCg.CompEnd.intro (by assumption) (by assumption) _ (fun q hq => hq) off (.inr ⟨_, .tail _ (by assumption), rfl, _, rfl⟩) ⟨rfl, by rw [List.map_append]; exact hys.append (.cons _ _ .nil)⟩
  · intro pre k p rem ys I oI C oC D m₂ h tk E' ta tb hrr hys hC hx hx₂ F N off ne
    repeat' (first | ((k_unfold); (try dsimp only)) | (k_end; kc_close) | ((with_reducible show wpAny _ _ (binaryOp Operator.Mult (Value.ref _) (Value.int _ _)) _ _ _); ((k_here; (with_reducible show wpAny _ _ (binaryOp Operator.Mult (Value.ref _) (Value.int _ _)) _ _ _); (with_unfolding_all refine' KMa.mul ?zqF ?zqN ?zql ?zqlo ?zqhi ?zqz ?zqe ?_; (case zqF => k_asm); (case zqN => k_asm); (case zql => exact News.isList (by k_asm) (.head _)); (case zqlo => decide); (case zqhi => decide); (case zqz => exact Nat.le_of_ble_eq_true rfl); (case zqe => exact rfl); k_whole); intro D' h' F' N' l1; (try k_lt l1)))) | ((with_reducible show wpAny _ _ (call (Value.ref _) _ _) _ _ _); ((k_here; (with_reducible show wpAny _ _ (call (Value.ref 282) [Value.ref _, Value.ref _] _) _ _ _); k_dflt ((refine' use_bool (fits_ctr _ _ _ _ _ _ _ _ _ _ _ _ _ ?zqp1 ?zqp2 ?zqp3 ?zqp4 ?zqp5 ?zqp6) ?zqB ?zqF ?zqX ?zqN ?zqT ?zqhk ?zqhd ?zqhu ?_; (case zqB => k_asm); (case zqF => k_asm); (case zqX => k_asm); (case zqN => k_asm); (case zqT => k_asm); (case zqp1 => k_mem); (case zqp2 => (first | assumption | exact RowsIn.mono (fun q hq => by (repeat refine List.mem_cons_of_mem _ ?_); exact hq) (by assumption))); (case zqp3 => k_mem); (case zqp4 => (first | assumption | exact RowsIn.mono (fun q hq => by (repeat refine List.mem_cons_of_mem _ ?_); exact hq) (by assumption))); (case zqp5 => first | assumption | omega); (case zqp6 => first | assumption | omega); (case zqhk => first | exact rfl | assumption); (case zqhd => first | exact room (by assumption) (by decide) | exact room0 (by assumption) (by decide) | ktr_room); (case zqhu => first | exact room (by assumption) (by decide) | exact room0 (by assumption) (by decide) | ktr_units))); intro h9 tk9 b9 hb9 F9 N9; (try dsimp only); (try k_sweep); (try k_fold)))) | ((with_reducible show wpAny _ _ (call (Value.ref _) _ _) _ _ _); ((k_here; (with_reducible show wpAny _ _ (call (Value.ref 277) [Value.ref _, Value.int _ _, Value.str _ _, Value.int _ _] _) _ _ _); k_dflt ((first | refine' use_val (written1 _ _ _ _ _ _ _ _ _ _ _ _ _ _ ?zqp1 ?zqp2 ?zqp3 ?zqp4) ?zqB ?zqF ?zqX ?zqN ?zqT ?zqhk ?zqhd ?zqhu ?_ | refine' use_val (written2 _ _ _ _ _ _ _ _ _ _ _ _ _ _ ?zqp1 ?zqp2 ?zqp3 ?zqp4) ?zqB ?zqF ?zqX ?zqN ?zqT ?zqhk ?zqhd ?zqhu ?_ | refine' use_val (written3 _ _ _ _ _ _ _ _ _ _ _ _ _ _ ?zqp1 ?zqp2 ?zqp3 ?zqp4) ?zqB ?zqF ?zqX ?zqN ?zqT ?zqhk ?zqhd ?zqhu ?_); (case zqB => k_asm); (case zqF => k_asm); (case zqX => k_asm); (case zqN => k_asm); (case zqT => k_asm); (case zqp1 => k_mem); (case zqp2 => (first | assumption | exact RowsIn.mono (fun q hq => by (repeat refine List.mem_cons_of_mem _ ?_); exact hq) (by assumption))); (case zqp3 => first | assumption | omega); (case zqp4 => decide +kernel); (case zqhk => first | exact rfl | assumption); (case zqhd => first | exact room (by assumption) (by decide) | exact room0 (by assumption) (by decide) | ktr_room); (case zqhu => first | exact room (by assumption) (by decide) | exact room0 (by assumption) (by decide) | ktr_units)); intro h9 tk9 t9 F9 N9; (try dsimp only); (try k_sweep); (try k_fold)))) | ((with_reducible show UnrEnd _ _ _ _ _ _ _); (first | (with_unfolding_all refine unrEnd_2 (by assumption) (by assumption) (by assumption) (by assumption) (by assumption) ?_) | ((first | with_unfolding_all refine unrEnd_4 (by assumption) (by assumption) ?_ ?_ ?_ ?_ (by assumption) ?_ | with_unfolding_all refine unrEnd_6 (by assumption) (by assumption) ?_ ?_ ?_ ?_ ?_ ?_ (by assumption) ?_); (repeat (first | assumption | exact And.left (by assumption) | exact And.left (And.right (by assumption)) | exact And.left (And.right (And.right (by assumption))) | exact And.left (And.right (And.right (And.right (by assumption)))) | exact And.left (And.right (And.right (And.right (And.right (by assumption))))) | exact And.left (And.right (And.right (And.right (And.right (And.right (by assumption)))))) | exact And.left (And.right (And.right (And.right (And.right (And.right (And.right (by assumption))))))) | exact And.left (And.right (And.right (And.right (And.right (And.right (And.right (And.right (by assumption)))))))) | exact And.left (And.right (And.right (And.right (And.right (And.right (And.right (And.right (And.right (by assumption))))))))) | exact And.left (And.right (And.right (And.right (And.right (And.right (And.right (And.right (And.right (And.right (by assumption)))))))))) | omega))))) | ((with_reducible show wpAny _ _ (storeName _ _ _) _ _ _); ((k_here; k_dflt ((refine' store_let ?zqF ?zqN ?_ ?zqa ?zqb; (case zqF => k_asm); (case zqN => k_asm); (case zqa => rfl); (case zqb => rfl); k_whole; intro m' h' tk' F' N'; (try k_sweep)))))) | walk1 | (dsimp only; walk1) | (leave1; (try dsimp only)) | fail "no step")
    exact LCg.CompEnd.intro (by assumption) (by assumption) _ (fun q hq => hq) off (.inr ⟨_, by assumption, rfl, _, rfl⟩) ⟨rfl, by rw [List.map_append]; exact hys.append (.cons _ _ .nil)⟩
end
end Mine
end PartG5
section PartT1
open PySem PySem.Builtin PySem.Builtin.Str
namespace Mine
theorem offT1 : True := by w_top off; trivial
open StrLaws in
noncomputable def occStep (s sub : Str) (hi limit : Nat) (st : Array Nat × Nat) (i : Nat) : Array Nat × Nat :=
  if ((st.fst.size < limit ∧ st.snd ≤ i) ∧ i + sub.length ≤ hi) ∧ subAt s sub i = true then (st.fst.push i, i + sub.length) else st
theorem occ_fold (s sub : Str) (hi limit : Nat) : ∀ (l : List Nat) (st : Array Nat × Nat), (forIn l st (StrLaws.occBody s sub hi limit)).run = l.foldl (occStep s sub hi limit) st
  | [], _ => rfl
  | a :: l, st => by
    rw [List.forIn_cons, List.foldl_cons, ← occ_fold s sub hi limit l]
    unfold StrLaws.occBody occStep
    split <;> rfl
theorem occ_eqF (s sub : Str) (lo hi limit : Nat) : occurrences s sub lo hi limit = ((List.range' lo (hi + 1 - lo)).foldl (occStep s sub hi limit) (#[], lo)).1.toList := by
  rw [StrLaws.occ_eq, occ_fold]
theorem step_skip {s sub : Str} {hi limit : Nat} {st : Array Nat × Nat} : ∀ {l : List Nat}, (∀ i ∈ l, st.2 ≤ i → ¬ StrLaws.At s sub hi i) → l.foldl (occStep s sub hi limit) st = st
  | [], _ => rfl
  | a :: l, h => by
    have e : occStep s sub hi limit st a = st := by
      unfold occStep
      rw [if_neg]
      rintro ⟨⟨⟨_, h1⟩, h2⟩, h3⟩
      exact h a (.head _) h1 ⟨h2, h3⟩
    rw [List.foldl_cons, e]
    exact step_skip fun i hi' => h i (.tail _ hi')
theorem at_iff {s sub : Str} {hi i : Nat} : StrLaws.At s sub hi i ↔ i + sub.length ≤ hi ∧ sub.cps.toList <+: s.cps.toList.drop i := by
  unfold StrLaws.At
  rw [StrLaws.subAt_eq, beq_iff_eq]
  have hl : sub.length = sub.cps.toList.length := by simp [Str.length]
  constructor
  · rintro ⟨h1, h2⟩
    exact ⟨h1, by rw [← h2]; exact List.take_prefix _ _⟩
  · rintro ⟨h1, h2⟩
    exact ⟨h1, by rw [hl]; exact (List.prefix_iff_eq_take.mp h2).symm⟩
/-- pieces with a separator between -/
noncomputable def joinD {α : Type} (D : List α) : List (List α) → List α
  | [] => []
  | [p] => p
  | p :: q :: r => p ++ D ++ joinD D (q :: r)
noncomputable def cutsOf {α : Type} (w : Nat) (a : Nat) : List (List α) → List Nat
  | [] => []
  | [_] => []
  | p :: q :: r => (a + p.length) :: cutsOf w (a + p.length + w) (q :: r)
theorem no_at {s sub : Str} {d : Nat} {D' : List Nat} (hd : sub.cps.toList = d :: D') {i : Nat} (h : s.cps.toList[i]? ≠ some d) : ¬ StrLaws.At s sub s.length i := by
  intro ha
  obtain ⟨h1, h2⟩ := at_iff.mp ha
  rw [hd] at h2
  obtain ⟨u, hu⟩ := h2
  apply h
  have e : (s.cps.toList.drop i)[0]? = some d := by rw [← hu]; rfl
  rw [List.getElem?_drop] at e
  exact e
theorem fold_segs (s sub : Str) {d : Nat} {D' : List Nat} (hd : sub.cps.toList = d :: D') (limit : Nat) : ∀ (L : List (List Nat)) (a : Nat) (arr : Array Nat), (∀ p ∈ L, d ∉ p) → L ≠ [] → a ≤ s.length → s.cps.toList.drop a = joinD (d :: D') L → arr.size + L.length ≤ limit + 1 →
    ((List.range' a (s.length + 1 - a)).foldl (occStep s sub s.length limit) (arr, a)).1.toList = arr.toList ++ cutsOf sub.length a L
  | [], _, _, _, h, _, _, _ => absurd rfl h
  | [p], a, arr, hp, _, ha, hs, hl => by
    rw [step_skip]
    · simp [cutsOf]
    · intro i hi _
      refine no_at hd fun e => ?_
      rw [List.mem_range'_1] at hi
      have e2 : (s.cps.toList.drop a)[i - a]? = some d := by rw [List.getElem?_drop, show a + (i - a) = i from by omega]; exact e
      rw [hs] at e2
      exact hp p (.head _) (List.mem_of_getElem? e2)
  | p :: q :: r, a, arr, hp, _, ha, hs, hl => by
    have hw : sub.length = D'.length + 1 := by
      have : sub.length = sub.cps.toList.length := by simp [Str.length]
      rw [this, hd]; rfl
    have hlen : s.length = a + (p.length + (D'.length + 1) + (joinD (d :: D') (q :: r)).length) := by
      have h1 := congrArg List.length hs
      have h2 : s.length = s.cps.toList.length := by simp [Str.length]
      rw [List.length_drop] at h1
      simp only [joinD, List.length_append, List.length_cons] at h1
      omega
    have hrange : List.range' a (s.length + 1 - a) = List.range' a p.length ++ (a + p.length) :: (List.range' (a + p.length + 1) D'.length ++ List.range' (a + p.length + sub.length) (s.length + 1 - (a + p.length + sub.length))) := by
      rw [show s.length + 1 - a = p.length + ((D'.length + (s.length + 1 - (a + p.length + sub.length))) + 1) from by omega, ← List.range'_append_1, List.range'_succ, ← List.range'_append_1]
      rw [show a + p.length + 1 + D'.length = a + p.length + sub.length from by omega]
    have hat : StrLaws.At s sub s.length (a + p.length) := by
      refine at_iff.mpr ⟨by omega, ?_⟩
      rw [← List.drop_drop, hs]
      simp only [joinD]
      rw [List.append_assoc, List.drop_left, hd]
      exact List.prefix_append _ _
    rw [hrange, List.foldl_append, List.foldl_cons, List.foldl_append]
    have e0 : (List.range' a p.length).foldl (occStep s sub s.length limit) (arr, a) = (arr, a) := by
      refine step_skip fun i hi _ => no_at hd fun e => ?_
      rw [List.mem_range'_1] at hi
      have e2 : (s.cps.toList.drop a)[i - a]? = some d := by rw [List.getElem?_drop, show a + (i - a) = i from by omega]; exact e
      rw [hs] at e2
      simp only [joinD] at e2
      rw [List.append_assoc, List.getElem?_append_left (by omega)] at e2
      exact hp p (.head _) (List.mem_of_getElem? e2)
    have e1 : occStep s sub s.length limit (arr, a) (a + p.length) = (arr.push (a + p.length), a + p.length + sub.length) := by
      have hsz : arr.size < limit := by
        simp only [List.length_cons] at hl
        omega
      unfold occStep
      rw [if_pos ⟨⟨⟨hsz, Nat.le_add_right _ _⟩, hat.1⟩, hat.2⟩]
    have e3 : (List.range' (a + p.length + 1) D'.length).foldl (occStep s sub s.length limit) (arr.push (a + p.length), a + p.length + sub.length) = (arr.push (a + p.length), a + p.length + sub.length) := by
      refine step_skip fun i hi h => ?_
      rw [List.mem_range'_1] at hi
      simp only at h
      omega
    rw [e0, e1, e3, fold_segs s sub hd limit (q :: r) (a + p.length + sub.length) _ (fun x hx => hp x (.tail _ hx)) (by simp) (by omega) ?_ ?_]
    · simp [cutsOf]
    · rw [show a + p.length + sub.length = a + (p.length + (D'.length + 1)) from by omega, ← List.drop_drop, hs]
      rw [show p.length + (D'.length + 1) = (p ++ d :: D').length from by simp]
      exact List.drop_left
    · simp only [List.length_cons, Array.size_push] at hl ⊢
      omega
noncomputable abbrev mkS (l : List Nat) : Str := ⟨l.toArray⟩
theorem parts_segs (s : Str) {D : List Nat} : ∀ (L : List (List Nat)) (a : Nat), L ≠ [] → a ≤ s.length → s.cps.toList.drop a = joinD D L → StrLaws.partsFrom s D.length a (cutsOf D.length a L) = L.map mkS
  | [], _, h, _, _ => absurd rfl h
  | [p], a, _, ha, hs => by
    simp only [cutsOf, StrLaws.partsFrom, List.map_cons, List.map_nil]
    refine congrArg (fun x => [x]) (Str.ext' (Array.toList_inj.mp ?_))
    rw [StrLaws.strSub_toList, hs]
    show List.take _ p = p
    have h1 := congrArg List.length hs
    have h2 : s.length = s.cps.toList.length := by simp [Str.length]
    rw [List.length_drop] at h1
    simp only [joinD] at h1
    exact List.take_of_length_le (by omega)
  | p :: q :: r, a, _, ha, hs => by
    have hlen : s.length = a + (p.length + D.length + (joinD D (q :: r)).length) := by
      have h1 := congrArg List.length hs
      have h2 : s.length = s.cps.toList.length := by simp [Str.length]
      rw [List.length_drop] at h1
      simp only [joinD, List.length_append] at h1
      omega
    simp only [cutsOf, StrLaws.partsFrom]
    rw [parts_segs s (q :: r) (a + p.length + D.length) (by simp) (by omega)]
    · rw [List.map_cons (l := q :: r)]
      refine congrArg (· :: List.map mkS (q :: r)) (Str.ext' (Array.toList_inj.mp ?_))
      rw [StrLaws.strSub_toList, hs]
      simp only [joinD]
      rw [Nat.add_sub_cancel_left, List.append_assoc, List.take_left]
    · rw [show a + p.length + D.length = a + (p.length + D.length) from by omega, ← List.drop_drop, hs]
      simp only [joinD]
      rw [show p.length + D.length = (p ++ D).length from by simp, List.drop_left]
theorem joinD_len {D : List Nat} (hD : 1 ≤ D.length) : ∀ L : List (List Nat), L.length ≤ (joinD D L).length + 1
  | [] => by simp
  | [_] => by simp
  | p :: q :: r => by
    have := joinD_len hD (q :: r)
    simp only [joinD, List.length_append, List.length_cons] at this ⊢
    omega
theorem slen (s : Str) : s.length = s.cps.toList.length := by simp [Str.length]
theorem occ_segs {s sub : Str} {d : Nat} {D' : List Nat} (hd : sub.cps.toList = d :: D') {L : List (List Nat)} (hL : L ≠ []) (hp : ∀ p ∈ L, d ∉ p) (hs : s.cps.toList = joinD (d :: D') L) :
    occurrences s sub 0 s.length (s.length + 1) = cutsOf sub.length 0 L := by
  rw [occ_eqF]
  have h := fold_segs s sub hd (s.length + 1) L 0 #[] hp hL (Nat.zero_le _) (by rw [List.drop_zero]; exact hs) (by
    have := joinD_len (D := d :: D') (by simp) L
    rw [← hs, ← slen] at this
    simp only [Array.size_empty]
    omega)
  simpa using h
theorem occ_parts {s sub : Str} {d : Nat} {D' : List Nat} (hd : sub.cps.toList = d :: D') {L : List (List Nat)} (hL : L ≠ []) (hp : ∀ p ∈ L, d ∉ p) (hs : s.cps.toList = joinD (d :: D') L) :
    partsBetween s (occurrences s sub 0 s.length (s.length + 1)) sub.length = L.map mkS := by
  rw [occ_segs hd hL hp hs, StrLaws.partsBetween_eq]
  have hw : sub.length = (d :: D').length := by rw [slen, hd]
  rw [hw]
  exact parts_segs s L 0 hL (Nat.zero_le _) (by rw [List.drop_zero]; exact hs)
theorem cuts_empty {w a : Nat} : ∀ {L : List (List Nat)}, L ≠ [] → (cutsOf w a L).isEmpty = true → ∃ p, L = [p]
  | [], h, _ => absurd rfl h
  | [p], _, _ => ⟨p, rfl⟩
  | _ :: _ :: _, _, h => by simp [cutsOf] at h
/-! replace of one sign -/
noncomputable def segs {α : Type} [DecidableEq α] (c : α) : List α → List (List α)
  | [] => [[]]
  | k :: r => if k = c then [] :: segs c r else match segs c r with
    | [] => [[k]]
    | p :: ps => (k :: p) :: ps
theorem segs_ne {α : Type} [DecidableEq α] (c : α) : ∀ l, segs c l ≠ []
  | [] => by simp [segs]
  | k :: r => by
    unfold segs
    split
    · simp
    · split <;> simp
theorem segs_free {α : Type} [DecidableEq α] (c : α) : ∀ l, ∀ p ∈ segs c l, c ∉ p
  | [], p, h => by
    simp only [segs, List.mem_singleton] at h
    subst h; simp
  | k :: r, p, h => by
    have ih := segs_free c r
    unfold segs at h
    split at h
    · rcases List.mem_cons.mp h with rfl | h
      · simp
      · exact ih p h
    · rename_i hk
      split at h
      · rw [List.mem_singleton] at h
        subst h
        simpa using fun e => hk e.symm
      · rename_i q ps e
        rw [e] at ih
        rcases List.mem_cons.mp h with rfl | h
        · intro hm
          rcases List.mem_cons.mp hm with hm | hm
          · exact hk hm.symm
          · exact ih q (.head _) hm
        · exact ih p (.tail _ h)
theorem segs_cons {α : Type} [DecidableEq α] (c k : α) (r : List α) : segs c (k :: r) = if k = c then [] :: segs c r else match segs c r with
    | [] => [[k]]
    | p :: ps => (k :: p) :: ps := rfl
theorem segs_join {α : Type} [DecidableEq α] (c : α) (z : List α) : ∀ l, joinD z (segs c l) = l.flatMap fun k => if k = c then z else [k]
  | [] => rfl
  | k :: r => by
    have ih := segs_join c z r
    rw [List.flatMap_cons, ← ih, segs_cons]
    by_cases hk : k = c
    · rw [if_pos hk, if_pos hk]
      have hn := segs_ne c r
      cases h : segs c r with
      | nil => exact absurd h hn
      | cons p ps => rfl
    · rw [if_neg hk, if_neg hk]
      have hn := segs_ne c r
      cases h : segs c r with
      | nil => exact absurd h hn
      | cons p ps => cases ps <;> rfl
theorem flat_id {α : Type} [DecidableEq α] (c : α) : ∀ l : List α, (l.flatMap fun k => if k = c then [c] else [k]) = l
  | [] => rfl
  | k :: r => by
    rw [List.flatMap_cons, flat_id c r]
    by_cases hk : k = c
    · rw [if_pos hk, hk]; rfl
    · rw [if_neg hk]; rfl
theorem join_list (z : Str) : ∀ L : List (List Nat), (Str.join z (L.map mkS)).cps.toList = joinD z.cps.toList L
  | [] => rfl
  | [p] => by simp [Str.join, joinD]
  | p :: q :: r => by
    have ih := join_list z (q :: r)
    simp only [List.map_cons] at ih
    simp only [List.map_cons, Str.join, joinD, Str.cps_append, Array.toList_append]
    rw [ih]
theorem replace_list {x y z : Str} {c : Nat} (hy : y.cps.toList = [c]) : (Txt.replace x y z).cps.toList = x.cps.toList.flatMap fun k => if k = c then z.cps.toList else [k] := by
  have hs : x.cps.toList = joinD [c] (segs c x.cps.toList) := by rw [segs_join, flat_id]
  have hn := segs_ne c x.cps.toList
  have hf := segs_free c x.cps.toList
  have hj := segs_join c z.cps.toList x.cps.toList
  generalize segs c x.cps.toList = L at hs hn hf hj
  have h1 := occ_segs hy hn hf hs
  have h2 := occ_parts hy hn hf hs
  have hyl : (y.length == 0) = false := by rw [slen, hy]; rfl
  rw [← hj]
  unfold Txt.replace
  rw [hyl, Bool.false_and, Bool.or_false]
  split
  · rename_i h
    rw [h1] at h
    obtain ⟨p, rfl⟩ := cuts_empty hn h
    rw [hs]; rfl
  · rw [h2, StrLaws.glued_eq_join, join_list]
end Mine
end PartT1
section PartT2
open PySem PySem.Builtin PySem.Builtin.Str
namespace Mine
theorem offT2 : True := by w_top off; trivial
/-- pieces in order, each somewhere behind the one before -/
noncomputable def Mids {α : Type} : List (List α) → List α → Prop
  | [], _ => True
  | p :: ps, R => ∃ x y, R = x ++ p ++ y ∧ Mids ps y
theorem Mids.more {α : Type} : ∀ {ps : List (List α)} {y : List α} (z : List α), Mids ps y → Mids ps (z ++ y)
  | [], _, _, _ => trivial
  | _ :: _, _, z, ⟨x, u, e, h⟩ => ⟨z ++ x, u, by rw [e]; simp, h⟩
/-- what the loop of finds gives -/
noncomputable def findAll (G : Str) : List Str → Nat → Nat → Bool
  | [], _, _ => true
  | w :: r, a, e => match occurrences G w a e 1 with
    | i :: _ => findAll G r (i + w.length) e
    | [] => false
theorem occ_range (x y : Str) (lo hi : Nat) :
    (occurrences x y lo hi 1 = [] ∧ ∀ i, lo ≤ i → ¬ StrLaws.At x y hi i) ∨
    ∃ i r, occurrences x y lo hi 1 = i :: r ∧ lo ≤ i ∧ StrLaws.At x y hi i ∧ ∀ k, lo ≤ k → k < i → ¬ StrLaws.At x y hi k := by
  rw [StrLaws.occ_eq]
  rcases StrLaws.occ_first x y hi 1 (Nat.le_refl 1) (List.range' lo (hi + 1 - lo)) lo (fun i hi => by have := List.mem_range'_1.mp hi; omega) with ⟨h0, hn⟩ | ⟨pre, a, post, e, h0, ha, hn⟩
  · refine .inl ⟨by rw [h0], fun i hlo hi' => ?_⟩
    exact hn i (by have := hi'.1; rw [List.mem_range'_1]; omega) hi'
  · have hs := StrLaws.range'_split_from e
    refine .inr ⟨a, ((forIn (List.range' lo (hi + 1 - lo)) ((#[] : Array Nat), lo) (StrLaws.occBody x y hi 1)).run.fst.toList).tail, ?_, hs.1, ha, fun k hk0 hk => hn k (hs.2 k hk0 hk)⟩
    generalize (forIn (List.range' lo (hi + 1 - lo)) ((#[] : Array Nat), lo) (StrLaws.occBody x y hi 1)).run.fst = arr at h0
    have h1 : arr.toList[0]? = some a := by simpa using h0
    cases hL : arr.toList with
    | nil => rw [hL] at h1; cases h1
    | cons b t => rw [hL] at h1; simp at h1; rw [h1]; rfl
noncomputable def cut (G : Str) (a e : Nat) : List Nat := (G.cps.toList.take e).drop a
theorem cut_add (G : Str) (a k e : Nat) : cut G (a + k) e = (cut G a e).drop k := by unfold cut; rw [List.drop_drop]
theorem at_cut {G y : Str} {e i : Nat} : StrLaws.At G y e i ↔ i + y.length ≤ e ∧ ∃ v, cut G i e = y.cps.toList ++ v := by
  rw [at_iff]
  refine and_congr_right fun h => ?_
  have hl : y.length = y.cps.toList.length := slen y
  have hG : G.length = G.cps.toList.length := slen G
  have e1 : cut G i e = (G.cps.toList.drop i).take (e - i) := by rw [cut, List.drop_take]
  rw [e1]
  constructor
  · rintro ⟨u, hu⟩
    rw [← hu]
    exact ⟨u.take (e - i - y.cps.toList.length), by rw [List.take_append, List.take_of_length_le (show y.cps.toList.length ≤ e - i by omega)]⟩
  · rintro ⟨v, hv⟩
    exact (show y.cps.toList <+: List.take (e - i) (G.cps.toList.drop i) from ⟨v, hv.symm⟩).trans (List.take_prefix _ _)
theorem findAll_iff (G : Str) (e : Nat) (he : e ≤ G.length) : ∀ (ws : List Str) (a : Nat), a ≤ e → (findAll G ws a e = true ↔ Mids (ws.map (·.cps.toList)) (cut G a e))
  | [], _, _ => by simp [findAll, Mids]
  | w :: r, a, hae => by
    have hG : G.length = G.cps.toList.length := slen G
    have hl : w.length = w.cps.toList.length := slen w
    rcases occ_range G w a e with ⟨h0, hn⟩ | ⟨i, t, h0, hlo, hi, hn⟩
    · simp only [findAll, h0, List.map_cons, Mids]
      constructor
      · intro h; cases h
      · rintro ⟨x, y, hx, _⟩
        exfalso
        have hlen := congrArg List.length hx
        simp only [cut, List.length_drop, List.length_take, List.length_append] at hlen
        refine hn (a + x.length) (Nat.le_add_right _ _) (at_cut.mpr ⟨by omega, y, ?_⟩)
        rw [cut_add, hx, List.append_assoc, List.drop_left]
    · simp only [findAll, h0, List.map_cons, Mids]
      obtain ⟨hle, v, hv⟩ := at_cut.mp hi
      rw [findAll_iff G e he r (i + w.length) hle]
      have hv2 : cut G (i + w.length) e = v := by
        rw [cut_add, hv, hl, List.drop_left]
      constructor
      · intro h
        refine ⟨(cut G a e).take (i - a), v, ?_, hv2 ▸ h⟩
        rw [List.append_assoc, ← hv]
        have e3 : cut G i e = (cut G a e).drop (i - a) := by rw [← cut_add, show a + (i - a) = i from by omega]
        rw [e3, List.take_append_drop]
      · rintro ⟨x, y, hx, hy⟩
        have hlen := congrArg List.length hx
        simp only [cut, List.length_drop, List.length_take, List.length_append] at hlen
        have hix : i ≤ a + x.length := by
          refine Nat.le_of_not_lt fun hlt => hn (a + x.length) (Nat.le_add_right _ _) hlt (at_cut.mpr ⟨by omega, y, ?_⟩)
          rw [cut_add, hx, List.append_assoc, List.drop_left]
        have e4 : y = (cut G (i + w.length) e).drop (a + x.length - i) := by
          rw [← cut_add, show i + w.length + (a + x.length - i) = a + (x.length + w.length) from by omega, cut_add, hx, hl, show x.length + w.cps.toList.length = (x ++ w.cps.toList).length from by simp, List.drop_left]
        rw [← List.take_append_drop (a + x.length - i) (cut G (i + w.length) e), ← e4]
        exact hy.more _
end Mine
end PartT2
section PartT3
namespace Mine
theorem offT3 : True := by w_top off; trivial
noncomputable def tokL (B : Nat) (c : Int) : List Nat :=
  if c = 0 then [97] else if c = 1 then List.replicate (B - 1) 92 ++ [34] else if c = 2 then [98] else if c = 3 then List.replicate B 92 else if c = 4 then [59] else if c = 5 then [9] else [46]
noncomputable def encL (B : Nat) (g : List Int) : List Nat := g.flatMap (tokL B)
theorem encL_cons (B : Nat) (a : Int) (g : List Int) : encL B (a :: g) = tokL B a ++ encL B g := List.flatMap_cons
theorem encL_app (B : Nat) (g h : List Int) : encL B (g ++ h) = encL B g ++ encL B h := List.flatMap_append
noncomputable abbrev Ok (k : Int) : Prop := k = 0 ∨ k = 1 ∨ k = 2 ∨ k = 3 ∨ k = 4 ∨ k = 5 ∨ k = 6
noncomputable abbrev OkB (B : Nat) : Prop := B = 2 ∨ B = 4 ∨ B = 8
theorem tok_ne (B : Nat) (hB : OkB B) (a : Int) : tokL B a ≠ [] := by
  unfold tokL
  rcases hB with rfl | rfl | rfl <;> (repeat' split) <;> simp
/-- the finite cases -/
noncomputable abbrev okL : List Int := [0, 1, 2, 3, 4, 5, 6]
theorem ok_mem {a : Int} (h : Ok a) : a ∈ okL := by simpa only [okL, List.mem_cons, List.mem_nil_iff, or_false] using h
theorem okB_mem {B : Nat} (h : OkB B) : B ∈ [2, 4, 8] := by simpa only [List.mem_cons, List.mem_nil_iff, or_false] using h
theorem pre_fin : ∀ B ∈ [2, 4, 8], ∀ a ∈ okL, ∀ b ∈ okL, (tokL B a).isPrefixOf (tokL B b) = true → a = b := by decide +kernel
theorem suf_fin : ∀ B ∈ [2, 4, 8], ∀ a ∈ okL, ∀ b ∈ okL, (tokL B a).getLast? = (tokL B b).getLast? → a = b := by decide +kernel
theorem no2_fin : ∀ B ∈ [2, 4, 8], ∀ i ∈ [0, 1, 2, 3, 4, 5, 6], i + 1 < B → ∀ b ∈ okL, (tokL B b).isPrefixOf (List.replicate i 92 ++ [34]) = false ∧ (List.replicate i 92 ++ [34]).isPrefixOf (tokL B b) = false := by decide +kernel
theorem no1_fin : ∀ B ∈ [2, 4, 8], ∀ i ∈ [1, 2, 3, 4, 5, 6, 7], i < B → ∀ b ∈ okL, (tokL B b)[0]?.getD 92 ≠ 92 ∨ (tokL B b)[i]?.getD 0 = 92 ∨ (tokL B b)[i]?.getD 0 = 34 := by decide +kernel
theorem lt7 : ∀ i : Nat, i < 7 → i ∈ [0, 1, 2, 3, 4, 5, 6] := by decide
theorem lt8 : ∀ i : Nat, i < 8 → 0 < i → i ∈ [1, 2, 3, 4, 5, 6, 7] := by decide
theorem pre_or {x y u v : List Nat} (h : x ++ u = y ++ v) : x.isPrefixOf y = true ∨ y.isPrefixOf x = true := by
  rcases List.prefix_or_prefix_of_prefix (List.prefix_append x u) (h ▸ List.prefix_append y v) with e | e
  · exact .inl (List.isPrefixOf_iff_prefix.mpr e)
  · exact .inr (List.isPrefixOf_iff_prefix.mpr e)
theorem pre1 {B : Nat} (hB : OkB B) {a b : Int} (ha : Ok a) (hb : Ok b) {u v : List Nat} (h : tokL B a ++ u = tokL B b ++ v) : a = b :=
  (pre_or h).elim (pre_fin B (okB_mem hB) a (ok_mem ha) b (ok_mem hb)) fun e => (pre_fin B (okB_mem hB) b (ok_mem hb) a (ok_mem ha) e).symm
theorem last_app {B : Nat} (hB : OkB B) (a : Int) (u : List Nat) : (u ++ tokL B a).getLast? = (tokL B a).getLast? := by
  rw [List.getLast?_append]
  cases e : (tokL B a).getLast? with
  | none => exact absurd (List.getLast?_eq_none_iff.mp e) (tok_ne B hB a)
  | some x => rfl
theorem suf1 {B : Nat} (hB : OkB B) {a b : Int} (ha : Ok a) (hb : Ok b) {u v : List Nat} (h : u ++ tokL B a = v ++ tokL B b) : a = b :=
  suf_fin B (okB_mem hB) a (ok_mem ha) b (ok_mem hb) (by rw [← last_app hB a u, h, last_app hB b v])
noncomputable abbrev Oks (g : List Int) : Prop := ∀ k ∈ g, Ok k
theorem encL_nil {B : Nat} (hB : OkB B) : ∀ {g : List Int}, encL B g = [] → g = []
  | [], _ => rfl
  | a :: g, h => by
    rw [encL_cons, List.append_eq_nil_iff] at h
    exact absurd h.1 (tok_ne B hB a)
theorem encPre {B : Nat} (hB : OkB B) : ∀ (t g : List Int) (y : List Nat), Oks t → Oks g → encL B g = encL B t ++ y → ∃ g2, g = t ++ g2 ∧ y = encL B g2
  | [], g, y, _, _, h => ⟨g, rfl, h.symm⟩
  | a :: t, [], y, _, _, h => by
    rw [encL_cons] at h
    have h2 := (List.append_eq_nil_iff.mp (List.append_eq_nil_iff.mp h.symm).1).1
    exact absurd h2 (tok_ne B hB a)
  | a :: t, b :: g, y, ht, hg, h => by
    rw [encL_cons, encL_cons, List.append_assoc] at h
    obtain rfl := pre1 hB (hg _ (.head _)) (ht _ (.head _)) h
    obtain ⟨g2, rfl, e⟩ := encPre hB t g y (fun k hk => ht k (.tail _ hk)) (fun k hk => hg k (.tail _ hk)) (List.append_cancel_left h)
    exact ⟨g2, rfl, e⟩
theorem encSufR {B : Nat} (hB : OkB B) : ∀ (t g : List Int) (y : List Nat), Oks t → Oks g → encL B g.reverse = y ++ encL B t.reverse → ∃ g2, g = t ++ g2 ∧ y = encL B g2.reverse
  | [], g, y, _, _, h => ⟨g, rfl, by simpa [encL] using h.symm⟩
  | a :: t, [], y, _, _, h => by
    rw [List.reverse_cons, encL_app] at h
    have h2 := (List.append_eq_nil_iff.mp (List.append_eq_nil_iff.mp h.symm).2).2
    rw [encL_cons] at h2
    exact absurd (List.append_eq_nil_iff.mp h2).1 (tok_ne B hB a)
  | a :: t, b :: g, y, ht, hg, h => by
    rw [List.reverse_cons, List.reverse_cons, encL_app, encL_app, ← List.append_assoc] at h
    have e1 : ∀ c : Int, encL B [c] = tokL B c := fun c => by simp [encL]
    rw [e1, e1] at h
    obtain rfl := suf1 hB (hg _ (.head _)) (ht _ (.head _)) h
    obtain ⟨g2, rfl, e⟩ := encSufR hB t g y (fun k hk => ht k (.tail _ hk)) (fun k hk => hg k (.tail _ hk)) (List.append_cancel_right h)
    exact ⟨g2, rfl, e⟩
theorem encSuf {B : Nat} (hB : OkB B) {t g : List Int} {y : List Nat} (ht : Oks t) (hg : Oks g) (h : encL B g = y ++ encL B t) : ∃ g2, g = g2 ++ t ∧ y = encL B g2 := by
  obtain ⟨g2, e, e2⟩ := encSufR hB t.reverse g.reverse y (fun k hk => ht k (List.mem_reverse.mp hk)) (fun k hk => hg k (List.mem_reverse.mp hk)) (by simpa using h)
  refine ⟨g2.reverse, ?_, e2⟩
  have := congrArg List.reverse e
  simpa using this
theorem no2 {B : Nat} (hB : OkB B) {g : List Int} (hg : Oks g) {i : Nat} (hi : i + 1 < B) {z : List Nat} : encL B g ≠ List.replicate i 92 ++ 34 :: z := by
  cases g with
  | nil => intro h; simp [encL] at h
  | cons b g =>
    rw [encL_cons]
    intro h
    have hB8 : B ≤ 8 := by rcases hB with rfl | rfl | rfl <;> decide
    have hi' := lt7 i (by omega)
    obtain ⟨f1, f2⟩ := no2_fin B (okB_mem hB) i hi' hi b (ok_mem (hg b (.head _)))
    rcases pre_or (h.trans (List.append_cons _ _ _)) with e | e
    · rw [e] at f1; cases f1
    · rw [e] at f2; cases f2
theorem no1 {B : Nat} (hB : OkB B) {g : List Int} (hg : Oks g) {i ch : Nat} (h0 : 0 < i) (hi : i < B) (h1 : ch ≠ 92) (h2 : ch ≠ 34) {z : List Nat} : encL B g ≠ List.replicate i 92 ++ ch :: z := by
  cases g with
  | nil => intro h; simp [encL] at h
  | cons b g =>
    rw [encL_cons]
    intro h
    have hB8 : B ≤ 8 := by rcases hB with rfl | rfl | rfl <;> decide
    have hi' := lt8 i (by omega) h0
    have f := no1_fin B (okB_mem hB) i hi' hi b (ok_mem (hg b (.head _)))
    have e0 := congrArg (fun l => l[0]?.getD 92) h
    have ei := congrArg (fun l => l[i]?.getD 0) h
    have r0 : (List.replicate i 92 ++ ch :: z)[0]?.getD 92 = 92 := by
      rw [List.getElem?_append_left (by rw [List.length_replicate]; exact h0), List.getElem?_replicate]; split <;> rfl
    have ri : (List.replicate i 92 ++ ch :: z)[i]?.getD 0 = ch := by
      rw [List.getElem?_append_right (by rw [List.length_replicate]; exact Nat.le_refl _), List.length_replicate, Nat.sub_self]; rfl
    rw [r0] at e0
    rw [ri] at ei
    have hne : tokL B b ≠ [] := tok_ne B hB b
    cases hl : tokL B b with
    | nil => exact hne hl
    | cons c r =>
      rw [hl] at e0 ei f
      have ec : c = 92 := e0
      rcases f with f | f
      · exact f ec
      · have : (c :: r)[i]?.getD 0 ≠ 0 := by rcases f with f | f <;> rw [f] <;> decide
        have hil : i < (c :: r).length := by
          rcases Nat.lt_or_ge i (c :: r).length with q | q
          · exact q
          · rw [List.getElem?_eq_none q] at this; exact absurd rfl this
        rw [List.getElem?_append_left hil] at ei
        rcases f with f | f
        · exact h1 (ei.symm.trans f)
        · exact h2 (ei.symm.trans f)
theorem mis {B : Nat} (hB : OkB B) {j : Nat} (h0 : 0 < j) (hj : j < B) {y : List Nat} : ∀ (t g : List Int), Oks t → 6 ∉ t → Oks g → encL B g = List.replicate j 92 ++ (encL B t ++ y) → ∃ g2, g = t ++ g2
  | [], g, _, _, _, _ => ⟨g, rfl⟩
  | c :: t, g, ht, h6, hg, h => by
    rw [encL_cons] at h
    have hc := ht c (.head _)
    have ht' : Oks t := fun k hk => ht k (.tail _ hk)
    have h6' : 6 ∉ t := fun hk => h6 (.tail _ hk)
    rcases hc with rfl | rfl | rfl | rfl | rfl | rfl | rfl
    · exact absurd h (no1 hB hg h0 hj (by decide) (by decide))
    · exfalso
      have e1 : tokL B 1 = List.replicate (B - 1) 92 ++ [34] := by simp [tokL]
      have e3 : encL B [3] = List.replicate B 92 := by simp [encL, tokL]
      have hb : B = 2 ∨ B = 4 ∨ B = 8 := hB
      have e : List.replicate j 92 ++ (tokL B 1 ++ encL B t ++ y) = encL B [3] ++ (List.replicate (j - 1) 92 ++ 34 :: (encL B t ++ y)) := by
        rw [e1, e3, ← List.append_assoc (List.replicate B 92), List.replicate_append_replicate]
        simp only [List.append_assoc]
        rw [← List.append_assoc (List.replicate j 92), List.replicate_append_replicate, show j + (B - 1) = B + (j - 1) from by omega]
        rfl
      rw [e] at h
      obtain ⟨g2, rfl, e2⟩ := encPre hB [3] g _ (by intro k hk; rw [List.mem_singleton.mp hk]; decide) hg h
      exact no2 hB (fun k hk => hg k (.tail _ hk)) (by omega) e2.symm
    · exact absurd h (no1 hB hg h0 hj (by decide) (by decide))
    · have e3 : tokL B 3 = List.replicate B 92 := by simp [tokL]
      have e4 : encL B [3] = List.replicate B 92 := by simp [encL, tokL]
      have e : List.replicate j 92 ++ (tokL B 3 ++ encL B t ++ y) = encL B [3] ++ (List.replicate j 92 ++ (encL B t ++ y)) := by
        rw [e3, e4, ← List.append_assoc (List.replicate B 92), List.replicate_append_replicate, List.append_assoc, ← List.append_assoc (List.replicate j 92), List.replicate_append_replicate, Nat.add_comm]
      rw [e] at h
      obtain ⟨g2, rfl, e2⟩ := encPre hB [3] g _ (by intro k hk; rw [List.mem_singleton.mp hk]; decide) hg h
      obtain ⟨g3, rfl⟩ := mis hB h0 hj t g2 ht' h6' (fun k hk => hg k (.tail _ hk)) e2.symm
      exact ⟨g3, rfl⟩
    · exact absurd h (no1 hB hg h0 hj (by decide) (by decide))
    · exact absurd h (no1 hB hg h0 hj (by decide) (by decide))
    · exact absurd (.head _) h6
theorem tok_split {B : Nat} (hB : OkB B) {a : Int} {x r : List Nat} (h : tokL B a = x ++ r) (hx : x ≠ []) (hr : r ≠ []) : ∃ j, 0 < j ∧ j < B ∧ x = List.replicate j 92 := by
  have one : ∀ c : Nat, [c] ≠ x ++ r := by
    intro c e
    cases x with
    | nil => exact hx rfl
    | cons d x =>
      have e2 := (List.cons.inj e).2
      exact hr (List.append_eq_nil_iff.mp e2.symm).2
  have hxl : 0 < x.length := List.length_pos_iff.mpr hx
  have hrl : 0 < r.length := List.length_pos_iff.mpr hr
  have hb : B = 2 ∨ B = 4 ∨ B = 8 := hB
  have hlen := congrArg List.length h
  rw [List.length_append] at hlen
  have ex : x = (tokL B a).take x.length := by rw [h, List.take_left]
  unfold tokL at h hlen ex
  split at h
  · exact absurd h (one _)
  · rename_i n0
    rw [if_neg n0] at hlen ex
    split at h
    · rename_i y1
      rw [if_pos y1] at hlen ex
      simp only [List.length_append, List.length_replicate, List.length_singleton] at hlen
      refine ⟨x.length, hxl, by omega, ?_⟩
      rw [List.take_append_of_le_length (by rw [List.length_replicate]; omega), List.take_replicate, Nat.min_eq_left (by omega)] at ex
      exact ex
    · rename_i n1
      rw [if_neg n1] at hlen ex
      split at h
      · exact absurd h (one _)
      · rename_i n2
        rw [if_neg n2] at hlen ex
        split at h
        · rename_i y3
          rw [if_pos y3] at hlen ex
          simp only [List.length_replicate] at hlen
          refine ⟨x.length, hxl, by omega, ?_⟩
          rw [List.take_replicate, Nat.min_eq_left (by omega)] at ex
          exact ex
        · split at h
          · exact absurd h (one _)
          · split at h
            · exact absurd h (one _)
            · exact absurd h (one _)
theorem aligned {B : Nat} (hB : OkB B) {t : List Int} (ht : Oks t) (h6 : 6 ∉ t) {y : List Nat} : ∀ (g : List Int) (x : List Nat), Oks g → encL B g = x ++ (encL B t ++ y) → ∃ g1 g2, g = g1 ++ (t ++ g2) ∧ (encL B g1).length ≤ x.length
  | [], x, _, h => by
    have h1 := List.append_eq_nil_iff.mp h.symm
    have h2 := encL_nil hB (List.append_eq_nil_iff.mp h1.2).1
    subst h2
    exact ⟨[], [], rfl, Nat.zero_le _⟩
  | a :: g, x, hg, h => by
    by_cases hx : x = []
    · subst hx
      obtain ⟨g2, e, _⟩ := encPre hB t (a :: g) y ht hg h
      exact ⟨[], g2, e, Nat.zero_le _⟩
    · have h' := h
      rw [encL_cons] at h
      rcases List.append_eq_append_iff.mp h with ⟨x', e1, e2⟩ | ⟨r, e1, e2⟩
      · obtain ⟨g1, g2, rfl, hl⟩ := aligned hB ht h6 g x' (fun k hk => hg k (.tail _ hk)) e2
        refine ⟨a :: g1, g2, rfl, ?_⟩
        rw [encL_cons, e1, List.length_append, List.length_append]
        omega
      · by_cases hr : r = []
        · subst hr
          rw [List.append_nil] at e1
          obtain ⟨g1, g2, rfl, hl⟩ := aligned hB ht h6 g [] (fun k hk => hg k (.tail _ hk)) (by simpa using e2.symm)
          refine ⟨a :: g1, g2, rfl, ?_⟩
          rw [encL_cons, e1, List.length_append]
          rw [List.length_nil] at hl
          omega
        · obtain ⟨j, h0, hj, rfl⟩ := tok_split hB e1 hx hr
          obtain ⟨g2, e⟩ := mis hB h0 hj t (a :: g) ht h6 hg h'
          exact ⟨[], g2, e, Nat.zero_le _⟩
theorem mids_down {B : Nat} (hB : OkB B) : ∀ (ps : List (List Int)) (g : List Int), (∀ p ∈ ps, Oks p ∧ 6 ∉ p) → Oks g → Mids (ps.map (encL B)) (encL B g) → Mids ps g
  | [], _, _, _, _ => trivial
  | p :: ps, g, hp, hg, ⟨x, y, e, h⟩ => by
    rw [List.append_assoc] at e
    obtain ⟨g1, g2, rfl, hl⟩ := aligned hB (hp p (.head _)).1 (hp p (.head _)).2 g x hg e
    rw [encL_app, encL_app] at e
    have hlen := congrArg List.length e
    simp only [List.length_append] at hlen
    have e2 : encL B g2 = (encL B g2).take ((encL B g2).length - y.length) ++ y := by
      have h1 : (encL B g1 ++ encL B p).length + (encL B g2).length = (x ++ encL B p).length + y.length := by simp only [List.length_append]; omega
      have h2 : (encL B g1 ++ encL B p) ++ encL B g2 = (x ++ encL B p) ++ y := by rw [List.append_assoc, List.append_assoc]; exact e
      rcases List.append_eq_append_iff.mp h2 with ⟨z, _, e3⟩ | ⟨z, e3, e4⟩
      · rw [e3]; simp
      · have : z = [] := by
          have h3 := congrArg List.length e4
          rw [List.length_append] at h3
          exact List.length_eq_zero_iff.mp (by omega)
        subst this
        rw [List.nil_append] at e4
        rw [e4]; simp
    refine ⟨g1, g2, by rw [List.append_assoc], mids_down hB ps g2 (fun q hq => hp q (.tail _ hq)) (fun k hk => hg k (List.mem_append_right _ (List.mem_append_right _ hk))) ?_⟩
    rw [e2]
    exact h.more _
theorem mids_up (B : Nat) : ∀ (ps : List (List Int)) (g : List Int), Mids ps g → Mids (ps.map (encL B)) (encL B g)
  | [], _, _ => trivial
  | p :: ps, g, ⟨x, y, e, h⟩ => ⟨encL B x, encL B y, by rw [e, encL_app, encL_app], mids_up B ps y h⟩
/-! the plain meaning, piece by piece -/
theorem match_pre : ∀ (p w g : List Int), 6 ∉ p → (Match (p ++ w) g ↔ ∃ g', g = p ++ g' ∧ Match w g')
  | [], w, g, _ => ⟨fun h => ⟨g, rfl, h⟩, fun ⟨_, e, h⟩ => e ▸ h⟩
  | k :: p, w, g, h6 => by
    have hk : k ≠ 6 := fun e => h6 (e ▸ .head _)
    rw [List.cons_append, match_ne hk]
    constructor
    · rintro ⟨g', rfl, h⟩
      obtain ⟨g2, rfl, h2⟩ := (match_pre p w g' fun h => h6 (.tail _ h)).mp h
      exact ⟨g2, rfl, h2⟩
    · rintro ⟨g', rfl, h⟩
      exact ⟨_, rfl, (match_pre p w _ fun h => h6 (.tail _ h)).mpr ⟨g', rfl, h⟩⟩
theorem match_none {w g : List Int} (h6 : 6 ∉ w) : Match w g ↔ g = w := by
  have h := match_pre w [] g h6
  rw [List.append_nil] at h
  rw [h]
  constructor
  · rintro ⟨g', e, h⟩
    have h' : g' = [] := h
    rw [e, h', List.append_nil]
  · rintro rfl
    exact ⟨[], by simp, rfl⟩
theorem joinD_cons {α : Type} (D p : List α) : ∀ {L : List (List α)}, L ≠ [] → joinD D (p :: L) = p ++ D ++ joinD D L
  | [], h => absurd rfl h
  | _ :: _, _ => rfl
theorem match_mids {pl : List Int} (hl : 6 ∉ pl) : ∀ (ms : List (List Int)) (g : List Int), (∀ p ∈ ms, 6 ∉ p) → (Match (6 :: joinD [6] (ms ++ [pl])) g ↔ ∃ R, g = R ++ pl ∧ Mids ms R)
  | [], g, _ => by
    rw [List.nil_append, match_six]
    constructor
    · rintro ⟨n, h⟩
      have e := (match_none hl).mp h
      exact ⟨g.take n, by rw [← e, List.take_append_drop], trivial⟩
    · rintro ⟨R, rfl, _⟩
      exact ⟨R.length, (match_none hl).mpr List.drop_left⟩
  | p :: ms, g, hp => by
    have hp6 := hp p (.head _)
    have ih := match_mids hl ms
    rw [List.cons_append, joinD_cons [6] p (by simp), match_six, List.append_assoc]
    constructor
    · rintro ⟨n, h⟩
      obtain ⟨g', e, h2⟩ := (match_pre p _ _ hp6).mp h
      obtain ⟨R, rfl, h3⟩ := (ih g' fun q hq => hp q (.tail _ hq)).mp h2
      exact ⟨g.take n ++ p ++ R, by rw [List.append_assoc, List.append_assoc, ← e, List.take_append_drop], g.take n, R, rfl, h3⟩
    · rintro ⟨R, rfl, x, y, rfl, h⟩
      refine ⟨x.length, (match_pre p _ _ hp6).mpr ⟨y ++ pl, ?_, (ih _ fun q hq => hp q (.tail _ hq)).mpr ⟨y, rfl, h⟩⟩⟩
      rw [List.append_assoc, List.append_assoc, List.drop_left]
/-- the answer, read off the texts -/
theorem glob_match {B : Nat} (hB : OkB B) {p0 pl : List Int} {ms : List (List Int)} {g : List Int} {hd tl : List Nat} (h0 : Oks p0 ∧ 6 ∉ p0) (hl : Oks pl ∧ 6 ∉ pl) (hm : ∀ p ∈ ms, Oks p ∧ 6 ∉ p) (hg : Oks g) :
    (∃ R, hd ++ encL B g ++ tl = (hd ++ encL B p0) ++ R ++ (encL B pl ++ tl) ∧ Mids (ms.map (encL B)) R) ↔ Match (joinD [6] (p0 :: (ms ++ [pl]))) g := by
  rw [joinD_cons [6] p0 (by simp), List.append_assoc p0, match_pre p0 _ _ h0.2]
  constructor
  · rintro ⟨R, e, h⟩
    have e1 : encL B g = encL B p0 ++ (R ++ encL B pl) := by
      have e2 : hd ++ (encL B g ++ tl) = hd ++ ((encL B p0 ++ (R ++ encL B pl)) ++ tl) := by simpa [List.append_assoc] using e
      exact List.append_cancel_right (List.append_cancel_left e2)
    obtain ⟨g2, rfl, e3⟩ := encPre hB p0 g _ h0.1 hg e1
    have hg2 : Oks g2 := fun k hk => hg k (List.mem_append_right _ hk)
    obtain ⟨g3, rfl, rfl⟩ := encSuf hB hl.1 hg2 e3.symm
    exact ⟨_, rfl, (match_mids hl.2 ms _ fun p hp => (hm p hp).2).mpr ⟨g3, rfl, mids_down hB ms g3 hm (fun k hk => hg2 k (List.mem_append_left _ hk)) h⟩⟩
  · rintro ⟨g', rfl, h⟩
    obtain ⟨R, rfl, h3⟩ := (match_mids hl.2 ms _ fun p hp => (hm p hp).2).mp h
    exact ⟨encL B R, by simp [encL_app, List.append_assoc], mids_up B ms R h3⟩
theorem match_map {f : Int → Int} (h6 : ∀ k, Ok k → (f k = 6 ↔ k = 6)) (hi : ∀ a b, Ok a → Ok b → f a = f b → a = b) : ∀ (w g : List Int), Oks w → Oks g → (Match (w.map f) (g.map f) ↔ Match w g)
  | [], g, _, _ => by
    show g.map f = [] ↔ g = []
    simp
  | k :: w, g, hw, hg => by
    have hw' : Oks w := fun a ha => hw a (.tail _ ha)
    rw [List.map_cons]
    by_cases hk : k = 6
    · have hfk := (h6 k (hw k (.head _))).mpr hk
      rw [hfk, hk, match_six, match_six]
      constructor
      · rintro ⟨n, h⟩
        rw [← List.map_drop] at h
        exact ⟨n, (match_map h6 hi w _ hw' fun a ha => hg a (List.mem_of_mem_drop ha)).mp h⟩
      · rintro ⟨n, h⟩
        refine ⟨n, ?_⟩
        rw [← List.map_drop]
        exact (match_map h6 hi w _ hw' fun a ha => hg a (List.mem_of_mem_drop ha)).mpr h
    · have hfk : f k ≠ 6 := fun e => hk ((h6 k (hw k (.head _))).mp e)
      rw [match_ne hfk, match_ne hk]
      constructor
      · rintro ⟨g', e, h⟩
        cases g with
        | nil => cases e
        | cons a g =>
          rw [List.map_cons] at e
          injection e with e1 e2
          obtain rfl := hi _ _ (hg _ (.head _)) (hw _ (.head _)) e1
          subst e2
          exact ⟨g, rfl, (match_map h6 hi w g hw' fun a ha => hg a (.tail _ ha)).mp h⟩
      · rintro ⟨g', rfl, h⟩
        exact ⟨g'.map f, rfl, (match_map h6 hi w g' hw' fun a ha => hg a (.tail _ ha)).mpr h⟩
end Mine
end PartT3
section PartE1
open PySem PySem.W PyProof.Rows
namespace Mine
theorem offE1 : True := by w_top off; trivial
noncomputable abbrev dots : Str := Str.ofString "..."
inductive StrsIn : List Value → List Str → Prop
  | nil : StrsIn [] []
  | cons {x : Str} {t : Tok} {vs : List Value} {xs : List Str} (r : StrsIn vs xs) : StrsIn (.str x t :: vs) (x :: xs)
theorem strs_snoc : ∀ {l : List (Str × Tok)} {ms : List Str} {wl : Str}, l.map (·.1) = ms ++ [wl] → ∃ vs tl, strValues l = vs ++ [.str wl tl] ∧ StrsIn vs ms
  | [], ms, _, h => by simp at h
  | p :: l, [], wl, h => by
    simp only [List.map_cons, List.nil_append, List.cons.injEq, List.map_eq_nil_iff] at h
    obtain ⟨h1, rfl⟩ := h
    exact ⟨[], p.2, by rw [← h1]; rfl, .nil⟩
  | p :: l, m :: ms, wl, h => by
    simp only [List.map_cons, List.cons_append, List.cons.injEq] at h
    obtain ⟨vs, tl, e, hi⟩ := strs_snoc h.2
    refine ⟨.str p.1 p.2 :: vs, tl, ?_, ?_⟩
    · show Value.str p.1 p.2 :: strValues l = _
      rw [e]; rfl
    · rw [h.1]; exact .cons hi
section
variable {prog : Program} {w : World} {A : Around} {E : Value → Shared → Prop} {s : Shared} {h₀ : Heap} {L : Addr} {m : Str → Option Value} {news : Led} {Q : Value → Shared → Prop}
theorem split_ws {W : Str} {t u : Tok} {w0 wl : Str} {mids : List Str} (F : Fr h₀ L s.heap m) (N : News h₀ L s.heap news) (hsp : Txt.split W dots = w0 :: (mids ++ [wl])) (hz : W.length ≤ 10000)
    (h : ∀ D t0 tl vs h' k, StrsIn vs mids → Fr h₀ L h' m → News h₀ L h' ((D, listOf (Value.str w0 t0 :: (vs ++ [Value.str wl tl])).toArray 0) :: news) → (∀ p ∈ news, p.1 < D) → Q (.ref D) { s with heap := h', toks := k }) :
    wpAny (model prog w) A (call (.builtin "str.split") [.str W t, .str dots u]) Q E s := by
  refine KSpl.split1 F N (by decide +kernel) ?_ (by rw [sizeLine_eq]; omega)
  intro D l h' k e _ F N off
  rw [hsp] at e
  cases l with
  | nil => cases e
  | cons p l =>
    simp only [List.map_cons, List.cons.injEq] at e
    obtain ⟨vs, tl, e2, hi⟩ := strs_snoc e.2
    refine h D p.2 tl vs h' k hi F ?_ off
    rw [← e2, ← e.1]
    exact N
theorem last_at (r : List Value) (x : Value) : (r ++ [x])[((-1 : Int) + ((r ++ [x]).length : Int)).toNat]? = some x := by
  rw [show ((-1 : Int) + ((r ++ [x]).length : Int)).toNat = r.length from by rw [List.length_append, List.length_singleton]; omega]
  simp
end
theorem len_ws {prog : Program} {w : World} {A : Around} {E : Value → Shared → Prop} {s : Shared} {l : Addr} {x0 x1 : Value} {vs : List Value} {Q : Value → Shared → Prop} (hl : s.heap.IsList l (x0 :: (vs ++ [x1])).toArray) (hz : vs.length ≤ 10000) (h : Q (.int ((vs.length + 2 : Nat) : Int) (s.toks + 1)) { s with toks := s.toks + 1 + 1 }) :
    wpAny (model prog w) A (call (.builtin "len") [.ref l]) Q E s := by
  have e : (x0 :: (vs ++ [x1])).toArray.size = vs.length + 2 := by simp
  refine len_list hl ?_ ?_
  · rw [e]; omega
  · rw [e]; exact h
theorem StrsIn.len : ∀ {vs : List Value} {xs : List Str}, StrsIn vs xs → vs.length = xs.length
  | _, _, .nil => rfl
  | _, _, .cons r => congrArg (· + 1) r.len
theorem truthy_len {prog : Program} {w : World} {A : Around} {E : Value → Shared → Prop} {s : Shared} {x : Str} {t : Tok} {Q : Bool → Shared → Prop} (h0 : 0 < x.length) (hz : x.length ≤ 10000) (h : ∀ k, Q true { s with toks := k }) : wpAny (model prog w) A (truthy (.str x t)) Q E s := by
  refine P.truthy_str (by omega) ?_
  have e : ((x.length : Int) != 0) = true := by
    rw [bne_iff_ne]; omega
  rw [e]
  exact h _
section
open Builtin Builtin.Str
theorem gives_find4 (x y : Str) (i j : Int) (t u v v2 : Tok) : Gives («str.find» ⟨[.str x t, .str y u, .int i v, .int j v2], []⟩) (.int (match occurrences x y (fromIndex x.length i) (min (fromIndex x.length j) x.length) 1 with | k :: _ => (k : Int) | [] => -1)) := by
  show Gives (match occurrences x y (fromIndex x.length i) (min (fromIndex x.length j) x.length) 1 with | k :: _ => retInt k | [] => (do rule "str.find.not-found"; retInt (-1))) _
  cases occurrences x y (fromIndex x.length i) (min (fromIndex x.length j) x.length) 1 with
  | nil => exact .rule (.of_eq rfl)
  | cons k _ => exact .of_eq rfl
theorem from_nat (n k : Nat) : fromIndex n (k : Int) = k := by
  unfold fromIndex
  rw [if_neg (by omega)]
  omega
noncomputable def findAt (G y : Str) (a e : Nat) : Int := match occurrences G y a e 1 with
  | k :: _ => (k : Int)
  | [] => -1
theorem find4 {prog : Program} {w : World} {A : Around} {E : Value → Shared → Prop} {s : Shared} {x y : Str} {t u v v2 : Tok} {i j : Int} {a e : Nat} {Q : Value → Shared → Prop} (hi : i = a) (hj : j = e) (he : e ≤ x.length) (h : ∀ t' k, Q (.int (findAt x y a e) t') { s with toks := k }) :
    wpAny (model prog w) A (call (.builtin "str.find") [.str x t, .str y u, .int i v, .int j v2]) Q E s := by
  subst hi hj
  refine call_gives PySem.F.slot_str_find (typeIs_str _ _ _) PySem.F.entry_str_find (PySem.F.args_str_find_4 _ _ _ _) (gives_find4 x y a e t u v v2) ?_
  rw [from_nat, from_nat, Nat.min_eq_left he]
  exact h _ _
end
theorem del_last : ∀ (vs : List Value) (x : Value), ki_delL (vs ++ [x]) vs.length = some vs
  | [], _ => rfl
  | v :: vs, x => by
    show (match ki_delL (vs ++ [x]) vs.length with | some q => some (v :: q) | none => none) = _
    rw [del_last vs x]
theorem idx_last (vs : List Value) (x : Value) : seqIndex? (-1) (vs ++ [x]).toArray.size = some vs.length := by
  rw [PySem.seqIndex_neg (by decide) (by simp only [List.size_toArray, List.length_append, List.length_singleton]; omega)]
  simp only [List.size_toArray, List.length_append, List.length_singleton]
  exact congrArg some (by omega)
theorem idx_first (vs : List Value) (x : Value) : seqIndex? 0 (x :: vs).toArray.size = some 0 := by
  unfold seqIndex?
  simp
section
variable {prog : Program} {w : World} {A : Around} {E : Value → Shared → Prop} {s : Shared} {env : Env} {h₀ : Heap} {target : Expr} {body : List Stmt} {Q : Flow → Shared → Prop}
theorem for_itemsN {ax : Addr} {vs : List Value} {nn : Nat} {m₀ : Str → Option Value} {news : Led} (J : Led → (Str → Option Value) → Addr → List Value → (Str → Option Value) → Led → Prop)
    (hh : A.handled = none) (F : Fr h₀ env.locals s.heap m₀) (N : News h₀ env.locals s.heap news) (hm : (ax, listOf vs.toArray nn) ∈ news)
    (start : ∀ I, (∀ p ∈ news, p.1 < I) → J news m₀ I vs m₀ news)
    (done : ∀ I m n h tk, J news m₀ I [] m n → Fr h₀ env.locals h m → News h₀ env.locals h n → Q .next { s with heap := h, toks := tk })
    (turn : ∀ I x xs m n h tk o, J news m₀ I (x :: xs) m n → o.cls = .type "list_iterator" → Fr h₀ env.locals h m → News h₀ env.locals h ((I, o) :: n) →
      wpAny (model prog w) A (assign target env x) (fun _ s₂ => wpAny (model prog w) A (execs body env) (UnrPostW h₀ env.locals { s with heap := h, toks := tk } [(I, o)] (fun m' n' => SubL [(ax, listOf vs.toArray nn)] n' ∧ J news m₀ I xs m' n') Q) E s₂) E { s with heap := h, toks := tk }) :
    wpAny (model prog w) A (pyIter (.ref ax)) (fun it s₂ => TurnsAt prog w A h₀ env target body Q E it s₂) E s := for_items (J news) hh F N hm start done turn
end
noncomputable abbrev ellKs : List Str := [Str.ofString "w", Str.ofString "startpos"]
theorem UpdL.exE {ks : List Str} {m' m : Str → Option Value} (h : UpdL ks m' m) : m' = chain ks m' m := by
  funext y
  rw [chain_at]
  by_cases hy : y ∈ ks
  · rw [if_pos hy]
  · rw [if_neg hy]; exact h y hy
inductive EllJ (led : Led) (G : Str) (ans : Bool) (e : Nat) (m0 : Str → Option Value) (I : Addr) (xs : List Value) (m' : Str → Option Value) (n' : Led) : Prop
  | mk (rem : List Str) (a : Nat) (ta : Tok) (j0 : StrsIn xs rem) (j1 : n' = led) (j2 : (∀ p ∈ led, p.1 ≠ I)) (j3 : m' (Str.ofString "startpos") = some (.int (a : Int) ta)) (j4 : UpdL ellKs m' m0) (j5 : a ≤ 10000) (j6 : (∀ x ∈ rem, x.length ≤ 10000)) (j7 : findAll G rem a e = ans) : EllJ led G ans e m0 I xs m' n'
theorem find_none {G w : Str} {r : List Str} {a e : Nat} {ans : Bool} (h : findAll G (w :: r) a e = ans) (hf : findAt G w a e < 0) : ans = false := by
  unfold findAt at hf
  unfold findAll at h
  cases ho : Builtin.Str.occurrences G w a e 1 with
  | nil => rw [ho] at h; exact h.symm
  | cons i t => rw [ho] at hf; simp only at hf; omega
theorem find_some {G w : Str} {r : List Str} {a e : Nat} {ans : Bool} (he : e ≤ 10000) (h : findAll G (w :: r) a e = ans) (hf : ¬ findAt G w a e < 0) : ∃ b : Nat, findAt G w a e + w.length = b ∧ b ≤ 10000 ∧ findAll G r b e = ans := by
  unfold findAt at hf ⊢
  unfold findAll at h
  rcases occ_range G w a e with ⟨h0, _⟩ | ⟨i, t, h0, _, hi, _⟩
  · rw [h0] at hf; simp at hf
  · rw [h0] at h ⊢
    simp only at h ⊢
    exact ⟨i + w.length, by omega, by have := hi.1; omega, h⟩
section
variable (w : World) (mean : ExcName → Option Value) (mg mb : Str → Option Value) (rest : Led)
theorem ell_no (W G : Str) (t1 t2 : Tok) (hc : Txt.contains W dots = false) :
    Ctr w mean mg mb 45 [.str W t1, .str G t2] rest 1 8 (fun v news' => news' = rest ∧ v = .bool (W == G)) := by
  intro dp un gd cn cs a ccd cl outer A₀ base h₀ L m s Q E B F X N T hk hd hu hret
  refine wpAny_call ?_
  k_dflt ktr_enter
  (rename Fr _ _ _ _ => lF9); refine map_let lF9 ?_; clear lF9; intro m9 lF9
  repeat' (first | ((k_unfold); (try dsimp only)) | (k_end; kc_close) | ((with_reducible show wpAny _ _ (delItem (Value.ref _) (Value.int _ _)) _ _ _); ((k_here; k_dflt (first | (refine' ki_del ?zqF ?zqN ?zqf ?zqk ?zqe ?zqU ?zqz ?_; (case zqF => k_asm); (case zqN => k_asm); (case zqU => k_upd); (case zqf => rfl); (case zqk => exact idx_first _ _); (case zqe => exact rfl); (case zqz => (simp only [List.length_cons, List.length_append, List.length_nil, StrsIn.len (by assumption), sizeLine_eq]; omega))) | (refine' ki_del ?zqF ?zqN ?zqf ?zqk ?zqe ?zqU ?zqz ?_; (case zqF => k_asm); (case zqN => k_asm); (case zqU => k_upd); (case zqf => rfl); (case zqk => exact idx_last _ _); (case zqe => exact del_last _ _); (case zqz => (simp only [List.length_cons, List.length_append, List.length_nil, StrsIn.len (by assumption), sizeLine_eq]; omega)))); intro h' F' N'))) | ((with_reducible show wpAny _ _ (pyIter (Value.ref _)) _ _ _); first | with_reducible ((k_here; (with_reducible show wpAny _ _ (pyIter (Value.ref _)) (fun it s₂ => TurnsAt _ _ _ _ _ _ _ _ _ it s₂) _ _); refine halt ?_)) | ((k_here; (with_reducible show wpAny _ _ (pyIter (Value.ref _)) (fun it s₂ => TurnsAt _ _ _ _ _ _ _ _ _ it s₂) _ _); refine halt ?_))) | ((with_reducible show wpAny _ _ (exec (Stmt.For _ _ _ _ _) _) _ _ _); ((k_here; (rename Fr _ _ _ _ => lF'); (with_unfolding_all refine' For_turns lF' ?_; k_whole)))) | ((with_reducible show wpAny _ _ (call (Value.builtin "str.find") _ _) _ _ _); first | with_reducible ((k_here; (refine' find4 ?zqi ?zqj ?zqe ?_; (case zqi => exact rfl); (case zqj => assumption); (case zqe => exact Nat.sub_le _ _)); intro t9 k9)) | ((k_here; (refine' find4 ?zqi ?zqj ?zqe ?_; (case zqi => exact rfl); (case zqj => assumption); (case zqe => exact Nat.sub_le _ _)); intro t9 k9))) | ((with_reducible show wpAny _ _ (call (Value.builtin "str.split") _ _) _ _ _); first | with_reducible ((k_here; (refine' split_ws ?zqF ?zqN ?zqh ?zqz ?_; (case zqF => k_asm); (case zqN => k_asm); (case zqh => assumption); (case zqz => assumption)); intro D' t0' tl' vs' h' k' hvs' F' N' l1; (try k_lt l1))) | ((k_here; (refine' split_ws ?zqF ?zqN ?zqh ?zqz ?_; (case zqF => k_asm); (case zqN => k_asm); (case zqh => assumption); (case zqz => assumption)); intro D' t0' tl' vs' h' k' hvs' F' N' l1; (try k_lt l1)))) | ((with_reducible show wpAny _ _ (truthy (Value.str _ _)) _ _ _); first | with_reducible ((k_here; (refine truthy_len (by assumption) (by assumption) ?_); intro _)) | ((k_here; (refine truthy_len (by assumption) (by assumption) ?_); intro _))) | ((with_reducible show wpAny _ _ (call (Value.builtin "len") _ _) _ _ _); first | with_reducible ((k_here; (with_reducible show wpAny _ _ (call (Value.builtin "len") [Value.ref _]) _ _ _); (refine' len_ws ?zql ?zqz ?_; (case zql => exact News.isList (by k_asm) (by first | exact .head _ | exact .tail _ (.head _))); (case zqz => (rw [StrsIn.len (by assumption)]; assumption))))) | ((k_here; (with_reducible show wpAny _ _ (call (Value.builtin "len") [Value.ref _]) _ _ _); (refine' len_ws ?zql ?zqz ?_; (case zql => exact News.isList (by k_asm) (by first | exact .head _ | exact .tail _ (.head _))); (case zqz => (rw [StrsIn.len (by assumption)]; assumption)))))) | ((with_reducible show wpAny _ _ (subscriptTail _ _ (Value.ref _) _) _ _ _); ((k_here; (with_reducible show wpAny _ _ (subscriptTail _ _ (Value.ref _) (Value.int _ _)) _ _ _); k_dflt (first | (refine' kim_list ?zqN ?zqm ?zqc ?zqd ?zqa ?zqb ?zqx ?_; (case zqN => k_asm); (case zqm => first | exact .head _ | exact .tail _ (.head _)); (case zqc => exact rfl); (case zqd => exact rfl); (case zqa => decide); (case zqb => decide); (case zqx => exact rfl)) | (refine' kim_back ?zqN ?zqm ?zqc ?zqd ?zqa ?zql ?zqb ?zqx ?_; (case zqN => k_asm); (case zqm => first | exact .head _ | exact .tail _ (.head _)); (case zqc => exact rfl); (case zqd => exact rfl); (case zqa => decide); (case zqb => decide); (case zqx => exact last_at _ _); (case zql => (simp only [List.length_cons, List.length_append, List.length_singleton, List.length_nil]; omega))))))) | ((with_reducible show wpAny _ _ (storeName _ _ _) _ _ _); ((k_here; k_dflt ((refine' store_let ?zqF ?zqN ?_ ?zqa ?zqb; (case zqF => k_asm); (case zqN => k_asm); (case zqa => rfl); (case zqb => rfl); k_whole; intro m' h' tk' F' N'; (try k_sweep)))))) | walk1 | (dsimp only; walk1) | (leave1; (try dsimp only)) | fail "no step")
  · exact hret _ _ _ _ ⟨rfl, rfl⟩ (by assumption) (by assumption)
  · exfalso
    (rename (Builtin.Str.occurrences _ _ _ _ _).isEmpty = false => ha)
    unfold Txt.contains at hc
    rw [ha] at hc
    cases hc
theorem ell_yes (W G w0 wl : Str) (mids : List Str) (t1 t2 : Tok) (hc : Txt.contains W dots = true) (hsp : Txt.split W dots = w0 :: (mids ++ [wl])) (h0 : 0 < w0.length) (hl : 0 < wl.length) (hz : W.length ≤ 10000) (hz2 : G.length ≤ 10000) (hm : mids.length ≤ 10000) (hm2 : ∀ x ∈ mids, x.length ≤ 10000) (hz3 : w0.length ≤ 10000) (hz4 : wl.length ≤ 10000) :
    Ctr w mean mg mb 45 [.str W t1, .str G t2] rest 1 8 (fun v news' => news' = rest ∧ v = .bool (Txt.startswith G w0 && (Txt.endswith G wl && (decide (w0.length + wl.length ≤ G.length) && findAll G mids w0.length (G.length - wl.length))))) := by
  intro dp un gd cn cs a ccd cl outer A₀ base h₀ L m s Q E B F X N T hk hd hu hret
  refine wpAny_call ?_
  k_dflt ktr_enter
  (rename Fr _ _ _ _ => lF9); refine map_let lF9 ?_; clear lF9; intro m9 lF9
  repeat' (first | ((k_unfold); (try dsimp only)) | (k_end; kc_close) | ((with_reducible show wpAny _ _ (delItem (Value.ref _) (Value.int _ _)) _ _ _); ((k_here; k_dflt (first | (refine' ki_del ?zqF ?zqN ?zqf ?zqk ?zqe ?zqU ?zqz ?_; (case zqF => k_asm); (case zqN => k_asm); (case zqU => k_upd); (case zqf => rfl); (case zqk => exact idx_first _ _); (case zqe => exact rfl); (case zqz => (simp only [List.length_cons, List.length_append, List.length_nil, StrsIn.len (by assumption), sizeLine_eq]; omega))) | (refine' ki_del ?zqF ?zqN ?zqf ?zqk ?zqe ?zqU ?zqz ?_; (case zqF => k_asm); (case zqN => k_asm); (case zqU => k_upd); (case zqf => rfl); (case zqk => exact idx_last _ _); (case zqe => exact del_last _ _); (case zqz => (simp only [List.length_cons, List.length_append, List.length_nil, StrsIn.len (by assumption), sizeLine_eq]; omega)))); intro h' F' N'))) | ((with_reducible show wpAny _ _ (pyIter (Value.ref _)) _ _ _); first | with_reducible ((k_here; (with_reducible show wpAny _ _ (pyIter (Value.ref _)) (fun it s₂ => TurnsAt _ _ _ _ _ _ _ _ _ it s₂) _ _); refine halt ?_)) | ((k_here; (with_reducible show wpAny _ _ (pyIter (Value.ref _)) (fun it s₂ => TurnsAt _ _ _ _ _ _ _ _ _ it s₂) _ _); refine halt ?_))) | ((with_reducible show wpAny _ _ (exec (Stmt.For _ _ _ _ _) _) _ _ _); ((k_here; (rename Fr _ _ _ _ => lF'); (with_unfolding_all refine' For_turns lF' ?_; k_whole)))) | ((with_reducible show wpAny _ _ (call (Value.builtin "str.find") _ _) _ _ _); first | with_reducible ((k_here; (refine' find4 ?zqi ?zqj ?zqe ?_; (case zqi => exact rfl); (case zqj => assumption); (case zqe => exact Nat.sub_le _ _)); intro t9 k9)) | ((k_here; (refine' find4 ?zqi ?zqj ?zqe ?_; (case zqi => exact rfl); (case zqj => assumption); (case zqe => exact Nat.sub_le _ _)); intro t9 k9))) | ((with_reducible show wpAny _ _ (call (Value.builtin "str.split") _ _) _ _ _); first | with_reducible ((k_here; (refine' split_ws ?zqF ?zqN ?zqh ?zqz ?_; (case zqF => k_asm); (case zqN => k_asm); (case zqh => assumption); (case zqz => assumption)); intro D' t0' tl' vs' h' k' hvs' F' N' l1; (try k_lt l1))) | ((k_here; (refine' split_ws ?zqF ?zqN ?zqh ?zqz ?_; (case zqF => k_asm); (case zqN => k_asm); (case zqh => assumption); (case zqz => assumption)); intro D' t0' tl' vs' h' k' hvs' F' N' l1; (try k_lt l1)))) | ((with_reducible show wpAny _ _ (truthy (Value.str _ _)) _ _ _); first | with_reducible ((k_here; (refine truthy_len (by assumption) (by assumption) ?_); intro _)) | ((k_here; (refine truthy_len (by assumption) (by assumption) ?_); intro _))) | ((with_reducible show wpAny _ _ (call (Value.builtin "len") _ _) _ _ _); first | with_reducible ((k_here; (with_reducible show wpAny _ _ (call (Value.builtin "len") [Value.ref _]) _ _ _); (refine' len_ws ?zql ?zqz ?_; (case zql => exact News.isList (by k_asm) (by first | exact .head _ | exact .tail _ (.head _))); (case zqz => (rw [StrsIn.len (by assumption)]; assumption))))) | ((k_here; (with_reducible show wpAny _ _ (call (Value.builtin "len") [Value.ref _]) _ _ _); (refine' len_ws ?zql ?zqz ?_; (case zql => exact News.isList (by k_asm) (by first | exact .head _ | exact .tail _ (.head _))); (case zqz => (rw [StrsIn.len (by assumption)]; assumption)))))) | ((with_reducible show wpAny _ _ (subscriptTail _ _ (Value.ref _) _) _ _ _); ((k_here; (with_reducible show wpAny _ _ (subscriptTail _ _ (Value.ref _) (Value.int _ _)) _ _ _); k_dflt (first | (refine' kim_list ?zqN ?zqm ?zqc ?zqd ?zqa ?zqb ?zqx ?_; (case zqN => k_asm); (case zqm => first | exact .head _ | exact .tail _ (.head _)); (case zqc => exact rfl); (case zqd => exact rfl); (case zqa => decide); (case zqb => decide); (case zqx => exact rfl)) | (refine' kim_back ?zqN ?zqm ?zqc ?zqd ?zqa ?zql ?zqb ?zqx ?_; (case zqN => k_asm); (case zqm => first | exact .head _ | exact .tail _ (.head _)); (case zqc => exact rfl); (case zqd => exact rfl); (case zqa => decide); (case zqb => decide); (case zqx => exact last_at _ _); (case zql => (simp only [List.length_cons, List.length_append, List.length_singleton, List.length_nil]; omega))))))) | ((with_reducible show wpAny _ _ (storeName _ _ _) _ _ _); ((k_here; k_dflt ((refine' store_let ?zqF ?zqN ?_ ?zqa ?zqb; (case zqF => k_asm); (case zqN => k_asm); (case zqa => rfl); (case zqb => rfl); k_whole; intro m' h' tk' F' N'; (try k_sweep)))))) | walk1 | (dsimp only; walk1) | (leave1; (try dsimp only)) | fail "no step")
  · exfalso
    (rename (Builtin.Str.occurrences _ _ _ _ _).isEmpty = true => ha)
    unfold Txt.contains at hc
    rw [ha] at hc
    cases hc
  all_goals first | (exfalso; omega) | (refine hret _ _ _ _ ⟨rfl, ?_⟩ (by assumption) (fun q hq => (by assumption : News h₀ L _ (_ :: rest)) q (.tail _ hq)); simp [*]; done) | (refine hret _ _ _ _ ⟨rfl, ?_⟩ (by assumption) (fun q hq => (by assumption : News h₀ L _ (_ :: _ :: rest)) q (.tail _ (.tail _ hq))); simp [*]; done) | (refine hret _ _ _ _ ⟨rfl, ?_⟩ (by assumption) (fun q hq => (by assumption : News h₀ L _ (_ :: _ :: rest)) q (.tail _ (.tail _ hq))); (rename Txt.startswith G w0 = true => e1); (rename Txt.endswith G wl = true => e2); rw [e1, e2, decide_eq_false (by omega)]; rfl) | skip
  unfold Halt
  (rename ¬ _ < _ => hle)
  (rename News _ _ _ _ => kN)
  have he : (G.length : Int) - wl.length = ((G.length - wl.length : Nat) : Int) := by omega
  have hz6 : G.length - wl.length ≤ 10000 := by omega
  (rename Txt.startswith G w0 = true => e1)
  (rename Txt.endswith G wl = true => e2)
  have e3 : decide (w0.length + wl.length ≤ G.length) = true := decide_eq_true (by omega)
  refine for_itemsN (fun led => EllJ led G (findAll G mids w0.length (G.length - wl.length)) (G.length - wl.length)) rfl (by k_asm) kN (.tail _ (.head _)) ?_ ?_ ?_
  · intro I hI
    exact ⟨mids, w0.length, _, by assumption, rfl, fun p hp => Nat.ne_of_lt (hI p hp), rfl, fun _ _ => rfl, hz3, hm2, rfl⟩
  · intro I m n h tk hJ95 F N; (try k_fold); obtain ⟨rem, a, ta, hx, rfl, hI, hsp9, hU, hal, hml, hans⟩ := hJ95
    cases hx
    rw [hU.exE] at F
    dsimp only [chain] at F
    simp only [hsp9] at F
    refine map_let F ?_; clear F; intro m9 F
    repeat' (first | ((k_unfold); (try dsimp only)) | (k_end; kc_close) | ((with_reducible show wpAny _ _ (delItem (Value.ref _) (Value.int _ _)) _ _ _); ((k_here; k_dflt (first | (refine' ki_del ?zqF ?zqN ?zqf ?zqk ?zqe ?zqU ?zqz ?_; (case zqF => k_asm); (case zqN => k_asm); (case zqU => k_upd); (case zqf => rfl); (case zqk => exact idx_first _ _); (case zqe => exact rfl); (case zqz => (simp only [List.length_cons, List.length_append, List.length_nil, StrsIn.len (by assumption), sizeLine_eq]; omega))) | (refine' ki_del ?zqF ?zqN ?zqf ?zqk ?zqe ?zqU ?zqz ?_; (case zqF => k_asm); (case zqN => k_asm); (case zqU => k_upd); (case zqf => rfl); (case zqk => exact idx_last _ _); (case zqe => exact del_last _ _); (case zqz => (simp only [List.length_cons, List.length_append, List.length_nil, StrsIn.len (by assumption), sizeLine_eq]; omega)))); intro h' F' N'))) | ((with_reducible show wpAny _ _ (pyIter (Value.ref _)) _ _ _); first | with_reducible ((k_here; (with_reducible show wpAny _ _ (pyIter (Value.ref _)) (fun it s₂ => TurnsAt _ _ _ _ _ _ _ _ _ it s₂) _ _); refine halt ?_)) | ((k_here; (with_reducible show wpAny _ _ (pyIter (Value.ref _)) (fun it s₂ => TurnsAt _ _ _ _ _ _ _ _ _ it s₂) _ _); refine halt ?_))) | ((with_reducible show wpAny _ _ (exec (Stmt.For _ _ _ _ _) _) _ _ _); ((k_here; (rename Fr _ _ _ _ => lF'); (with_unfolding_all refine' For_turns lF' ?_; k_whole)))) | ((with_reducible show wpAny _ _ (call (Value.builtin "str.find") _ _) _ _ _); first | with_reducible ((k_here; (refine' find4 ?zqi ?zqj ?zqe ?_; (case zqi => exact rfl); (case zqj => assumption); (case zqe => exact Nat.sub_le _ _)); intro t9 k9)) | ((k_here; (refine' find4 ?zqi ?zqj ?zqe ?_; (case zqi => exact rfl); (case zqj => assumption); (case zqe => exact Nat.sub_le _ _)); intro t9 k9))) | ((with_reducible show wpAny _ _ (call (Value.builtin "str.split") _ _) _ _ _); first | with_reducible ((k_here; (refine' split_ws ?zqF ?zqN ?zqh ?zqz ?_; (case zqF => k_asm); (case zqN => k_asm); (case zqh => assumption); (case zqz => assumption)); intro D' t0' tl' vs' h' k' hvs' F' N' l1; (try k_lt l1))) | ((k_here; (refine' split_ws ?zqF ?zqN ?zqh ?zqz ?_; (case zqF => k_asm); (case zqN => k_asm); (case zqh => assumption); (case zqz => assumption)); intro D' t0' tl' vs' h' k' hvs' F' N' l1; (try k_lt l1)))) | ((with_reducible show wpAny _ _ (truthy (Value.str _ _)) _ _ _); first | with_reducible ((k_here; (refine truthy_len (by assumption) (by assumption) ?_); intro _)) | ((k_here; (refine truthy_len (by assumption) (by assumption) ?_); intro _))) | ((with_reducible show wpAny _ _ (call (Value.builtin "len") _ _) _ _ _); first | with_reducible ((k_here; (with_reducible show wpAny _ _ (call (Value.builtin "len") [Value.ref _]) _ _ _); (refine' len_ws ?zql ?zqz ?_; (case zql => exact News.isList (by k_asm) (by first | exact .head _ | exact .tail _ (.head _))); (case zqz => (rw [StrsIn.len (by assumption)]; assumption))))) | ((k_here; (with_reducible show wpAny _ _ (call (Value.builtin "len") [Value.ref _]) _ _ _); (refine' len_ws ?zql ?zqz ?_; (case zql => exact News.isList (by k_asm) (by first | exact .head _ | exact .tail _ (.head _))); (case zqz => (rw [StrsIn.len (by assumption)]; assumption)))))) | ((with_reducible show wpAny _ _ (subscriptTail _ _ (Value.ref _) _) _ _ _); ((k_here; (with_reducible show wpAny _ _ (subscriptTail _ _ (Value.ref _) (Value.int _ _)) _ _ _); k_dflt (first | (refine' kim_list ?zqN ?zqm ?zqc ?zqd ?zqa ?zqb ?zqx ?_; (case zqN => k_asm); (case zqm => first | exact .head _ | exact .tail _ (.head _)); (case zqc => exact rfl); (case zqd => exact rfl); (case zqa => decide); (case zqb => decide); (case zqx => exact rfl)) | (refine' kim_back ?zqN ?zqm ?zqc ?zqd ?zqa ?zql ?zqb ?zqx ?_; (case zqN => k_asm); (case zqm => first | exact .head _ | exact .tail _ (.head _)); (case zqc => exact rfl); (case zqd => exact rfl); (case zqa => decide); (case zqb => decide); (case zqx => exact last_at _ _); (case zql => (simp only [List.length_cons, List.length_append, List.length_singleton, List.length_nil]; omega))))))) | ((with_reducible show wpAny _ _ (storeName _ _ _) _ _ _); ((k_here; k_dflt ((refine' store_let ?zqF ?zqN ?_ ?zqa ?zqb; (case zqF => k_asm); (case zqN => k_asm); (case zqa => rfl); (case zqb => rfl); k_whole; intro m' h' tk' F' N'; (try k_sweep)))))) | walk1 | (dsimp only; walk1) | (leave1; (try dsimp only)) | fail "no step")
    refine hret _ _ _ _ ⟨rfl, ?_⟩ (by assumption) (fun q hq => (by assumption : News h₀ L h (_ :: _ :: rest)) q (.tail _ (.tail _ hq)))
    rw [e1, e2, e3, ← hans]
    rfl
  · intro I x xs m n h tk o hJ98 ho F N; (try k_fold); obtain ⟨rem, a, ta, hx, rfl, hI, hsp9, hU, hal, hml, hans⟩ := hJ98
    cases hx
    rename_i x_ t_ rem_ hx
    rw [hU.exE] at F
    dsimp only [chain] at F
    simp only [hsp9] at F
    refine map_let F ?_; clear F; intro m9 F
    have hxl := hml _ (List.mem_cons_self ..)
    repeat' (first | ((k_unfold); (try dsimp only)) | (k_end; kc_close) | ((with_reducible show wpAny _ _ (delItem (Value.ref _) (Value.int _ _)) _ _ _); ((k_here; k_dflt (first | (refine' ki_del ?zqF ?zqN ?zqf ?zqk ?zqe ?zqU ?zqz ?_; (case zqF => k_asm); (case zqN => k_asm); (case zqU => k_upd); (case zqf => rfl); (case zqk => exact idx_first _ _); (case zqe => exact rfl); (case zqz => (simp only [List.length_cons, List.length_append, List.length_nil, StrsIn.len (by assumption), sizeLine_eq]; omega))) | (refine' ki_del ?zqF ?zqN ?zqf ?zqk ?zqe ?zqU ?zqz ?_; (case zqF => k_asm); (case zqN => k_asm); (case zqU => k_upd); (case zqf => rfl); (case zqk => exact idx_last _ _); (case zqe => exact del_last _ _); (case zqz => (simp only [List.length_cons, List.length_append, List.length_nil, StrsIn.len (by assumption), sizeLine_eq]; omega)))); intro h' F' N'))) | ((with_reducible show wpAny _ _ (pyIter (Value.ref _)) _ _ _); first | with_reducible ((k_here; (with_reducible show wpAny _ _ (pyIter (Value.ref _)) (fun it s₂ => TurnsAt _ _ _ _ _ _ _ _ _ it s₂) _ _); refine halt ?_)) | ((k_here; (with_reducible show wpAny _ _ (pyIter (Value.ref _)) (fun it s₂ => TurnsAt _ _ _ _ _ _ _ _ _ it s₂) _ _); refine halt ?_))) | ((with_reducible show wpAny _ _ (exec (Stmt.For _ _ _ _ _) _) _ _ _); ((k_here; (rename Fr _ _ _ _ => lF'); (with_unfolding_all refine' For_turns lF' ?_; k_whole)))) | ((with_reducible show wpAny _ _ (call (Value.builtin "str.find") _ _) _ _ _); first | with_reducible ((k_here; (refine' find4 ?zqi ?zqj ?zqe ?_; (case zqi => exact rfl); (case zqj => assumption); (case zqe => exact Nat.sub_le _ _)); intro t9 k9)) | ((k_here; (refine' find4 ?zqi ?zqj ?zqe ?_; (case zqi => exact rfl); (case zqj => assumption); (case zqe => exact Nat.sub_le _ _)); intro t9 k9))) | ((with_reducible show wpAny _ _ (call (Value.builtin "str.split") _ _) _ _ _); first | with_reducible ((k_here; (refine' split_ws ?zqF ?zqN ?zqh ?zqz ?_; (case zqF => k_asm); (case zqN => k_asm); (case zqh => assumption); (case zqz => assumption)); intro D' t0' tl' vs' h' k' hvs' F' N' l1; (try k_lt l1))) | ((k_here; (refine' split_ws ?zqF ?zqN ?zqh ?zqz ?_; (case zqF => k_asm); (case zqN => k_asm); (case zqh => assumption); (case zqz => assumption)); intro D' t0' tl' vs' h' k' hvs' F' N' l1; (try k_lt l1)))) | ((with_reducible show wpAny _ _ (truthy (Value.str _ _)) _ _ _); first | with_reducible ((k_here; (refine truthy_len (by assumption) (by assumption) ?_); intro _)) | ((k_here; (refine truthy_len (by assumption) (by assumption) ?_); intro _))) | ((with_reducible show wpAny _ _ (call (Value.builtin "len") _ _) _ _ _); first | with_reducible ((k_here; (with_reducible show wpAny _ _ (call (Value.builtin "len") [Value.ref _]) _ _ _); (refine' len_ws ?zql ?zqz ?_; (case zql => exact News.isList (by k_asm) (by first | exact .head _ | exact .tail _ (.head _))); (case zqz => (rw [StrsIn.len (by assumption)]; assumption))))) | ((k_here; (with_reducible show wpAny _ _ (call (Value.builtin "len") [Value.ref _]) _ _ _); (refine' len_ws ?zql ?zqz ?_; (case zql => exact News.isList (by k_asm) (by first | exact .head _ | exact .tail _ (.head _))); (case zqz => (rw [StrsIn.len (by assumption)]; assumption)))))) | ((with_reducible show wpAny _ _ (subscriptTail _ _ (Value.ref _) _) _ _ _); ((k_here; (with_reducible show wpAny _ _ (subscriptTail _ _ (Value.ref _) (Value.int _ _)) _ _ _); k_dflt (first | (refine' kim_list ?zqN ?zqm ?zqc ?zqd ?zqa ?zqb ?zqx ?_; (case zqN => k_asm); (case zqm => first | exact .head _ | exact .tail _ (.head _)); (case zqc => exact rfl); (case zqd => exact rfl); (case zqa => decide); (case zqb => decide); (case zqx => exact rfl)) | (refine' kim_back ?zqN ?zqm ?zqc ?zqd ?zqa ?zql ?zqb ?zqx ?_; (case zqN => k_asm); (case zqm => first | exact .head _ | exact .tail _ (.head _)); (case zqc => exact rfl); (case zqd => exact rfl); (case zqa => decide); (case zqb => decide); (case zqx => exact last_at _ _); (case zql => (simp only [List.length_cons, List.length_append, List.length_singleton, List.length_nil]; omega))))))) | ((with_reducible show wpAny _ _ (storeName _ _ _) _ _ _); ((k_here; k_dflt ((refine' store_let ?zqF ?zqN ?_ ?zqa ?zqb; (case zqF => k_asm); (case zqN => k_asm); (case zqa => rfl); (case zqb => rfl); k_whole; intro m' h' tk' F' N'; (try k_sweep)))))) | walk1 | (dsimp only; walk1) | (leave1; (try dsimp only)) | fail "no step")
    · refine hret _ _ _ _ ⟨rfl, ?_⟩ (by assumption) (fun q hq => (by assumption : News h₀ L _ (_ :: _ :: _ :: rest)) q (.tail _ (.tail _ (.tail _ hq))))
      rw [e1, e2, e3, ← hans, find_none rfl (by assumption)]
      rfl
    · (rename ¬ findAt _ _ _ _ < 0 => hf9)
      obtain ⟨b, hb, hbl, hb2⟩ := find_some hz6 hans hf9
      (rename Fr _ _ _ _ => F9); (rename News _ _ _ _ => N9)
      refine ⟨_, _, _, _, rfl, F9, N9, fun q hq r hr => by rw [List.mem_singleton.mp hr]; exact hI q hq, ⟨.tail _ (.head _), trivial⟩, rem_, b, _, hx, rfl, hI, by rw [← hb]; rfl, ?_, hbl, fun x hx => hml x (.tail _ hx), hb2⟩
      intro y hy
      (repeat (first | exact rfl | (refine (upd_skip hy ?_).trans ?_; (decide))))
end
end Mine
end PartE1
section PartT4
open PySem PySem.Builtin PySem.Builtin.Str
namespace Mine
theorem offT4 : True := by w_top off; trivial
noncomputable abbrev chars (t : Str) : List Nat := t.cps.toList
theorem clen (s : Str) : s.length = (chars s).length := slen s
theorem chars_app (a b : Str) : chars (a ++ b) = chars a ++ chars b := by simp [chars, Str.cps_append]
theorem body_chars (f : Int × Int → Str) : ∀ (l : List (Int × Int)) (h : Str), chars (bodyOf h f l) = chars h ++ l.flatMap fun r => chars (f r)
  | [], h => by simp [bodyOf]
  | r :: l, h => by rw [bodyOf, body_chars f l, chars_app, List.flatMap_cons, List.append_assoc]
/-- the kind of a place, turned -/
noncomputable def tk (turn k : Int) : Int := if k = 6 then 6 else (k + turn).fmod 6
theorem six_fin : ∀ n : Nat, n < 6 → (n : Int) = 0 ∨ (n : Int) = 1 ∨ (n : Int) = 2 ∨ (n : Int) = 3 ∨ (n : Int) = 4 ∨ (n : Int) = 5 := by decide
theorem fmod_six (x : Int) : x.fmod 6 = 0 ∨ x.fmod 6 = 1 ∨ x.fmod 6 = 2 ∨ x.fmod 6 = 3 ∨ x.fmod 6 = 4 ∨ x.fmod 6 = 5 := by
  rw [Int.fmod_eq_emod_of_nonneg _ (by decide)]
  have h1 := Int.emod_nonneg x (show (6 : Int) ≠ 0 by decide)
  have h2 := Int.emod_lt_of_pos x (show (0 : Int) < 6 by decide)
  obtain ⟨n, e⟩ := Int.eq_ofNat_of_zero_le h1
  rw [e] at h2 ⊢
  exact six_fin n (Int.ofNat_lt.mp h2)
theorem tk_ok (turn k : Int) : Ok (tk turn k) := by
  unfold tk
  split
  · decide
  · rcases fmod_six (k + turn) with e | e | e | e | e | e <;> rw [e] <;> decide
theorem tk_six (turn k : Int) : tk turn k = 6 ↔ k = 6 := by
  unfold tk
  split
  · exact ⟨fun _ => by assumption, fun _ => rfl⟩
  · rename_i hk
    refine ⟨fun e => ?_, fun e => absurd e hk⟩
    rcases fmod_six (k + turn) with f | f | f | f | f | f <;> rw [f] at e <;> exact absurd e (by decide)
theorem mod_inj (t a b : Int) (ha : 0 ≤ a) (ha6 : a < 6) (hb : 0 ≤ b) (hb6 : b < 6) (h : (a + t) % 6 = (b + t) % 6) : a = b := by omega
theorem ok_lo {a : Int} (h : Ok a) : 0 ≤ a := by rcases h with rfl | rfl | rfl | rfl | rfl | rfl | rfl <;> decide
theorem ok_hi {a : Int} (h : Ok a) (h6 : a ≠ 6) : a < 6 := by rcases h with rfl | rfl | rfl | rfl | rfl | rfl | rfl <;> first | decide | exact absurd rfl h6
theorem tk_inj (turn a b : Int) (ha : Ok a) (hb : Ok b) (h : tk turn a = tk turn b) : a = b := by
  by_cases a6 : a = 6
  · exact a6.trans ((tk_six turn b).mp (h.symm.trans ((tk_six turn a).mpr a6))).symm
  · have b6 : b ≠ 6 := fun e => a6 ((tk_six turn a).mp (h.trans ((tk_six turn b).mpr e)))
    unfold tk at h
    rw [if_neg a6, if_neg b6, Int.fmod_eq_emod_of_nonneg _ (by decide), Int.fmod_eq_emod_of_nonneg _ (by decide)] at h
    exact mod_inj turn a b (ok_lo ha) (ok_hi ha a6) (ok_lo hb) (ok_hi hb b6) h
noncomputable abbrev kinds (rr : List (Int × Int)) : List Int := rr.map (·.1)
noncomputable def tokG (B : Nat) (D : List Nat) (c : Int) : List Nat := if c = 6 then D else tokL B c
noncomputable abbrev OkD (d : Nat) : Prop := d = 1 ∨ d = 2 ∨ d = 3
theorem okB_of {d : Nat} (hd : OkD d) : OkB (2 ^ d) := by
  rcases hd with rfl | rfl | rfl <;> decide
theorem sign_chars {d : Nat} (hd : d = 0 ∨ OkD d) (gap : Str) {c : Int} (hc : c = 0 ∨ c = 1 ∨ c = 2 ∨ c = 3 ∨ c = 4 ∨ c = 5) : chars (encOf d (signOf c gap)) = tokL (2 ^ d) c := by
  have e : signOf c gap = signOf c Str.empty := by unfold signOf; rw [if_neg (by omega), if_neg (by omega)]
  rw [e]
  rcases hd with rfl | rfl | rfl | rfl <;> rcases hc with rfl | rfl | rfl | rfl | rfl | rfl <;> decide +kernel
noncomputable abbrev gapP : Str := Str.ofString "..."
noncomputable abbrev gapG : Str := Str.ofString "."
theorem gap_chars {d : Nat} (hd : d = 0 ∨ OkD d) : chars (encOf d gapP) = [46, 46, 46] ∧ chars (encOf d gapG) = [46] := by
  rcases hd with rfl | rfl | rfl | rfl <;> decide +kernel
theorem row_chars {d : Nat} (hd : d = 0 ∨ OkD d) (turn : Int) {gap : Str} {D : List Nat} (hg : chars (encOf d gap) = D) (r : Int × Int) : chars (encOf d (rowSign turn gap r)) = tokG (2 ^ d) D (tk turn r.1) := by
  unfold rowSign tokG
  by_cases h : r.1 = 6
  · rw [if_pos h, if_pos ((tk_six turn r.1).mpr h)]; exact hg
  · rw [if_neg h, if_neg (fun e => h ((tk_six turn r.1).mp e))]
    have e : tk turn r.1 = (r.1 + turn).fmod 6 := by unfold tk; rw [if_neg h]
    rw [e]
    exact sign_chars hd gap (fmod_six _)
theorem written_chars {d : Nat} (hd : OkD d) (turn : Int) {gap : Str} {D : List Nat} (hg : chars (encOf d gap) = D) (rr : List (Int × Int)) :
    chars (writtenOf d turn gap rr) = chars (headOf d) ++ ((kinds rr).map (tk turn)).flatMap (tokG (2 ^ d) D) ++ chars (tailOf d) := by
  unfold writtenOf
  rw [chars_app, body_chars]
  refine congrArg (fun z => chars (headOf d) ++ z ++ chars (tailOf d)) ?_
  induction rr with
  | nil => rfl
  | cons r l ih =>
    rw [List.flatMap_cons, ih, row_chars (.inr hd) turn hg]
    rfl
theorem tokG_page (B : Nat) : ∀ l : List Int, l.flatMap (tokG B [46]) = encL B l
  | [] => rfl
  | k :: l => by
    rw [List.flatMap_cons, tokG_page B l, encL_cons]
    refine congrArg (· ++ encL B l) ?_
    unfold tokG
    split
    · rename_i h; rw [h]; simp [tokL]
    · rfl
theorem joinD_map {α : Type} (B : Nat) (D : List Nat) : ∀ l : List Int, joinD D ((segs 6 l).map (encL B)) = l.flatMap (tokG B D)
  | [] => rfl
  | k :: r => by
    have ih := joinD_map (α := α) B D r
    have hn := segs_ne (6 : Int) r
    rw [List.flatMap_cons, ← ih, segs_cons]
    unfold tokG
    by_cases hk : k = 6
    · rw [if_pos hk, if_pos hk]
      cases h : segs 6 r with
      | nil => exact absurd h hn
      | cons p ps => rfl
    · rw [if_neg hk, if_neg hk]
      cases h : segs 6 r with
      | nil => exact absurd h hn
      | cons p ps =>
        cases ps with
        | nil => simp only [List.map_cons, List.map_nil, joinD, encL_cons]
        | cons q ps => simp only [List.map_cons, joinD, encL_cons, List.append_assoc]
theorem segs_self (l : List Int) : joinD [6] (segs 6 l) = l := by rw [segs_join, flat_id]
theorem segs_mem : ∀ (l : List Int), ∀ p ∈ segs 6 l, ∀ k ∈ p, k ∈ l
  | [], p, h, k, hk => by
    simp only [segs, List.mem_singleton] at h
    subst h; cases hk
  | a :: r, p, h, k, hk => by
    have ih := segs_mem r
    rw [segs_cons] at h
    split at h
    · rcases List.mem_cons.mp h with rfl | h
      · cases hk
      · exact .tail _ (ih p h k hk)
    · split at h
      · rw [List.mem_singleton] at h
        subst h
        rw [List.mem_singleton.mp hk]; exact .head _
      · rename_i q ps e
        rw [e] at ih
        rcases List.mem_cons.mp h with rfl | h
        · rcases List.mem_cons.mp hk with rfl | hk
          · exact .head _
          · exact .tail _ (ih q (.head _) k hk)
        · exact .tail _ (ih p (.tail _ h) k hk)
theorem segs_two : ∀ (l : List Int), 6 ∈ l → ∃ p0 ms pl, segs 6 l = p0 :: (ms ++ [pl])
  | [], h => nomatch h
  | k :: r, h => by
    have hn := segs_ne (6 : Int) r
    rw [segs_cons]
    by_cases hk : k = 6
    · rw [if_pos hk]
      exact ⟨[], (segs 6 r).dropLast, (segs 6 r).getLast hn, by rw [List.dropLast_concat_getLast]⟩
    · rw [if_neg hk]
      have h' : 6 ∈ r := (List.mem_cons.mp h).resolve_left fun e => hk e.symm
      obtain ⟨p0, ms, pl, e⟩ := segs_two r h'
      rw [e]
      exact ⟨k :: p0, ms, pl, rfl⟩
theorem segs_one : ∀ (l : List Int), 6 ∉ l → segs 6 l = [l]
  | [], _ => rfl
  | k :: r, h => by
    have hk : k ≠ 6 := fun e => h (by rw [e]; exact .head _)
    rw [segs_cons, if_neg hk, segs_one r fun hm => h (.tail _ hm)]
theorem joinD_edge {α : Type} (D h t : List α) : ∀ (ms : List (List α)) (p0 pl : List α), joinD D ((h ++ p0) :: (ms ++ [pl ++ t])) = h ++ joinD D (p0 :: (ms ++ [pl])) ++ t
  | [], p0, pl => by simp [joinD]
  | m :: ms, p0, pl => by
    have ih := joinD_edge D [] t ms m pl
    rw [List.nil_append, List.nil_append] at ih
    rw [List.cons_append, List.cons_append, joinD_cons D (h ++ p0) (by simp), joinD_cons D p0 (by simp), ih]
    simp [List.append_assoc]
theorem joinD_mem {α : Type} (D : List α) : ∀ {L : List (List α)} {p : List α}, p ∈ L → p.length ≤ (joinD D L).length
  | [q], p, h => by rw [List.mem_singleton.mp h]; exact Nat.le_refl _
  | q :: r :: L, p, h => by
    rw [joinD, List.length_append, List.length_append]
    rcases List.mem_cons.mp h with rfl | h
    · omega
    · have := joinD_mem D h
      omega
theorem no46 {B : Nat} (hB : OkB B) : ∀ {l : List Int}, Oks l → 6 ∉ l → 46 ∉ encL B l
  | [], _, _ => by simp [encL]
  | k :: l, ho, h6 => by
    rw [encL_cons, List.mem_append]
    rintro (h | h)
    · have hk := ho k (.head _)
      rcases hB with rfl | rfl | rfl <;> rcases hk with rfl | rfl | rfl | rfl | rfl | rfl | rfl <;> first | exact absurd (.head _) h6 | (revert h; decide)
    · exact no46 hB (fun a ha => ho a (.tail _ ha)) (fun hm => h6 (.tail _ hm)) h
theorem edge46 {d : Nat} (hd : OkD d) : 46 ∉ chars (headOf d) ∧ 46 ∉ chars (tailOf d) ∧ 0 < (headOf d).length ∧ 0 < (tailOf d).length := by
  rcases hd with rfl | rfl | rfl <;> decide +kernel
theorem dots_chars : chars dots = 46 :: [46, 46] := by decide +kernel
theorem contains_iff (x y : Str) : Txt.contains x y = true ↔ ∃ i, i + y.length ≤ x.length ∧ subAt x y i = true := StrLaws.found_iff x y
theorem strKind_pos (x : Str) : 1 ≤ Builtin.Str.strKind x := by
  unfold Builtin.Str.strKind
  split
  · decide
  · split <;> decide
theorem contains_yes {W : Str} {p : List Nat} {L : List (List Nat)} (hL : L ≠ []) (hs : chars W = joinD (46 :: [46, 46]) (p :: L)) : Txt.contains W dots = true := by
  rw [contains_iff]
  refine ⟨p.length, ?_⟩
  have h := (at_iff (s := W) (sub := dots) (hi := W.length) (i := p.length)).mpr ?_
  · exact h
  · have hl : dots.length = 3 := by decide +kernel
    have hw : W.length = (chars W).length := clen W
    rw [hw, hs, hl, joinD_cons _ _ hL]
    refine ⟨by simp only [List.length_append, List.length_cons, List.length_nil]; omega, ?_⟩
    rw [show W.cps.toList = _ from hs, joinD_cons _ _ hL, List.append_assoc, List.drop_left, show dots.cps.toList = _ from dots_chars]
    exact List.prefix_append _ _
theorem contains_no {W : Str} (h : 46 ∉ chars W) : Txt.contains W dots = false := by
  rw [Bool.eq_false_iff]
  intro hc
  obtain ⟨i, h1, h2⟩ := (contains_iff W dots).mp hc
  refine h ?_
  obtain ⟨_, h3⟩ := (at_iff (s := W) (sub := dots) (hi := W.length) (i := i)).mp ⟨h1, h2⟩
  rw [show dots.cps.toList = _ from dots_chars] at h3
  exact List.mem_of_mem_drop (h3.subset (.head _))
theorem split_parts {W : Str} {p : List Nat} {L : List (List Nat)} (hL : L ≠ []) (hp : ∀ q ∈ p :: L, 46 ∉ q) (hs : chars W = joinD (46 :: [46, 46]) (p :: L)) : Txt.split W dots = (p :: L).map mkS := by
  have hd : dots.cps.toList = 46 :: [46, 46] := dots_chars
  have h1 := occ_segs hd (L := p :: L) (by simp) hp hs
  have h2 := occ_parts hd (L := p :: L) (by simp) hp hs
  have hl : dots.length = 3 := by decide +kernel
  have hw : W.length = (chars W).length := clen W
  have hlen : ¬ W.length < dots.length := by
    rw [hw, hs, hl, joinD_cons _ _ hL]
    simp only [List.length_append, List.length_cons, List.length_nil]; omega
  have hk : ¬ Builtin.Str.strKind W < Builtin.Str.strKind dots := by
    have := strKind_pos W
    rw [show Builtin.Str.strKind dots = 1 from by decide +kernel]; omega
  unfold Txt.split
  rw [decide_eq_false hlen, decide_eq_false hk]
  rw [if_neg (by decide), if_neg, h2]
  rw [h1]
  cases L with
  | nil => exact absurd rfl hL
  | cons q L => simp [cutsOf]
theorem starts_iff {G w : Str} : Txt.startswith G w = true ↔ ∃ r, chars G = chars w ++ r := by
  unfold Txt.startswith
  rw [Bool.and_eq_true, decide_eq_true_eq]
  have h := at_iff (s := G) (sub := w) (hi := G.length) (i := 0)
  unfold StrLaws.At at h
  rw [h, List.drop_zero]
  constructor
  · rintro ⟨_, r, e⟩; exact ⟨r, e.symm⟩
  · rintro ⟨r, e⟩
    refine ⟨?_, r, e.symm⟩
    rw [clen G, clen w, e, List.length_append]; omega
theorem ends_iff {G w : Str} : Txt.endswith G w = true ↔ ∃ r, chars G = r ++ chars w := by
  unfold Txt.endswith
  rw [Bool.and_eq_true, decide_eq_true_eq]
  have hG := clen G
  have hw := clen w
  constructor
  · rintro ⟨h1, h2⟩
    have h := (at_iff (s := G) (sub := w) (hi := G.length) (i := G.length - w.length)).mp ⟨by omega, h2⟩
    obtain ⟨r, e⟩ := h.2
    replace e : chars w ++ r = (chars G).drop (G.length - w.length) := e
    have hl := congrArg List.length e
    rw [List.length_append, List.length_drop] at hl
    have hr : r = [] := List.length_eq_zero_iff.mp (by omega)
    subst hr
    rw [List.append_nil] at e
    exact ⟨(chars G).take (G.length - w.length), by rw [show chars w = _ from e, List.take_append_drop]⟩
  · rintro ⟨r, e⟩
    have hl := congrArg List.length e
    rw [List.length_append] at hl
    have h1 : w.length ≤ G.length := by omega
    refine ⟨by omega, ?_⟩
    refine ((at_iff (s := G) (sub := w) (hi := G.length) (i := G.length - w.length)).mpr ⟨by omega, ?_⟩).2
    rw [show G.cps.toList = _ from e, show G.length - w.length = r.length from by omega, List.drop_left]
    exact List.prefix_rfl
/-- what the walk answers, as a decomposition of the text -/
theorem ell_iff (G w0 wl : Str) (mids : List Str) : (Txt.startswith G w0 && (Txt.endswith G wl && (decide (w0.length + wl.length ≤ G.length) && findAll G mids w0.length (G.length - wl.length)))) = true ↔
    ∃ R, chars G = chars w0 ++ R ++ chars wl ∧ Mids (mids.map chars) R := by
  rw [Bool.and_eq_true, Bool.and_eq_true, Bool.and_eq_true, starts_iff, ends_iff, decide_eq_true_eq]
  have hG := clen G
  have h0 := clen w0
  have hl := clen wl
  constructor
  · rintro ⟨⟨r, e1⟩, ⟨r', e2⟩, h3, h4⟩
    have h5 := (findAll_iff G (G.length - wl.length) (Nat.sub_le _ _) mids w0.length (by omega)).mp h4
    refine ⟨_, ?_, h5⟩
    have ec : (chars G).take (G.length - wl.length) = r' := by
      have hh := congrArg List.length e2
      rw [List.length_append] at hh
      rw [e2, show G.length - wl.length = r'.length from by omega, List.take_left]
    have e6 : chars w0 ++ cut G w0.length (G.length - wl.length) = r' := by
      unfold cut
      rw [show G.cps.toList.take (G.length - wl.length) = r' from ec]
      have e7 : r'.take w0.length = chars w0 := by
        rw [← ec, List.take_take, Nat.min_eq_left (by omega), e1, h0, List.take_left]
      rw [← e7, List.take_append_drop]
    rw [e6]; exact e2
  · rintro ⟨R, e, h⟩
    have hh := congrArg List.length e
    rw [List.length_append, List.length_append] at hh
    refine ⟨⟨R ++ chars wl, by rw [e, List.append_assoc]⟩, ⟨chars w0 ++ R, e⟩, by omega, (findAll_iff G (G.length - wl.length) (Nat.sub_le _ _) mids w0.length (by omega)).mpr ?_⟩
    have : cut G w0.length (G.length - wl.length) = R := by
      unfold cut
      rw [show G.cps.toList = _ from e, show G.length - wl.length = (chars w0 ++ R).length from by rw [List.length_append]; omega, List.take_left, h0, List.drop_left]
    rw [this]; exact h
theorem str_eq {a b : Str} : (a == b) = true ↔ chars a = chars b := by
  rw [beq_iff_eq]
  constructor
  · rintro rfl; rfl
  · intro h; exact Str.ext' (Array.toList_inj.mp h)
theorem oks_tk (turn : Int) (l : List Int) : Oks (l.map (tk turn)) := by
  intro k hk
  obtain ⟨a, _, rfl⟩ := List.mem_map.mp hk
  exact tk_ok turn a
theorem match_tk {turn : Int} {w g : List Int} (hw : Oks w) (hg : Oks g) : Match (w.map (tk turn)) (g.map (tk turn)) ↔ Match w g :=
  match_map (fun k _ => tk_six turn k) (fun a b ha hb h => tk_inj turn a b ha hb h) w g hw hg
/-- no grey: the texts are alike just when the rows fit -/
theorem ell_plain {d : Nat} (hd : OkD d) {turn : Int} {wr gr : List (Int × Int)} (hw : Oks (kinds wr)) (hg : Oks (kinds gr)) (h6 : 6 ∉ kinds wr) :
    Txt.contains (writtenOf d turn gapP wr) dots = false ∧ ((writtenOf d turn gapP wr == writtenOf d turn gapG gr) = true ↔ Match (kinds wr) (kinds gr)) := by
  have hB := okB_of hd
  have h6' : 6 ∉ (kinds wr).map (tk turn) := by
    intro h
    obtain ⟨a, ha, e⟩ := List.mem_map.mp h
    exact h6 ((tk_six turn a).mp e ▸ ha)
  have eW := written_chars hd turn (gap_chars (.inr hd)).1 wr
  have eG := written_chars hd turn (gap_chars (.inr hd)).2 gr
  rw [← joinD_map (α := Nat), segs_one _ h6'] at eW
  rw [tokG_page] at eG
  have eW' : chars (writtenOf d turn gapP wr) = chars (headOf d) ++ encL (2 ^ d) ((kinds wr).map (tk turn)) ++ chars (tailOf d) := eW
  obtain ⟨e1, e2, _, _⟩ := edge46 hd
  refine ⟨contains_no ?_, ?_⟩
  · rw [eW', List.mem_append, List.mem_append]
    rintro ((h | h) | h)
    · exact e1 h
    · exact no46 hB (oks_tk turn _) h6' h
    · exact e2 h
  · rw [str_eq, eW', eG, ← match_tk (turn := turn) hw hg, match_none h6']
    constructor
    · intro h
      have h2 := List.append_cancel_left (List.append_cancel_right h)
      obtain ⟨g2, e, e3⟩ := encPre hB _ _ [] (oks_tk turn (kinds wr)) (oks_tk turn (kinds gr)) (by rw [List.append_nil]; exact h2.symm)
      have := encL_nil hB e3.symm
      rw [e, this, List.append_nil]
    · intro h
      rw [h]
theorem ell_grey {d : Nat} (hd : OkD d) {turn : Int} {wr gr : List (Int × Int)} (hw : Oks (kinds wr)) (hg : Oks (kinds gr)) (h6 : 6 ∈ kinds wr) :
    ∃ w0 wl mids, Txt.contains (writtenOf d turn gapP wr) dots = true ∧ Txt.split (writtenOf d turn gapP wr) dots = w0 :: (mids ++ [wl]) ∧ 0 < w0.length ∧ 0 < wl.length ∧
      ((∃ R, chars (writtenOf d turn gapG gr) = chars w0 ++ R ++ chars wl ∧ Mids (mids.map chars) R) ↔ Match (kinds wr) (kinds gr)) ∧
      (∀ q ∈ w0 :: (mids ++ [wl]), q.length ≤ (writtenOf d turn gapP wr).length) ∧ mids.length ≤ (writtenOf d turn gapP wr).length := by
  have hB := okB_of hd
  have h6' : 6 ∈ (kinds wr).map (tk turn) := List.mem_map.mpr ⟨6, h6, (tk_six turn 6).mpr rfl⟩
  have eW := written_chars hd turn (gap_chars (.inr hd)).1 wr
  have eG := written_chars hd turn (gap_chars (.inr hd)).2 gr
  obtain ⟨p0, ms, pl, es⟩ := segs_two _ h6'
  have hself := segs_self ((kinds wr).map (tk turn))
  have hfree := segs_free (6 : Int) ((kinds wr).map (tk turn))
  have hmem := segs_mem ((kinds wr).map (tk turn))
  rw [es] at hself hfree hmem
  have hok : ∀ p ∈ p0 :: (ms ++ [pl]), Oks p ∧ 6 ∉ p := fun p hp => ⟨fun k hk => oks_tk turn _ k (hmem p hp k hk), hfree p hp⟩
  rw [← joinD_map (α := Nat), es] at eW
  rw [tokG_page] at eG
  have eW' : chars (writtenOf d turn gapP wr) = joinD (46 :: [46, 46]) ((chars (headOf d) ++ encL (2 ^ d) p0) :: (ms.map (encL (2 ^ d)) ++ [encL (2 ^ d) pl ++ chars (tailOf d)])) := by
    rw [joinD_edge, eW]
    simp
  obtain ⟨e1, e2, e3, e4⟩ := edge46 hd
  have hne : ms.map (encL (2 ^ d)) ++ [encL (2 ^ d) pl ++ chars (tailOf d)] ≠ [] := by simp
  have h46 : ∀ q ∈ (chars (headOf d) ++ encL (2 ^ d) p0) :: (ms.map (encL (2 ^ d)) ++ [encL (2 ^ d) pl ++ chars (tailOf d)]), 46 ∉ q := by
    intro q hq
    have en : ∀ p ∈ p0 :: (ms ++ [pl]), 46 ∉ encL (2 ^ d) p := fun p hp => no46 hB (hok p hp).1 (hok p hp).2
    rcases List.mem_cons.mp hq with rfl | hq
    · rw [List.mem_append]
      rintro (h | h)
      · exact e1 h
      · exact en p0 (.head _) h
    · rcases List.mem_append.mp hq with hq | hq
      · obtain ⟨p, hp, rfl⟩ := List.mem_map.mp hq
        exact en p (.tail _ (List.mem_append_left _ hp))
      · rw [List.mem_singleton.mp hq, List.mem_append]
        rintro (h | h)
        · exact en pl (.tail _ (List.mem_append_right _ (.head _))) h
        · exact e2 h
  refine ⟨mkS (chars (headOf d) ++ encL (2 ^ d) p0), mkS (encL (2 ^ d) pl ++ chars (tailOf d)), (ms.map (encL (2 ^ d))).map mkS, contains_yes hne eW', ?_, ?_, ?_, ?_, ?_, ?_⟩
  · rw [split_parts hne h46 eW']
    simp
  · rw [clen]
    rw [clen] at e3
    show 0 < (chars (headOf d) ++ encL (2 ^ d) p0).length
    rw [List.length_append]
    omega
  · rw [clen]
    rw [clen] at e4
    show 0 < (encL (2 ^ d) pl ++ chars (tailOf d)).length
    rw [List.length_append]
    omega
  · rw [← match_tk (turn := turn) hw hg, ← hself, ← glob_match hB (hd := chars (headOf d)) (tl := chars (tailOf d)) (hok p0 (.head _)) (hok pl (.tail _ (List.mem_append_right _ (.head _)))) (fun p hp => hok p (.tail _ (List.mem_append_left _ hp))) (oks_tk turn (kinds gr)), eG]
    rw [show ((ms.map (encL (2 ^ d))).map mkS).map chars = ms.map (encL (2 ^ d)) from by simp [chars, Function.comp_def]]
  · intro q hq
    have hq' : chars q ∈ (chars (headOf d) ++ encL (2 ^ d) p0) :: (ms.map (encL (2 ^ d)) ++ [encL (2 ^ d) pl ++ chars (tailOf d)]) := by
      have := List.mem_map_of_mem (f := chars) hq
      simpa [chars, Function.comp_def] using this
    rw [clen, clen (writtenOf d turn gapP wr), eW']
    exact joinD_mem _ hq'
  · have := joinD_len (D := 46 :: [46, 46]) (by simp) ((chars (headOf d) ++ encL (2 ^ d) p0) :: (ms.map (encL (2 ^ d)) ++ [encL (2 ^ d) pl ++ chars (tailOf d)]))
    rw [← eW', ← clen] at this
    simp only [List.length_cons, List.length_append, List.length_map, List.length_nil] at this ⊢
    omega
end Mine
end PartT4
section PartT5
open PySem PySem.Builtin PySem.Builtin.Str
namespace Mine
theorem offT5 : True := by w_top off; trivial
noncomputable def escC (k : Nat) : List Nat := if k = 92 then [92, 92] else if k = 34 then [92, 34] else [k]
theorem esc_chars (t : Str) : chars (escOf t) = (chars t).flatMap escC := by
  unfold escOf
  have e1 : (Str.ofString "\\").cps.toList = [92] := by decide +kernel
  have e2 : (Str.ofString "\"").cps.toList = [34] := by decide +kernel
  have e3 : (Str.ofString "\\\\").cps.toList = [92, 92] := by decide +kernel
  have e4 : (Str.ofString "\\\"").cps.toList = [92, 34] := by decide +kernel
  show (Txt.replace _ _ _).cps.toList = _
  rw [replace_list e2, replace_list e1, e3, e4, List.flatMap_assoc]
  refine congrArg (fun f => List.flatMap f (chars t)) ?_
  funext k
  unfold escC
  by_cases h1 : k = 92
  · subst h1; decide
  · rw [if_neg h1, if_neg h1]
    by_cases h2 : k = 34
    · subst h2; decide
    · rw [if_neg h2]
      simp [h2]
theorem wrap_chars (t : Str) : chars (wrapOf (Str.ofString "p") t) = [112, 61, 34] ++ (chars t).flatMap escC ++ [34] := by
  unfold wrapOf
  rw [chars_app, chars_app, chars_app, chars_app, esc_chars]
  have e1 : chars Str.empty = [] := rfl
  have e2 : chars (Str.ofString "p") = [112] := by decide +kernel
  have e3 : chars (Str.ofString "=\"") = [61, 34] := by decide +kernel
  have e4 : chars (Str.ofString "\"") = [34] := by decide +kernel
  rw [e1, e2, e3, e4]
  simp
theorem flat_len {f : Nat → List Nat} (h : ∀ k, (f k).length ≤ 2) : ∀ l : List Nat, (l.flatMap f).length ≤ 2 * l.length
  | [] => Nat.le_refl _
  | k :: l => by
    have h1 := h k
    have h2 := flat_len h l
    rw [List.flatMap_cons, List.length_append, List.length_cons]
    omega
theorem escC_len (k : Nat) : (escC k).length ≤ 2 := by
  unfold escC
  split
  · simp
  · split <;> simp
theorem esc_len (t : Str) : (escOf t).length ≤ 2 * t.length := by
  rw [clen, esc_chars, clen t]
  exact flat_len escC_len _
theorem rep_len (t : Str) : (Txt.replace t (Str.ofString "\\") (Str.ofString "\\\\")).length ≤ 2 * t.length := by
  have e1 : (Str.ofString "\\").cps.toList = [92] := by decide +kernel
  have e3 : (Str.ofString "\\\\").cps.toList = [92, 92] := by decide +kernel
  rw [clen, show chars (Txt.replace t _ _) = _ from replace_list e1, clen t]
  refine flat_len (fun k => ?_) _
  split
  · rw [e3]; simp
  · simp
/-- the text of a row, drawn and joined: before any wrapping -/
noncomputable def rawOf (turn : Int) (gap : Str) (rr : List (Int × Int)) : Str := Txt.join Str.empty (rr.map fun r => signOf (turned r.1 turn) gap)
theorem join_empty_chars : ∀ l : List Str, chars (Txt.join Str.empty l) = l.flatMap chars
  | [] => rfl
  | [x] => by
    show chars (glued Str.empty [x]) = _
    rw [StrLaws.glued_eq_join]
    simp [Str.join]
  | x :: y :: l => by
    have ih := join_empty_chars (y :: l)
    show chars (glued Str.empty (x :: y :: l)) = _
    have ih' : chars (glued Str.empty (y :: l)) = (y :: l).flatMap chars := ih
    rw [StrLaws.glued_eq_join] at ih' ⊢
    rw [List.flatMap_cons, ← ih']
    show chars (x ++ Str.empty ++ Str.join Str.empty (y :: l)) = _
    rw [chars_app, chars_app]
    simp [chars, Str.empty]
theorem raw_sign (turn : Int) {gap : Str} {k : Int} (h7 : k ≠ 7) : signOf (turned k turn) gap = rowSign turn gap (k, 0) := by
  unfold rowSign turned
  by_cases h : k = 6
  · rw [if_pos h, if_pos h]; rfl
  · rw [if_neg h, if_neg h7, if_neg h]
theorem enc0 (turn : Int) {gap : Str} (hg : encOf 0 gap = gap) (r : Int × Int) : encOf 0 (rowSign turn gap r) = rowSign turn gap r := by
  unfold rowSign
  by_cases h : r.1 = 6
  · rw [if_pos h]; exact hg
  · rw [if_neg h]
    have e : signOf ((r.1 + turn).fmod 6) gap = signOf ((r.1 + turn).fmod 6) Str.empty := by have := fmod_six (r.1 + turn); unfold signOf; rw [if_neg (by omega), if_neg (by omega)]
    rw [e]
    rcases fmod_six (r.1 + turn) with h | h | h | h | h | h <;> rw [h] <;> decide +kernel
theorem raw_chars (turn : Int) {gap : Str} {D : List Nat} (hg : chars (encOf 0 gap) = D) (he : encOf 0 gap = gap) {rr : List (Int × Int)} (h7 : 7 ∉ kinds rr) : chars (rawOf turn gap rr) = ((kinds rr).map (tk turn)).flatMap (tokG (2 ^ 0) D) := by
  unfold rawOf
  rw [join_empty_chars]
  induction rr with
  | nil => rfl
  | cons r l ih =>
    rw [List.map_cons, List.flatMap_cons, ih fun h => h7 (.tail _ h)]
    have h1 : r.1 ≠ 7 := fun e => h7 (by show 7 ∈ r.1 :: _; rw [e]; exact .head _)
    rw [raw_sign turn h1, show rowSign turn gap (r.1, 0) = rowSign turn gap r from rfl, ← enc0 turn he, row_chars (.inl rfl) turn hg]
    rfl
/-- the text at level n -/
noncomputable def lvl (turn : Int) (gap : Str) (rr : List (Int × Int)) : Nat → Str
  | 0 => rawOf turn gap rr
  | n + 1 => writtenOf (n + 1) turn gap rr
noncomputable def hdN : Nat → List Nat
  | 0 => []
  | n + 1 => chars (headOf (n + 1))
noncomputable def tlN : Nat → List Nat
  | 0 => []
  | n + 1 => chars (tailOf (n + 1))
theorem lvl_chars (turn : Int) {gap : Str} {D : List Nat} {n : Nat} (hn : n ≤ 3) (hg0 : chars (encOf 0 gap) = D) (hg : chars (encOf n gap) = D) (he : encOf 0 gap = gap) {rr : List (Int × Int)} (h7 : 7 ∉ kinds rr) :
    chars (lvl turn gap rr n) = hdN n ++ ((kinds rr).map (tk turn)).flatMap (tokG (2 ^ n) D) ++ tlN n := by
  cases n with
  | zero =>
    show chars (rawOf turn gap rr) = [] ++ _ ++ []
    rw [List.nil_append, List.append_nil]
    exact raw_chars turn hg0 he h7
  | succ n => exact written_chars (by omega) turn hg rr
theorem esc_tok {n : Nat} (hn : n ≤ 2) {D : List Nat} (hD : D = [46, 46, 46] ∨ D = [46]) {c : Int} (hc : Ok c) : (tokG (2 ^ n) D c).flatMap escC = tokG (2 ^ (n + 1)) D c := by
  have : n = 0 ∨ n = 1 ∨ n = 2 := by omega
  rcases this with rfl | rfl | rfl <;> rcases hD with rfl | rfl <;> rcases hc with rfl | rfl | rfl | rfl | rfl | rfl | rfl <;> decide
theorem esc_toks {n : Nat} (hn : n ≤ 2) {D : List Nat} (hD : D = [46, 46, 46] ∨ D = [46]) : ∀ {l : List Int}, Oks l → (l.flatMap (tokG (2 ^ n) D)).flatMap escC = l.flatMap (tokG (2 ^ (n + 1)) D)
  | [], _ => rfl
  | c :: l, h => by
    rw [List.flatMap_cons, List.flatMap_cons, List.flatMap_append, esc_toks hn hD fun k hk => h k (.tail _ hk), esc_tok hn hD (h c (.head _))]
theorem edge_up {n : Nat} (hn : n ≤ 2) : hdN (n + 1) = [112, 61, 34] ++ (hdN n).flatMap escC ∧ tlN (n + 1) = (tlN n).flatMap escC ++ [34] := by
  have : n = 0 ∨ n = 1 ∨ n = 2 := by omega
  rcases this with rfl | rfl | rfl <;> decide +kernel
noncomputable abbrev GapOk (gap : Str) : Prop := gap = gapP ∨ gap = gapG
theorem gap_at {gap : Str} (hg : GapOk gap) {n : Nat} (hn : n ≤ 3) : ∃ D, (D = [46, 46, 46] ∨ D = [46]) ∧ chars (encOf 0 gap) = D ∧ chars (encOf n gap) = D ∧ encOf 0 gap = gap := by
  have : n = 0 ∨ OkD n := by omega
  rcases hg with rfl | rfl
  · exact ⟨_, .inl rfl, (gap_chars (.inl rfl)).1, (gap_chars this).1, by decide +kernel⟩
  · exact ⟨_, .inr rfl, (gap_chars (.inl rfl)).2, (gap_chars this).2, by decide +kernel⟩
theorem lvl_up {turn : Int} {gap : Str} (hg : GapOk gap) {n : Nat} (hn : n ≤ 2) {rr : List (Int × Int)} (h7 : 7 ∉ kinds rr) : wrapOf (Str.ofString "p") (lvl turn gap rr n) = lvl turn gap rr (n + 1) := by
  obtain ⟨D, hD, g0, gn, ge⟩ := gap_at hg (n := n) (by omega)
  obtain ⟨D', hD', g0', gn', ge'⟩ := gap_at hg (n := n + 1) (by omega)
  have eD : D' = D := g0'.symm.trans g0
  subst eD
  refine Str.ext' (Array.toList_inj.mp ?_)
  show chars _ = chars _
  rw [wrap_chars, lvl_chars turn (by omega) g0 gn ge h7, lvl_chars turn (by omega) g0 gn' ge h7, List.flatMap_append, List.flatMap_append, esc_toks hn hD (oks_tk turn _), (edge_up hn).1, (edge_up hn).2]
  simp [List.append_assoc]
theorem tokG_len {B : Nat} (hB : B ≤ 8) {D : List Nat} (hD : D = [46, 46, 46] ∨ D = [46]) (c : Int) : (tokG B D c).length ≤ 8 := by
  unfold tokG tokL
  split
  · rcases hD with rfl | rfl <;> simp
  · (repeat' split) <;> simp <;> omega
theorem toks_len {B : Nat} (hB : B ≤ 8) {D : List Nat} (hD : D = [46, 46, 46] ∨ D = [46]) : ∀ l : List Int, (l.flatMap (tokG B D)).length ≤ 8 * l.length
  | [] => Nat.le_refl _
  | c :: l => by
    have h1 := tokG_len hB hD c
    have h2 := toks_len hB hD l
    rw [List.flatMap_cons, List.length_append, List.length_cons]
    omega
theorem edge_len {n : Nat} (hn : n ≤ 3) : (hdN n).length ≤ 20 ∧ (tlN n).length ≤ 20 := by
  have : n = 0 ∨ n = 1 ∨ n = 2 ∨ n = 3 := by omega
  rcases this with rfl | rfl | rfl | rfl <;> decide +kernel
theorem pow_le {n : Nat} (hn : n ≤ 3) : 2 ^ n ≤ 8 := by
  have : n = 0 ∨ n = 1 ∨ n = 2 ∨ n = 3 := by omega
  rcases this with rfl | rfl | rfl | rfl <;> decide
theorem lvl_len {turn : Int} {gap : Str} (hg : GapOk gap) {n : Nat} (hn : n ≤ 3) {rr : List (Int × Int)} (h7 : 7 ∉ kinds rr) (hl : rr.length ≤ 8) : (lvl turn gap rr n).length ≤ 200 := by
  obtain ⟨D, hD, g0, gn, ge⟩ := gap_at hg hn
  rw [clen, lvl_chars turn hn g0 gn ge h7, List.length_append, List.length_append]
  have h1 := toks_len (pow_le hn) hD ((kinds rr).map (tk turn))
  have h2 := edge_len hn
  rw [List.length_map, List.length_map] at h1
  omega
theorem tokG_ne (B : Nat) (hB : B = 1 ∨ OkB B) {D : List Nat} (hD : D = [46, 46, 46] ∨ D = [46]) (c : Int) : 0 < (tokG B D c).length := by
  unfold tokG tokL
  split
  · rcases hD with rfl | rfl <;> simp
  · rcases hB with rfl | rfl | rfl | rfl <;> (repeat' split) <;> simp
theorem lvl_pos {turn : Int} {gap : Str} (hg : GapOk gap) {n : Nat} (hn : n ≤ 3) {rr : List (Int × Int)} (h7 : 7 ∉ kinds rr) (h0 : rr ≠ []) : 0 < (lvl turn gap rr n).length := by
  obtain ⟨D, hD, g0, gn, ge⟩ := gap_at hg hn
  rw [clen, lvl_chars turn hn g0 gn ge h7, List.length_append, List.length_append]
  cases rr with
  | nil => exact absurd rfl h0
  | cons r l =>
    have hB : 2 ^ n = 1 ∨ OkB (2 ^ n) := by
      have : n = 0 ∨ n = 1 ∨ n = 2 ∨ n = 3 := by omega
      rcases this with rfl | rfl | rfl | rfl <;> decide
    have := tokG_ne (2 ^ n) hB hD (tk turn r.1)
    rw [kinds, List.map_cons, List.map_cons, List.flatMap_cons, List.length_append]
    omega
/-! no sign that a header may not hold -/
theorem clean_of {t : Str} (h : ∀ k ∈ chars t, valBad k = false) : cleanV t := by
  intro i hi
  refine h _ ?_
  rw [Array.getD_eq_getD_getElem?, Array.getElem?_eq_getElem hi]
  exact Array.mem_toList_iff.mpr (Array.getElem_mem hi)
theorem tok_clean {B : Nat} (hB : B = 1 ∨ OkB B) {D : List Nat} (hD : D = [46, 46, 46] ∨ D = [46]) {c : Int} (hc : Ok c) : ∀ k ∈ tokG B D c, valBad k = false := by
  rcases hB with rfl | rfl | rfl | rfl <;> rcases hD with rfl | rfl <;> rcases hc with rfl | rfl | rfl | rfl | rfl | rfl | rfl <;> decide +kernel
theorem edge_clean {n : Nat} (hn : n ≤ 3) : (∀ k ∈ hdN n, valBad k = false) ∧ (∀ k ∈ tlN n, valBad k = false) := by
  have : n = 0 ∨ n = 1 ∨ n = 2 ∨ n = 3 := by omega
  rcases this with rfl | rfl | rfl | rfl <;> decide +kernel
theorem lvl_clean {turn : Int} {gap : Str} (hg : GapOk gap) {n : Nat} (hn : n ≤ 3) {rr : List (Int × Int)} (h7 : 7 ∉ kinds rr) : cleanV (lvl turn gap rr n) := by
  obtain ⟨D, hD, g0, gn, ge⟩ := gap_at hg hn
  have hB : 2 ^ n = 1 ∨ OkB (2 ^ n) := by
    have : n = 0 ∨ n = 1 ∨ n = 2 ∨ n = 3 := by omega
    rcases this with rfl | rfl | rfl | rfl <;> decide
  refine clean_of fun k hk => ?_
  rw [lvl_chars turn hn g0 gn ge h7, List.mem_append, List.mem_append] at hk
  rcases hk with (hk | hk) | hk
  · exact (edge_clean hn).1 k hk
  · obtain ⟨c, hc, hk⟩ := List.mem_flatMap.mp hk
    exact tok_clean hB hD (oks_tk turn _ c hc) k hk
  · exact (edge_clean hn).2 k hk
theorem raw_dirty {turn : Int} {gap : Str} {rr : List (Int × Int)} (h7 : 7 ∈ kinds rr) : dirtyV (rawOf turn gap rr) := by
  obtain ⟨r, hr, e⟩ := List.mem_map.mp h7
  have h10 : 10 ∈ chars (rawOf turn gap rr) := by
    unfold rawOf
    rw [join_empty_chars]
    refine List.mem_flatMap.mpr ⟨_, List.mem_map.mpr ⟨r, hr, rfl⟩, ?_⟩
    have e1 : r.1 = 7 := e
    have e2 : signOf (turned r.1 turn) gap = signOf 7 Str.empty := by rw [e1]; rfl
    rw [e2]
    decide +kernel
  obtain ⟨i, hi, e⟩ := List.getElem_of_mem h10
  have hi' : i < (rawOf turn gap rr).cps.size := by simpa [chars] using hi
  refine ⟨i, hi', ?_⟩
  rw [Array.getD_eq_getD_getElem?, Array.getElem?_eq_getElem hi']
  have e' : (rawOf turn gap rr).cps[i] = 10 := by simpa [chars] using e
  show valBad ((rawOf turn gap rr).cps[i]) = true
  rw [e']
  decide +kernel
theorem sign_len3 (k : Int) {g : Str} (hg : g.length ≤ 3) : (signOf k g).length ≤ 3 := sign_len k hg
theorem raw_len {turn : Int} {gap : Str} (hg : gap.length ≤ 3) {rr : List (Int × Int)} (hl : rr.length ≤ 8) : (rawOf turn gap rr).length ≤ 24 := by
  have key : ∀ l : List (Int × Int), ((l.map fun r => signOf (turned r.1 turn) gap).flatMap chars).length ≤ 3 * l.length := by
    intro l
    induction l with
    | nil => simp
    | cons r l ih =>
      have := sign_len (turned r.1 turn) hg
      rw [clen] at this
      rw [List.map_cons, List.flatMap_cons, List.length_append, List.length_cons]
      omega
  rw [clen, rawOf, join_empty_chars]
  have := key rr
  omega
end Mine
end PartT5
section PartW0
open PySem PySem.W PyProof.Rows
namespace Mine
theorem offW0 : True := by w_top off; trivial
theorem Ctr.mono {w : World} {mean : ExcName → Option Value} {mg mb : Str → Option Value} {f : Addr} {vs : List Value} {news : Led} {D U : Nat} {Ret Ret' : Value → Led → Prop} (C : Ctr w mean mg mb f vs news D U Ret) (h : ∀ v n, Ret v n → Ret' v n) : Ctr w mean mg mb f vs news D U Ret' := by
  intro dp un gd cn cs a ccd cl outer A₀ base h₀ L m s Q E B F X N T hk hd hu hret
  exact C dp un gd cn cs a ccd cl outer A₀ base h₀ L m s Q E B F X N T hk hd hu fun v n h' tk' r => hret v n h' tk' (h v n r)
section
variable (w : World) (mean : ExcName → Option Value) (mg mb : Str → Option Value) (rest : Led)
theorem ell_ctr {d : Nat} (hd : OkD d) (turn : Int) (wr gr : List (Int × Int)) (hw : Oks (kinds wr)) (hg : Oks (kinds gr)) (t1 t2 : Tok) (hz : (writtenOf d turn gapP wr).length ≤ 200) (hz2 : (writtenOf d turn gapG gr).length ≤ 200) :
    Ctr w mean mg mb 45 [.str (writtenOf d turn gapP wr) t1, .str (writtenOf d turn gapG gr) t2] rest 1 8 (fun v news' => news' = rest ∧ ∃ b : Bool, v = .bool b ∧ (b = true ↔ Match (kinds wr) (kinds gr))) := by
  by_cases h6 : 6 ∈ kinds wr
  · obtain ⟨w0, wl, mids, hc, hsp, h0, hl, hm, hq, hml⟩ := ell_grey hd (turn := turn) hw hg h6
    refine Ctr.mono (ell_yes w mean mg mb rest _ (writtenOf d turn gapG gr) w0 wl mids t1 t2 hc hsp h0 hl (by omega) (by omega) (by omega) (fun x hx => ?_) ?_ ?_) ?_
    · have := hq x (.tail _ (List.mem_append_left _ hx)); omega
    · have := hq w0 (.head _); omega
    · have := hq wl (.tail _ (List.mem_append_right _ (.head _))); omega
    · rintro v n ⟨rfl, rfl⟩
      exact ⟨rfl, _, rfl, (ell_iff _ _ _ _).trans hm⟩
  · obtain ⟨hc, hm⟩ := ell_plain hd (turn := turn) hw hg h6
    refine Ctr.mono (ell_no w mean mg mb rest _ (writtenOf d turn gapG gr) t1 t2 hc) ?_
    rintro v n ⟨rfl, rfl⟩
    exact ⟨rfl, _, rfl, hm⟩
end
section
variable (w : World) (mean : ExcName → Option Value) (mg mb : Str → Option Value) (rest : Led)
theorem ell_lvl {i : Nat} (hi : i + 1 ≤ 3) (turn : Int) (wr gr : List (Int × Int)) (bb : Bool) (hbb : bb = true ↔ Match (kinds wr) (kinds gr)) (hw : Oks (kinds wr)) (hg : Oks (kinds gr)) (t1 t2 : Tok) (hz : (lvl turn gapP wr (i + 1)).length ≤ 200) (hz2 : (lvl turn gapG gr (i + 1)).length ≤ 200) :
    Ctr w mean mg mb 45 [.str (lvl turn gapP wr (i + 1)) t1, .str (lvl turn gapG gr (i + 1)) t2] rest 1 8 (fun v news' => news' = rest ∧ v = .bool bb) :=
  Ctr.mono (ell_ctr w mean mg mb rest (d := i + 1) (by omega) turn wr gr hw hg t1 t2 hz hz2) fun v n ⟨e, b, e2, hb⟩ => ⟨e, by rw [e2, Bool.eq_iff_iff.mpr (hb.trans hbb.symm)]⟩
theorem add_hdr (x dx lx : Addr) (its : List Value) (n n2 : Nat) (t0 t1 t2 : Tok) (nm t t' : Str) (he : wrapOf (Str.ofString "p") t = t') (m1 : (x, instObj 226 dx) ∈ rest) (m2 : (dx, dictOf [⟨PyData.keyHash w.params (Str.ofString "_headers"), .str (Str.ofString "_headers") t0, .ref lx⟩] n2) ∈ rest) (off : OwnOff rest [lx])
    (hn : cleanN nm) (hnl : nm.length ≤ 100) (hc : cleanV t) (hz : t.length ≤ 200) (h0 : 0 < t.length) (hi : its.length ≤ 100) :
    CtrK w mean mg mb 223 [.ref x, .str nm t1, .none] [(Str.ofString "p", .str t t2)] ((lx, listOf its.toArray n) :: rest) 4 32 (fun v news' => ∃ T ta tb, v = .none ∧ news' = (T, hdrTup nm t' ta tb) :: (lx, listOf (its ++ [Value.ref T]).toArray (n + 1)) :: rest ∧ lx < T ∧ AllLt T rest) := by
  subst he
  have e1 := rep_len t
  have e2 := esc_len t
  exact add_header w mean mg mb rest x dx lx its n n2 t0 t1 t2 nm t m1 m2 off hn hnl hc (by omega) h0 hi (by unfold cleanN; decide +kernel) (by omega) (by omega)
end
section
variable {prog : Program} {w : World} {A : Around} {E : Value → Shared → Prop} {s : Shared} {env : Env} {h₀ : Heap} {x : Str} {body : List Stmt} {Q : Flow → Shared → Prop}
theorem str_inv {I : Addr} (J : List Str → (Str → Option Value) → Led → Prop)
    (done : ∀ m n h tk, J [] m n → Fr h₀ env.locals h m → News h₀ env.locals h n → Q .next { s with heap := h, toks := tk })
    (turn : ∀ c r m n u it h tk, J (c :: r) m n → Fr h₀ env.locals h (fun y => if y = x then some (.str c u) else m y) → News h₀ env.locals h ((I, it) :: n) →
      wpAny (model prog w) A (execs body env) (UnrPost h₀ env.locals { s with heap := h, toks := tk } I it (J r) Q) E { s with heap := h, toks := tk }) :
    ∀ (l : List Str) m n, J l m n → StrRest prog w A E h₀ env x body Q s I l m n
  | [], m, n, hj => fun h tk F N => done m n h tk hj F N
  | c :: r, m, n, hj => by
    intro u it h tk F N
    refine wpAny_mono (turn c r m n u it h tk hj F N) (fun f s₃ p => ?_) fun _ _ e => e
    have fin : UnrEnd h₀ env.locals { s with heap := h, toks := tk } I it (J r) s₃ → UnrEnd h₀ env.locals { s with heap := h, toks := tk } I it (StrRest prog w A E h₀ env x body Q s I r) s₃ := by
      rintro ⟨h', tk', m', n', e, F', N', ho', r'⟩
      exact ⟨h', tk', m', n', e, F', N', ho', str_inv J done turn r m' n' r'⟩
    cases f with
    | ret v => exact p
    | brk => exact p
    | next => exact fin p
    | cont => exact fin p
theorem for_str {tx : Str} {t : Tok} {l : List Str} {m₀ : Str → Option Value} {p₀ : Addr × Obj} {la : Addr} {lo : Obj} {led : Led} (J : Addr → (Str → Option Value) → Addr → List Str → (Str → Option Value) → Led → Prop)
    (hh : A.handled = none) (F : Fr h₀ env.locals s.heap m₀) (N : News h₀ env.locals s.heap (p₀ :: (la, lo) :: led)) (hx : tx.cps.toList.map (fun c => (⟨#[c]⟩ : Str)) = l)
    (start : ∀ I, (∀ p ∈ (p₀ :: (la, lo) :: led : Led), p.1 < I) → J la m₀ I l m₀ (p₀ :: (la, lo) :: led))
    (done : ∀ I m n h tk, J la m₀ I [] m n → Fr h₀ env.locals h m → News h₀ env.locals h n → Q .next { s with heap := h, toks := tk })
    (turn : ∀ I c r m n u it h tk, J la m₀ I (c :: r) m n → Fr h₀ env.locals h (fun y => if y = x then some (.str c u) else m y) → News h₀ env.locals h ((I, it) :: n) →
      wpAny (model prog w) A (execs body env) (UnrPost h₀ env.locals { s with heap := h, toks := tk } I it (J la m₀ I r) Q) E { s with heap := h, toks := tk }) :
    wpAny (model prog w) A (pyIter (.str tx t)) (fun it s₂ => LoopAtV prog w A h₀ env x body Q E it s₂) E s :=
  iter_strUnr hh F N hx fun I hI => str_inv (J la m₀ I) (done I) (turn I) l m₀ _ (start I hI)
end
noncomputable def abcL : List Str := [Str.ofString "a", Str.ofString "b", Str.ofString "c"]
theorem abc_slice {d : Nat} (hd : OkD d) : (Txt.slice (Str.ofString "abc") none (some (d : Int))).cps.toList.map (fun c => (⟨#[c]⟩ : Str)) = abcL.take d := by
  rcases hd with rfl | rfl | rfl <;> decide +kernel
noncomputable abbrev nmW (c : Str) : Str := Str.ofString "W" ++ c
noncomputable abbrev nmT (c : Str) : Str := Str.ofString "T" ++ c
noncomputable abbrev qW (c : Str) : Str := Str.ofString "w" ++ Txt.upper c
noncomputable abbrev qT (c : Str) : Str := Str.ofString "t" ++ Txt.upper c
noncomputable def hdrs (turn : Int) (wr gr : List (Int × Int)) : Nat → List (Str × Str)
  | 0 => []
  | n + 1 => hdrs turn wr gr n ++ [(nmW (abcL.getD n Str.empty), lvl turn gapP wr (n + 1))] ++ [(nmT (abcL.getD n Str.empty), lvl turn gapG gr (n + 1))]
theorem abc_at {d i : Nat} (hd : OkD d) {c : Str} {r : List Str} (h : c :: r = (abcL.take d).drop i) : i < d ∧ c = abcL.getD i Str.empty ∧ r = (abcL.take d).drop (i + 1) := by
  have hl := congrArg List.length h
  rw [List.length_drop, List.length_take, List.length_cons, show abcL.length = 3 from rfl] at hl
  have hi : i < d := by omega
  have hlt : i < (abcL.take d).length := by rw [List.length_take, show abcL.length = 3 from rfl]; omega
  rw [List.drop_eq_getElem_cons hlt] at h
  injection h with h1 h2
  refine ⟨hi, ?_, h2⟩
  rw [h1, List.getElem_take, List.getD_eq_getElem?_getD, List.getElem?_eq_getElem (by show i < 3; omega)]
  rfl
theorem getOf_app (hs : List (Str × Str)) (q nm t : Str) (h : ∀ p ∈ hs, (Txt.lower p.1 == q) = false) (h2 : (Txt.lower nm == q) = true) : getOf (hs ++ [(nm, t)]) q = some t := by
  unfold getOf
  induction hs with
  | nil => rw [List.nil_append, List.find?_cons_of_pos (by exact h2)]; rfl
  | cons p hs ih =>
    rw [List.cons_append, List.find?_cons_of_neg (by rw [h p (.head _)]; decide)]
    exact ih fun q hq => h q (.tail _ hq)
theorem hdr_names (turn : Int) (wr gr : List (Int × Int)) : ∀ n, ∀ p ∈ hdrs turn wr gr n, ∃ j, j < n ∧ (p.1 = nmW (abcL.getD j Str.empty) ∨ p.1 = nmT (abcL.getD j Str.empty))
  | 0, _, h => nomatch h
  | n + 1, p, h => by
    rw [hdrs, List.mem_append, List.mem_append, List.mem_singleton, List.mem_singleton] at h
    rcases h with (h | h) | h
    · obtain ⟨j, hj, e⟩ := hdr_names turn wr gr n p h
      exact ⟨j, by omega, e⟩
    · exact ⟨n, by omega, .inl (by rw [h])⟩
    · exact ⟨n, by omega, .inr (by rw [h])⟩
theorem names_at {i : Nat} (hi : i < 3) {c : Str} (hc : c = abcL.getD i Str.empty) : cleanN (nmW c) ∧ cleanN (nmT c) ∧ (nmW c).length ≤ 100 ∧ (nmT c).length ≤ 100 ∧ c.length ≤ 1 ∧ (Txt.upper c).length ≤ 1 ∧ Builtin.Str.tooLong (Txt.upper c).length = false ∧
    cleanN (Txt.lower (qW c)) ∧ cleanN (Txt.lower (qT c)) ∧ (Txt.lower (qW c)).length ≤ 10000 ∧ (Txt.lower (qT c)).length ≤ 10000 ∧ Builtin.Str.tooLong (Txt.lower (qW c)).length = false ∧ Builtin.Str.tooLong (Txt.lower (qT c)).length = false ∧
    Builtin.Str.tooLong (Txt.lower (nmW c)).length = false ∧ Builtin.Str.tooLong (Txt.lower (nmT c)).length = false ∧ (Txt.lower (nmW c) == Txt.lower (qW c)) = true ∧ (Txt.lower (nmT c) == Txt.lower (qT c)) = true ∧ (Txt.lower (nmW c) == Txt.lower (qT c)) = false := by
  subst hc
  have : i = 0 ∨ i = 1 ∨ i = 2 := by omega
  unfold cleanN
  rcases this with rfl | rfl | rfl <;> decide +kernel
theorem names_ne {i j : Nat} (hi : i < 3) (hj : j < i) : (Txt.lower (nmW (abcL.getD j Str.empty)) == Txt.lower (qW (abcL.getD i Str.empty))) = false ∧ (Txt.lower (nmT (abcL.getD j Str.empty)) == Txt.lower (qW (abcL.getD i Str.empty))) = false ∧
    (Txt.lower (nmW (abcL.getD j Str.empty)) == Txt.lower (qT (abcL.getD i Str.empty))) = false ∧ (Txt.lower (nmT (abcL.getD j Str.empty)) == Txt.lower (qT (abcL.getD i Str.empty))) = false := by
  have : (i = 1 ∧ j = 0) ∨ (i = 2 ∧ j = 0) ∨ (i = 2 ∧ j = 1) := by omega
  rcases this with ⟨rfl, rfl⟩ | ⟨rfl, rfl⟩ | ⟨rfl, rfl⟩ <;> decide +kernel
theorem gets_at (turn : Int) (wr gr : List (Int × Int)) {i : Nat} (hi : i < 3) {c : Str} (hc : c = abcL.getD i Str.empty) (tw tg : Str) :
    getOf (hdrs turn wr gr i ++ [(nmW c, tw)]) (Txt.lower (qW c)) = some tw ∧ getOf (hdrs turn wr gr i ++ [(nmW c, tw)] ++ [(nmT c, tg)]) (Txt.lower (qT c)) = some tg ∧
    (∀ p ∈ hdrs turn wr gr i ++ [(nmW c, tw)], Builtin.Str.tooLong (Txt.lower p.1).length = false) ∧ (∀ p ∈ hdrs turn wr gr i ++ [(nmW c, tw)] ++ [(nmT c, tg)], Builtin.Str.tooLong (Txt.lower p.1).length = false) := by
  have nc := names_at hi hc
  have key : ∀ p ∈ hdrs turn wr gr i, Builtin.Str.tooLong (Txt.lower p.1).length = false := by
    intro p hp
    obtain ⟨j, hj, e⟩ := hdr_names turn wr gr i p hp
    have nj := names_at (i := j) (by omega) rfl
    rcases e with e | e <;> rw [e]
    · exact nj.2.2.2.2.2.2.2.2.2.2.2.2.2.1
    · exact nj.2.2.2.2.2.2.2.2.2.2.2.2.2.2.1
  have k1 : ∀ p ∈ hdrs turn wr gr i ++ [(nmW c, tw)], Builtin.Str.tooLong (Txt.lower p.1).length = false := by
    intro p hp
    rcases List.mem_append.mp hp with hp | hp
    · exact key p hp
    · rw [List.mem_singleton.mp hp]; exact nc.2.2.2.2.2.2.2.2.2.2.2.2.2.1
  refine ⟨getOf_app _ _ _ _ ?_ nc.2.2.2.2.2.2.2.2.2.2.2.2.2.2.2.1, getOf_app _ _ _ _ ?_ nc.2.2.2.2.2.2.2.2.2.2.2.2.2.2.2.2.1, k1, ?_⟩
  · intro p hp
    obtain ⟨j, hj, e⟩ := hdr_names turn wr gr i p hp
    have nj := names_ne hi hj
    rw [hc]
    rcases e with e | e <;> rw [e]
    · exact nj.1
    · exact nj.2.1
  · intro p hp
    rcases List.mem_append.mp hp with hp | hp
    · obtain ⟨j, hj, e⟩ := hdr_names turn wr gr i p hp
      have nj := names_ne hi hj
      rw [hc]
      rcases e with e | e <;> rw [e]
      · exact nj.2.2.1
      · exact nj.2.2.2
    · rw [List.mem_singleton.mp hp]; exact nc.2.2.2.2.2.2.2.2.2.2.2.2.2.2.2.2.2
  · intro p hp
    rcases List.mem_append.mp hp with hp | hp
    · exact k1 p hp
    · rw [List.mem_singleton.mp hp]; exact nc.2.2.2.2.2.2.2.2.2.2.2.2.2.2.1
theorem HdrsIn.mono {led led' : Led} (hs : ∀ p ∈ led, p ∈ led') : ∀ {vs hh}, HdrsIn led vs hh → HdrsIn led' vs hh
  | _, _, .nil => .nil
  | _, _, .cons h r => .cons (hs _ h) (r.mono hs)
theorem HdrsIn.snoc {led : Led} {T : Addr} {nm t : Str} {ta tb : Tok} : ∀ {vs hh}, HdrsIn led vs hh → (T, hdrTup nm t ta tb) ∈ led → HdrsIn led (vs ++ [.ref T]) (hh ++ [(nm, t)])
  | _, _, .nil, h => .cons h .nil
  | _, _, .cons h r, h' => .cons h (r.snoc h')
theorem news_swap {h₀ h : Heap} {L : Addr} {a b : Addr × Obj} {r : Led} (N : News h₀ L h (a :: b :: r)) : News h₀ L h (b :: a :: r) := by
  intro p hp
  simp only [List.mem_cons] at hp
  rcases hp with rfl | rfl | hp
  · exact N _ (.tail _ (.head _))
  · exact N _ (.head _)
  · exact N _ (.tail _ (.tail _ hp))
theorem off_cons {p : Addr × Obj} {r : Led} {a : Addr} (h : @Ne Nat p.1 a) (h' : OwnOff r [a]) : OwnOff (p :: r) [a] := by
  intro q hq b hb
  rcases List.mem_cons.mp hq with rfl | hq
  · rw [List.mem_singleton.mp hb]; exact h
  · exact h' q hq b hb
theorem off_one {r : Led} {a b : Addr} (h : OwnOff r [a, b]) : OwnOff r [a] := fun q hq c hc => h q hq c (by rw [List.mem_singleton.mp hc]; exact .head _)
/-- what a level's turn asks of its texts and names -/
structure LevelOk (turn : Int) (wr gr : List (Int × Int)) (i : Nat) (c : Str) : Prop where
  i3 : i < 3
  i3' : i + 1 ≤ 3
  upW : wrapOf (Str.ofString "p") (lvl turn gapP wr i) = lvl turn gapP wr (i + 1)
  upG : wrapOf (Str.ofString "p") (lvl turn gapG gr i) = lvl turn gapG gr (i + 1)
  cW : cleanV (lvl turn gapP wr i)
  cG : cleanV (lvl turn gapG gr i)
  zW : (lvl turn gapP wr i).length ≤ 200
  zG : (lvl turn gapG gr i).length ≤ 200
  zW1 : (lvl turn gapP wr (i + 1)).length ≤ 200
  zG1 : (lvl turn gapG gr (i + 1)).length ≤ 200
  pW : 0 < (lvl turn gapP wr i).length
  pG : 0 < (lvl turn gapG gr i).length
  g1 : getOf (hdrs turn wr gr i ++ [(nmW c, lvl turn gapP wr (i + 1))]) (Txt.lower (qW c)) = some (lvl turn gapP wr (i + 1))
  g2 : getOf (hdrs turn wr gr i ++ [(nmW c, lvl turn gapP wr (i + 1))] ++ [(nmT c, lvl turn gapG gr (i + 1))]) (Txt.lower (qT c)) = some (lvl turn gapG gr (i + 1))
  g3 : ∀ p ∈ hdrs turn wr gr i ++ [(nmW c, lvl turn gapP wr (i + 1))], Builtin.Str.tooLong (Txt.lower p.1).length = false
  g4 : ∀ p ∈ hdrs turn wr gr i ++ [(nmW c, lvl turn gapP wr (i + 1))] ++ [(nmT c, lvl turn gapG gr (i + 1))], Builtin.Str.tooLong (Txt.lower p.1).length = false
  k1 : cleanN (nmW c)
  k2 : cleanN (nmT c)
  k3 : (nmW c).length ≤ 100
  k4 : (nmT c).length ≤ 100
  k7 : Builtin.Str.tooLong (Txt.upper c).length = false
  k8 : cleanN (Txt.lower (qW c))
  k9 : cleanN (Txt.lower (qT c))
  k10 : (Txt.lower (qW c)).length ≤ 10000
  k11 : (Txt.lower (qT c)).length ≤ 10000
  k12 : Builtin.Str.tooLong (Txt.lower (qW c)).length = false
  k13 : Builtin.Str.tooLong (Txt.lower (qT c)).length = false
theorem level_ok {turn : Int} {wr gr : List (Int × Int)} {i : Nat} {c : Str} (hi3 : i < 3) (hc : c = abcL.getD i Str.empty) (h7w : 7 ∉ kinds wr) (h7g : 7 ∉ kinds gr) (h0 : wr ≠ [] ∧ gr ≠ []) (hl : wr.length ≤ 8 ∧ gr.length ≤ 8) : LevelOk turn wr gr i c := by
  have hup := lvl_up (turn := turn) (gap := gapP) (.inl rfl) (n := i) (by omega) h7w
  have hug := lvl_up (turn := turn) (gap := gapG) (.inr rfl) (n := i) (by omega) h7g
  have hcw := lvl_clean (turn := turn) (gap := gapP) (.inl rfl) (n := i) (by omega) h7w
  have hcg := lvl_clean (turn := turn) (gap := gapG) (.inr rfl) (n := i) (by omega) h7g
  have hzw := lvl_len (turn := turn) (gap := gapP) (.inl rfl) (n := i) (by omega) h7w hl.1
  have hzg := lvl_len (turn := turn) (gap := gapG) (.inr rfl) (n := i) (by omega) h7g hl.2
  have hzw1 := lvl_len (turn := turn) (gap := gapP) (.inl rfl) (n := i + 1) (by omega) h7w hl.1
  have hzg1 := lvl_len (turn := turn) (gap := gapG) (.inr rfl) (n := i + 1) (by omega) h7g hl.2
  have hpw := lvl_pos (turn := turn) (gap := gapP) (.inl rfl) (n := i) (by omega) h7w h0.1
  have hpg := lvl_pos (turn := turn) (gap := gapG) (.inr rfl) (n := i) (by omega) h7g h0.2
  obtain ⟨g1, g2, g3, g4⟩ := gets_at turn wr gr hi3 hc (lvl turn gapP wr (i + 1)) (lvl turn gapG gr (i + 1))
  obtain ⟨k1, k2, k3, k4, k5, k6, k7, k8, k9, k10, k11, k12, k13, _⟩ := names_at hi3 hc
  exact ⟨hi3, hi3, hup, hug, hcw, hcg, hzw, hzg, hzw1, hzg1, hpw, hpg, g1, g2, g3, g4, k1, k2, k3, k4, k7, k8, k9, k10, k11, k12, k13⟩
end Mine
end PartW0
section PartW1
open PySem PySem.W PyProof.Rows
namespace Mine
theorem offW1 : True := by w_top off; trivial
noncomputable abbrev wpKs : List Str := [Str.ofString "level", Str.ofString "want", Str.ofString "got"]
inductive WrapJ (rest : Led) (lx la : Addr) (turn : Int) (wr gr : List (Int × Int)) (d : Nat) (bb : Bool) (m0 : Str → Option Value) (I : Addr) (l : List Str) (m' : Str → Option Value) (n' : Led) : Prop
  | mk (i : Nat) (its : List Value) (n na : Nat) (R : Led) (tw tg : Tok) (j0 : l = (abcL.take d).drop i) (j1 : i ≤ d) (j2 : n' = (lx, listOf its.toArray n) :: (la, listOf (List.replicate i (Value.bool bb)).toArray na) :: R) (j3 : @LT.lt Nat _ lx la) (j4 : @LT.lt Nat _ la I) (j5 : OwnOff R [lx, la]) (j6 : OwnOff n' [I]) (j7 : (∀ p ∈ rest, p ∈ R)) (j8 : HdrsIn R its (hdrs turn wr gr i)) (j9 : its.length = 2 * i) (j10 : m' (Str.ofString "want") = some (.str (lvl turn gapP wr i) tw)) (j11 : m' (Str.ofString "got") = some (.str (lvl turn gapG gr i) tg)) (j12 : UpdL wpKs m' m0) : WrapJ rest lx la turn wr gr d bb m0 I l m' n'
theorem push_any (l : List Value) (v : Value) : (l ++ [v]).toArray = l.toArray.push v := by simp
theorem push_rep (i : Nat) (v : Value) : (List.replicate i v).toArray.push v = (List.replicate (i + 1) v).toArray := by
  rw [List.replicate_succ']
  exact (push_any _ v).symm
theorem wrap_end {h₀ h' : Heap} {L I T1 T2 lx la : Addr} {it : Obj} {s₁ : Shared} {tk : Nat} {m' m0 : Str → Option Value} {rest R : Led} {turn : Int} {wr gr : List (Int × Int)} {d i : Nat} {bb : Bool} {its : List Value} {n na : Nat} {ta tb tc td tw tg : Tok} {c : Str} {r : List Str}
    (F : Fr h₀ L h' m') (N : News h₀ L h' ((T2, hdrTup (nmT c) (lvl turn gapG gr (i + 1)) tc td) :: (lx, listOf (its ++ [Value.ref T1] ++ [Value.ref T2]).toArray n) :: (T1, hdrTup (nmW c) (lvl turn gapP wr (i + 1)) ta tb) :: (I, it) :: (la, listOf ((List.replicate i (Value.bool bb)).toArray.push (Value.bool bb)) na) :: R))
    (hr : r = (abcL.take d).drop (i + 1)) (hi : i < d) (hc : c = abcL.getD i Str.empty) (h1 : @LT.lt Nat _ lx la) (h2 : @LT.lt Nat _ la I) (h3 : @LT.lt Nat _ I T1) (h4 : @LT.lt Nat _ I T2) (hoff : OwnOff R [lx, la]) (hI : ∀ p ∈ R, @Ne Nat p.1 I) (hsub : ∀ p ∈ rest, p ∈ R) (hh : HdrsIn R its (hdrs turn wr gr i)) (hil : its.length = 2 * i)
    (hw : m' (Str.ofString "want") = some (.str (lvl turn gapP wr (i + 1)) tw)) (hg : m' (Str.ofString "got") = some (.str (lvl turn gapG gr (i + 1)) tg)) (hU : UpdL wpKs m' m0) :
    UnrEnd h₀ L s₁ I it (WrapJ rest lx la turn wr gr d bb m0 I r) { s₁ with heap := h', toks := tk } := by
  have offI : ∀ p ∈ ((lx, listOf (its ++ [Value.ref T1] ++ [Value.ref T2]).toArray n) :: (la, listOf (List.replicate (i + 1) (Value.bool bb)).toArray na) :: (T2, hdrTup (nmT c) (lvl turn gapG gr (i + 1)) tc td) :: (T1, hdrTup (nmW c) (lvl turn gapP wr (i + 1)) ta tb) :: R : Led), @Ne Nat p.1 I := by
    intro p hp
    simp only [List.mem_cons] at hp
    rcases hp with rfl | rfl | rfl | rfl | hp
    · exact Nat.ne_of_lt (Nat.lt_trans h1 h2)
    · exact Nat.ne_of_lt h2
    · exact Nat.ne_of_gt h4
    · exact Nat.ne_of_gt h3
    · exact hI p hp
  refine ⟨h', tk, m', (lx, listOf (its ++ [Value.ref T1] ++ [Value.ref T2]).toArray n) :: (la, listOf (List.replicate (i + 1) (Value.bool bb)).toArray na) :: (T2, hdrTup (nmT c) (lvl turn gapG gr (i + 1)) tc td) :: (T1, hdrTup (nmW c) (lvl turn gapP wr (i + 1)) ta tb) :: R, rfl, F, ?_, offI, i + 1, its ++ [Value.ref T1] ++ [Value.ref T2], n, na, _, tw, tg, hr, hi, rfl, h1, h2, ?_, ?_, fun p hp => .tail _ (.tail _ (hsub p hp)), ?_, ?_, hw, hg, hU⟩
  · intro p hp
    rw [← push_rep] at hp
    refine N p ?_
    simp only [List.mem_cons] at hp ⊢
    rcases hp with h | h | h | h | h | h
    · exact .inr (.inr (.inr (.inl h)))
    · exact .inr (.inl h)
    · exact .inr (.inr (.inr (.inr (.inl h))))
    · exact .inl h
    · exact .inr (.inr (.inl h))
    · exact .inr (.inr (.inr (.inr (.inr h))))
  · intro p hp b hb
    have hb' : b = lx ∨ b = la := by simpa using hb
    simp only [List.mem_cons] at hp
    have hbI : @LT.lt Nat _ b I := hb'.elim (fun e => e ▸ Nat.lt_trans h1 h2) (fun e => e ▸ h2)
    rcases hp with rfl | rfl | hp
    · exact Nat.ne_of_gt (Nat.lt_trans hbI h4)
    · exact Nat.ne_of_gt (Nat.lt_trans hbI h3)
    · exact hoff p hp b hb
  · intro p hp b hb
    rw [List.mem_singleton.mp hb]; exact offI p hp
  · subst hc
    exact ((hh.mono fun p hp => .tail _ (.tail _ hp)).snoc (.tail _ (.head _))).snoc (.head _)
  · simp only [List.length_append, List.length_cons, List.length_nil]; omega
section
variable (w : World) (mean : ExcName → Option Value) (mg mb : Str → Option Value) (rest : Led)
theorem wrapped_ok (x dx lx : Addr) (n n2 : Nat) (t0 : Tok) (d : Nat) (hd : OkD d) (turn : Int) (wr gr : List (Int × Int)) (bb : Bool) (hbb : bb = true ↔ Match (kinds wr) (kinds gr)) (hw : Oks (kinds wr)) (hg : Oks (kinds gr)) (h0 : wr ≠ [] ∧ gr ≠ []) (hl : wr.length ≤ 8 ∧ gr.length ≤ 8) (t1 t2 t3 : Tok) (m1 : (x, instObj 226 dx) ∈ rest) (m2 : (dx, dictOf [⟨PyData.keyHash w.params (Str.ofString "_headers"), .str (Str.ofString "_headers") t0, .ref lx⟩] n2) ∈ rest) (off : OwnOff rest [lx]) :
    Ctr w mean mg mb 272 [.ref x, .str (rawOf turn gapP wr) t1, .str (rawOf turn gapG gr) t2, .int d t3] ((lx, listOf ([] : List Value).toArray n) :: rest) 6 100 (fun v news' => ∃ la its n' na, v = .ref la ∧ (la, listOf (List.replicate d (Value.bool bb)).toArray na) ∈ news' ∧ (lx, listOf its.toArray n') ∈ news' ∧ (∀ p ∈ rest, p ∈ news') ∧ HdrsIn news' its (hdrs turn wr gr d) ∧ its.length ≤ 100) := by
  intro dp un gd cn cs a ccd cl outer A₀ base h₀ L m s Q E B F X N T hk hdp hu hret
  have h7w : 7 ∉ kinds wr := fun h => by have := hw _ h; omega
  have h7g : 7 ∉ kinds gr := fun h => by have := hg _ h; omega
  refine wpAny_call ?_
  k_dflt ktr_enter
  (rename Fr _ _ _ _ => lF9); refine map_let lF9 ?_; clear lF9; intro m9 lF9; refine frame_let ?_; intro A9 env9
  repeat' (first | ((k_unfold); (try dsimp only)) | (k_end; kc_close) | ((with_reducible show wpAny _ _ (call (Value.ref _) _ _) _ _ _); ((k_here; (with_reducible show wpAny _ _ (call (Value.ref 45) [Value.str _ _, Value.str _ _] _) _ _ _); (rename LevelOk _ _ _ _ _ => kp9); k_dflt (refine' use_eq (ell_lvl _ _ _ _ _ ?zqhi _ _ _ _ ?zqhb ?zqhw ?zqhg _ _ ?zqhz ?zqhz2) ?zqB ?zqF ?zqX ?zqN ?zqT ?zqhk ?zqhd ?zqhu ?_; (case zqB => k_asm); (case zqF => k_asm); (case zqX => k_asm); (case zqN => k_asm); (case zqT => k_asm); (case zqhi => exact kp9.i3'); (case zqhb => assumption); (case zqhw => assumption); (case zqhg => assumption); (case zqhz => exact kp9.zW1); (case zqhz2 => exact kp9.zG1); (case zqhk => first | exact rfl | assumption); (case zqhd => first | exact room (by assumption) (by decide) | exact room0 (by assumption) (by decide) | ktr_room); (case zqhu => first | exact room (by assumption) (by decide) | exact room0 (by assumption) (by decide) | ktr_units); intro h9 tk9 F9 N9; (try dsimp only); (try k_sweep); (try k_fold))))) | ((with_reducible show wpAny _ _ (call (Value.ref _) _ _) _ _ _); ((k_here; (with_reducible show wpAny _ _ (call (Value.ref 173) [Value.ref _, Value.str _ _] _) _ _ _); (rename LevelOk _ _ _ _ _ => kp9); k_dflt (refine' useK_val (get_ctr _ _ _ _ _ _ _ _ _ _ _ _ _ _ _ _ ?zqm1 ?zqm2 ?zqhm ?zqhi ?zqhg ?zqhq ?zqhn ?zqhz ?zqhb) ?zqB ?zqF ?zqX ?zqN ?zqT ?zqhk ?zqhd ?zqhu ?_; (case zqB => k_asm); (case zqF => k_asm); (case zqX => k_asm); (case zqN => k_asm); (case zqT => k_asm); (case zqm1 => k_mem); (case zqm2 => k_mem); (case zqhm => first | (with_unfolding_all exact List.Mem.head _) | (refine List.Mem.tail _ ?_; with_unfolding_all exact List.Mem.head _)); (case zqhi => first | exact HdrsIn.snoc (HdrsIn.snoc (HdrsIn.mono (fun q hq => .tail _ (.tail _ (.tail _ (.tail _ (.tail _ hq))))) (by assumption)) (.tail _ (.tail _ (.head _)))) (.head _) | exact HdrsIn.snoc (HdrsIn.mono (fun q hq => .tail _ (.tail _ (.tail _ (.tail _ hq)))) (by assumption)) (.head _)); (case zqhg => with_reducible first | exact kp9.g1 | exact kp9.g2); (case zqhq => with_reducible first | exact kp9.k12 | exact kp9.k13); (case zqhn => with_reducible first | exact kp9.k8 | exact kp9.k9); (case zqhz => with_reducible first | exact kp9.k10 | exact kp9.k11); (case zqhb => with_reducible first | exact kp9.g3 | exact kp9.g4); (case zqhk => first | exact rfl | assumption); (case zqhd => first | exact room (by assumption) (by decide) | exact room0 (by assumption) (by decide) | ktr_room); (case zqhu => first | exact room (by assumption) (by decide) | exact room0 (by assumption) (by decide) | ktr_units); intro h9 tk9 t9 F9 N9; (try dsimp only); (try k_sweep); (try k_fold))))) | ((with_reducible show wpAny _ _ (call (Value.ref _) _ _) _ _ _); ((k_here; (with_reducible show wpAny _ _ (call (Value.ref 223) [Value.ref _, Value.str _ _, Value.none] _) _ _ _); (rename LevelOk _ _ _ _ _ => kp9); k_dflt (refine' ctrK_use (add_hdr _ _ _ _ _ _ _ _ _ _ _ _ _ _ _ _ _ ?zqhe ?zqm1 ?zqm2 ?zqoff ?zqhn ?zqhnl ?zqhc ?zqhz ?zqh0 ?zqhi) ?zqB ?zqF ?zqX ?zqN ?zqT ?zqhk ?zqhd ?zqhu ?_; (case zqB => k_asm); (case zqF => k_asm); (case zqX => k_asm); (case zqN => first | exact news_swap (by k_asm) | (refine news_swap ?_; with_unfolding_all assumption)); (case zqT => k_asm); (case zqm1 => k_mem); (case zqm2 => k_mem); (case zqoff => (repeat (first | exact off_one (by assumption) | refine off_cons (by (show @Ne Nat _ _; omega)) ?_))); (case zqhn => with_reducible first | exact kp9.k1 | exact kp9.k2); (case zqhe => with_reducible first | exact kp9.upW | exact kp9.upG); (case zqhnl => with_reducible first | exact kp9.k3 | exact kp9.k4); (case zqhc => with_reducible first | exact kp9.cW | exact kp9.cG); (case zqhz => with_reducible first | exact kp9.zW | exact kp9.zG); (case zqh0 => with_reducible first | exact kp9.pW | exact kp9.pG); (case zqhi => first | omega | (simp only [List.length_append, List.length_cons, List.length_nil]; omega)); (case zqhk => first | exact rfl | assumption); (case zqhd => first | exact room (by assumption) (by decide) | exact room0 (by assumption) (by decide) | ktr_room); (case zqhu => first | exact room (by assumption) (by decide) | exact room0 (by assumption) (by decide) | ktr_units); intro v9 n9 h9 tk9 R9 F9 N9; obtain ⟨T9, ta9, tb9, e8, e9, l8, l9⟩ := R9; subst e9; (replace l8 : @LT.lt Nat _ _ _ := l8); (try simp only [AllLt] at l9); subst e8; (try dsimp only); (try k_sweep); (try k_fold))))) | ((with_reducible show wpAny _ _ (call (Value.builtin "str.upper") _ _) _ _ _); first | with_reducible ((k_here; (rename LevelOk _ _ _ _ _ => kp9); refine SC.upper (kp9.k7) ?_)) | ((k_here; (rename LevelOk _ _ _ _ _ => kp9); refine SC.upper (kp9.k7) ?_))) | ((with_reducible show wpAny _ _ (exec (Stmt.For _ _ _ _ _) _) _ _ _); ((k_here; (rename Fr _ _ _ _ => lF'); (with_unfolding_all refine' For_invVF lF' ?zqk1 ?zqk2 ?_; (case zqk1 => exact rfl); (case zqk2 => exact rfl); k_whole)))) | ((with_reducible show wpAny _ _ (pyIter (Value.str _ _)) _ _ _); first | with_reducible ((k_here; (with_reducible show wpAny _ _ (pyIter (Value.str _ _)) (fun it s₂ => LoopAtV _ _ _ _ _ _ _ _ _ it s₂) _ _); refine halt ?_)) | ((k_here; (with_reducible show wpAny _ _ (pyIter (Value.str _ _)) (fun it s₂ => LoopAtV _ _ _ _ _ _ _ _ _ it s₂) _ _); refine halt ?_))) | ((with_reducible show wpAny _ _ (storeName _ _ _) _ _ _); ((k_here; k_dflt ((refine' store_let ?zqF ?zqN ?_ ?zqa ?zqb; (case zqF => k_asm); (case zqN => k_asm); (case zqa => rfl); (case zqb => rfl); k_whole; intro m' h' tk' F' N'; (try k_sweep)))))) | walk1 | (dsimp only; walk1) | (leave1; (try dsimp only)) | fail "no step")
  unfold Halt
  (rename News _ _ _ _ => kN)
  (rename _ ∧ AllLt _ rest => kl)
  refine for_str (l := abcL.take d) (fun la => WrapJ rest lx la turn wr gr d bb) rfl (by k_asm) (news_swap kN) (abc_slice hd) ?_ ?_ ?_
  · intro I hI
    have hlt := allLt_mem kl.2
    refine ⟨0, [], n, _, rest, _, _, rfl, Nat.zero_le _, rfl, kl.1, hI _ (.tail _ (.head _)), ?_, ?_, fun _ h => h, .nil, rfl, rfl, rfl, fun _ _ => rfl⟩
    · intro p hp b hb
      rcases List.mem_cons.mp hb with rfl | hb
      · exact off p hp _ (.head _)
      · rw [List.mem_singleton.mp hb]; exact Nat.ne_of_lt (hlt p hp)
    · intro p hp b hb
      rw [List.mem_singleton.mp hb]; exact Nat.ne_of_lt (hI p hp)
  · intro I m n h tk hJ95 F N; (try k_fold); obtain ⟨i, its, n, na, R, tw, tg, hlr, hid, rfl, hla, hlI, hoff, hI, hsub, hhd, hil, hmw, hmg, hU⟩ := hJ95
    have hi : i = d := by
      have := congrArg List.length hlr
      rw [List.length_drop, List.length_take, show abcL.length = 3 from rfl, List.length_nil] at this
      omega
    subst hi
    rw [hU.exE] at F
    dsimp only [chain] at F
    simp only [hmw, hmg] at F
    refine map_let F ?_; clear F; intro m9 F
    repeat' (first | ((k_unfold); (try dsimp only)) | (k_end; kc_close) | ((with_reducible show wpAny _ _ (call (Value.ref _) _ _) _ _ _); ((k_here; (with_reducible show wpAny _ _ (call (Value.ref 45) [Value.str _ _, Value.str _ _] _) _ _ _); (rename LevelOk _ _ _ _ _ => kp9); k_dflt (refine' use_eq (ell_lvl _ _ _ _ _ ?zqhi _ _ _ _ ?zqhb ?zqhw ?zqhg _ _ ?zqhz ?zqhz2) ?zqB ?zqF ?zqX ?zqN ?zqT ?zqhk ?zqhd ?zqhu ?_; (case zqB => k_asm); (case zqF => k_asm); (case zqX => k_asm); (case zqN => k_asm); (case zqT => k_asm); (case zqhi => exact kp9.i3'); (case zqhb => assumption); (case zqhw => assumption); (case zqhg => assumption); (case zqhz => exact kp9.zW1); (case zqhz2 => exact kp9.zG1); (case zqhk => first | exact rfl | assumption); (case zqhd => first | exact room (by assumption) (by decide) | exact room0 (by assumption) (by decide) | ktr_room); (case zqhu => first | exact room (by assumption) (by decide) | exact room0 (by assumption) (by decide) | ktr_units); intro h9 tk9 F9 N9; (try dsimp only); (try k_sweep); (try k_fold))))) | ((with_reducible show wpAny _ _ (call (Value.ref _) _ _) _ _ _); ((k_here; (with_reducible show wpAny _ _ (call (Value.ref 173) [Value.ref _, Value.str _ _] _) _ _ _); (rename LevelOk _ _ _ _ _ => kp9); k_dflt (refine' useK_val (get_ctr _ _ _ _ _ _ _ _ _ _ _ _ _ _ _ _ ?zqm1 ?zqm2 ?zqhm ?zqhi ?zqhg ?zqhq ?zqhn ?zqhz ?zqhb) ?zqB ?zqF ?zqX ?zqN ?zqT ?zqhk ?zqhd ?zqhu ?_; (case zqB => k_asm); (case zqF => k_asm); (case zqX => k_asm); (case zqN => k_asm); (case zqT => k_asm); (case zqm1 => k_mem); (case zqm2 => k_mem); (case zqhm => first | (with_unfolding_all exact List.Mem.head _) | (refine List.Mem.tail _ ?_; with_unfolding_all exact List.Mem.head _)); (case zqhi => first | exact HdrsIn.snoc (HdrsIn.snoc (HdrsIn.mono (fun q hq => .tail _ (.tail _ (.tail _ (.tail _ (.tail _ hq))))) (by assumption)) (.tail _ (.tail _ (.head _)))) (.head _) | exact HdrsIn.snoc (HdrsIn.mono (fun q hq => .tail _ (.tail _ (.tail _ (.tail _ hq)))) (by assumption)) (.head _)); (case zqhg => with_reducible first | exact kp9.g1 | exact kp9.g2); (case zqhq => with_reducible first | exact kp9.k12 | exact kp9.k13); (case zqhn => with_reducible first | exact kp9.k8 | exact kp9.k9); (case zqhz => with_reducible first | exact kp9.k10 | exact kp9.k11); (case zqhb => with_reducible first | exact kp9.g3 | exact kp9.g4); (case zqhk => first | exact rfl | assumption); (case zqhd => first | exact room (by assumption) (by decide) | exact room0 (by assumption) (by decide) | ktr_room); (case zqhu => first | exact room (by assumption) (by decide) | exact room0 (by assumption) (by decide) | ktr_units); intro h9 tk9 t9 F9 N9; (try dsimp only); (try k_sweep); (try k_fold))))) | ((with_reducible show wpAny _ _ (call (Value.ref _) _ _) _ _ _); ((k_here; (with_reducible show wpAny _ _ (call (Value.ref 223) [Value.ref _, Value.str _ _, Value.none] _) _ _ _); (rename LevelOk _ _ _ _ _ => kp9); k_dflt (refine' ctrK_use (add_hdr _ _ _ _ _ _ _ _ _ _ _ _ _ _ _ _ _ ?zqhe ?zqm1 ?zqm2 ?zqoff ?zqhn ?zqhnl ?zqhc ?zqhz ?zqh0 ?zqhi) ?zqB ?zqF ?zqX ?zqN ?zqT ?zqhk ?zqhd ?zqhu ?_; (case zqB => k_asm); (case zqF => k_asm); (case zqX => k_asm); (case zqN => first | exact news_swap (by k_asm) | (refine news_swap ?_; with_unfolding_all assumption)); (case zqT => k_asm); (case zqm1 => k_mem); (case zqm2 => k_mem); (case zqoff => (repeat (first | exact off_one (by assumption) | refine off_cons (by (show @Ne Nat _ _; omega)) ?_))); (case zqhn => with_reducible first | exact kp9.k1 | exact kp9.k2); (case zqhe => with_reducible first | exact kp9.upW | exact kp9.upG); (case zqhnl => with_reducible first | exact kp9.k3 | exact kp9.k4); (case zqhc => with_reducible first | exact kp9.cW | exact kp9.cG); (case zqhz => with_reducible first | exact kp9.zW | exact kp9.zG); (case zqh0 => with_reducible first | exact kp9.pW | exact kp9.pG); (case zqhi => first | omega | (simp only [List.length_append, List.length_cons, List.length_nil]; omega)); (case zqhk => first | exact rfl | assumption); (case zqhd => first | exact room (by assumption) (by decide) | exact room0 (by assumption) (by decide) | ktr_room); (case zqhu => first | exact room (by assumption) (by decide) | exact room0 (by assumption) (by decide) | ktr_units); intro v9 n9 h9 tk9 R9 F9 N9; obtain ⟨T9, ta9, tb9, e8, e9, l8, l9⟩ := R9; subst e9; (replace l8 : @LT.lt Nat _ _ _ := l8); (try simp only [AllLt] at l9); subst e8; (try dsimp only); (try k_sweep); (try k_fold))))) | ((with_reducible show wpAny _ _ (call (Value.builtin "str.upper") _ _) _ _ _); first | with_reducible ((k_here; (rename LevelOk _ _ _ _ _ => kp9); refine SC.upper (kp9.k7) ?_)) | ((k_here; (rename LevelOk _ _ _ _ _ => kp9); refine SC.upper (kp9.k7) ?_))) | ((with_reducible show wpAny _ _ (exec (Stmt.For _ _ _ _ _) _) _ _ _); ((k_here; (rename Fr _ _ _ _ => lF'); (with_unfolding_all refine' For_invVF lF' ?zqk1 ?zqk2 ?_; (case zqk1 => exact rfl); (case zqk2 => exact rfl); k_whole)))) | ((with_reducible show wpAny _ _ (pyIter (Value.str _ _)) _ _ _); first | with_reducible ((k_here; (with_reducible show wpAny _ _ (pyIter (Value.str _ _)) (fun it s₂ => LoopAtV _ _ _ _ _ _ _ _ _ it s₂) _ _); refine halt ?_)) | ((k_here; (with_reducible show wpAny _ _ (pyIter (Value.str _ _)) (fun it s₂ => LoopAtV _ _ _ _ _ _ _ _ _ it s₂) _ _); refine halt ?_))) | ((with_reducible show wpAny _ _ (storeName _ _ _) _ _ _); ((k_here; k_dflt ((refine' store_let ?zqF ?zqN ?_ ?zqa ?zqb; (case zqF => k_asm); (case zqN => k_asm); (case zqa => rfl); (case zqb => rfl); k_whole; intro m' h' tk' F' N'; (try k_sweep)))))) | walk1 | (dsimp only; walk1) | (leave1; (try dsimp only)) | fail "no step")
    refine hret _ _ _ _ ⟨_, its, n, na, rfl, .tail _ (.head _), .head _, fun p hp => .tail _ (.tail _ (hsub p hp)), hhd.mono fun p hp => .tail _ (.tail _ hp), by omega⟩ (by assumption) (by assumption)
  · intro I c r m n u it h tk hJ99 F N; (try k_fold); obtain ⟨i, its, n, na, R, tw, tg, hlr, hid, rfl, hla, hlI, hoff, hI, hsub, hhd, hil, hmw, hmg, hU⟩ := hJ99
    obtain ⟨hi, hc, hr⟩ := abc_at hd hlr
    have hi3 : i < 3 := by omega
    have lok := level_ok (turn := turn) hi3 hc h7w h7g h0 hl
    have hcl : c.length ≤ 1 := (names_at hi3 hc).2.2.2.2.1
    have hcu : (Txt.upper c).length ≤ 1 := (names_at hi3 hc).2.2.2.2.2.1
    have hrl : (List.replicate i (Value.bool bb)).length ≤ 100 := by rw [List.length_replicate]; omega
    have m1' := hsub _ m1
    have m2' := hsub _ m2
    rw [hU.exE] at F
    dsimp only [chain] at F
    simp only [hmw, hmg] at F
    refine map_let F ?_; clear F; intro m9 F
    clear hd
    repeat' (first | ((k_unfold); (try dsimp only)) | (k_end; kc_close) | ((with_reducible show wpAny _ _ (call (Value.ref _) _ _) _ _ _); ((k_here; (with_reducible show wpAny _ _ (call (Value.ref 45) [Value.str _ _, Value.str _ _] _) _ _ _); (rename LevelOk _ _ _ _ _ => kp9); k_dflt (refine' use_eq (ell_lvl _ _ _ _ _ ?zqhi _ _ _ _ ?zqhb ?zqhw ?zqhg _ _ ?zqhz ?zqhz2) ?zqB ?zqF ?zqX ?zqN ?zqT ?zqhk ?zqhd ?zqhu ?_; (case zqB => k_asm); (case zqF => k_asm); (case zqX => k_asm); (case zqN => k_asm); (case zqT => k_asm); (case zqhi => exact kp9.i3'); (case zqhb => assumption); (case zqhw => assumption); (case zqhg => assumption); (case zqhz => exact kp9.zW1); (case zqhz2 => exact kp9.zG1); (case zqhk => first | exact rfl | assumption); (case zqhd => first | exact room (by assumption) (by decide) | exact room0 (by assumption) (by decide) | ktr_room); (case zqhu => first | exact room (by assumption) (by decide) | exact room0 (by assumption) (by decide) | ktr_units); intro h9 tk9 F9 N9; (try dsimp only); (try k_sweep); (try k_fold))))) | ((with_reducible show wpAny _ _ (call (Value.ref _) _ _) _ _ _); ((k_here; (with_reducible show wpAny _ _ (call (Value.ref 173) [Value.ref _, Value.str _ _] _) _ _ _); (rename LevelOk _ _ _ _ _ => kp9); k_dflt (refine' useK_val (get_ctr _ _ _ _ _ _ _ _ _ _ _ _ _ _ _ _ ?zqm1 ?zqm2 ?zqhm ?zqhi ?zqhg ?zqhq ?zqhn ?zqhz ?zqhb) ?zqB ?zqF ?zqX ?zqN ?zqT ?zqhk ?zqhd ?zqhu ?_; (case zqB => k_asm); (case zqF => k_asm); (case zqX => k_asm); (case zqN => k_asm); (case zqT => k_asm); (case zqm1 => k_mem); (case zqm2 => k_mem); (case zqhm => first | (with_unfolding_all exact List.Mem.head _) | (refine List.Mem.tail _ ?_; with_unfolding_all exact List.Mem.head _)); (case zqhi => first | exact HdrsIn.snoc (HdrsIn.snoc (HdrsIn.mono (fun q hq => .tail _ (.tail _ (.tail _ (.tail _ (.tail _ hq))))) (by assumption)) (.tail _ (.tail _ (.head _)))) (.head _) | exact HdrsIn.snoc (HdrsIn.mono (fun q hq => .tail _ (.tail _ (.tail _ (.tail _ hq)))) (by assumption)) (.head _)); (case zqhg => with_reducible first | exact kp9.g1 | exact kp9.g2); (case zqhq => with_reducible first | exact kp9.k12 | exact kp9.k13); (case zqhn => with_reducible first | exact kp9.k8 | exact kp9.k9); (case zqhz => with_reducible first | exact kp9.k10 | exact kp9.k11); (case zqhb => with_reducible first | exact kp9.g3 | exact kp9.g4); (case zqhk => first | exact rfl | assumption); (case zqhd => first | exact room (by assumption) (by decide) | exact room0 (by assumption) (by decide) | ktr_room); (case zqhu => first | exact room (by assumption) (by decide) | exact room0 (by assumption) (by decide) | ktr_units); intro h9 tk9 t9 F9 N9; (try dsimp only); (try k_sweep); (try k_fold))))) | ((with_reducible show wpAny _ _ (call (Value.ref _) _ _) _ _ _); ((k_here; (with_reducible show wpAny _ _ (call (Value.ref 223) [Value.ref _, Value.str _ _, Value.none] _) _ _ _); (rename LevelOk _ _ _ _ _ => kp9); k_dflt (refine' ctrK_use (add_hdr _ _ _ _ _ _ _ _ _ _ _ _ _ _ _ _ _ ?zqhe ?zqm1 ?zqm2 ?zqoff ?zqhn ?zqhnl ?zqhc ?zqhz ?zqh0 ?zqhi) ?zqB ?zqF ?zqX ?zqN ?zqT ?zqhk ?zqhd ?zqhu ?_; (case zqB => k_asm); (case zqF => k_asm); (case zqX => k_asm); (case zqN => first | exact news_swap (by k_asm) | (refine news_swap ?_; with_unfolding_all assumption)); (case zqT => k_asm); (case zqm1 => k_mem); (case zqm2 => k_mem); (case zqoff => (repeat (first | exact off_one (by assumption) | refine off_cons (by (show @Ne Nat _ _; omega)) ?_))); (case zqhn => with_reducible first | exact kp9.k1 | exact kp9.k2); (case zqhe => with_reducible first | exact kp9.upW | exact kp9.upG); (case zqhnl => with_reducible first | exact kp9.k3 | exact kp9.k4); (case zqhc => with_reducible first | exact kp9.cW | exact kp9.cG); (case zqhz => with_reducible first | exact kp9.zW | exact kp9.zG); (case zqh0 => with_reducible first | exact kp9.pW | exact kp9.pG); (case zqhi => first | omega | (simp only [List.length_append, List.length_cons, List.length_nil]; omega)); (case zqhk => first | exact rfl | assumption); (case zqhd => first | exact room (by assumption) (by decide) | exact room0 (by assumption) (by decide) | ktr_room); (case zqhu => first | exact room (by assumption) (by decide) | exact room0 (by assumption) (by decide) | ktr_units); intro v9 n9 h9 tk9 R9 F9 N9; obtain ⟨T9, ta9, tb9, e8, e9, l8, l9⟩ := R9; subst e9; (replace l8 : @LT.lt Nat _ _ _ := l8); (try simp only [AllLt] at l9); subst e8; (try dsimp only); (try k_sweep); (try k_fold))))) | ((with_reducible show wpAny _ _ (call (Value.builtin "str.upper") _ _) _ _ _); first | with_reducible ((k_here; (rename LevelOk _ _ _ _ _ => kp9); refine SC.upper (kp9.k7) ?_)) | ((k_here; (rename LevelOk _ _ _ _ _ => kp9); refine SC.upper (kp9.k7) ?_))) | ((with_reducible show wpAny _ _ (exec (Stmt.For _ _ _ _ _) _) _ _ _); ((k_here; (rename Fr _ _ _ _ => lF'); (with_unfolding_all refine' For_invVF lF' ?zqk1 ?zqk2 ?_; (case zqk1 => exact rfl); (case zqk2 => exact rfl); k_whole)))) | ((with_reducible show wpAny _ _ (pyIter (Value.str _ _)) _ _ _); first | with_reducible ((k_here; (with_reducible show wpAny _ _ (pyIter (Value.str _ _)) (fun it s₂ => LoopAtV _ _ _ _ _ _ _ _ _ it s₂) _ _); refine halt ?_)) | ((k_here; (with_reducible show wpAny _ _ (pyIter (Value.str _ _)) (fun it s₂ => LoopAtV _ _ _ _ _ _ _ _ _ it s₂) _ _); refine halt ?_))) | ((with_reducible show wpAny _ _ (storeName _ _ _) _ _ _); ((k_here; k_dflt ((refine' store_let ?zqF ?zqN ?_ ?zqa ?zqb; (case zqF => k_asm); (case zqN => k_asm); (case zqa => rfl); (case zqb => rfl); k_whole; intro m' h' tk' F' N'; (try k_sweep)))))) | walk1 | (dsimp only; walk1) | (leave1; (try dsimp only)) | fail "no step")
    exact wrap_end (by assumption) (by assumption) hr hi hc hla hlI (by omega) (by omega) hoff (fun p hp => hI p (.tail _ (.tail _ hp)) I (.head _)) hsub hhd hil rfl rfl (by intro y hy; (repeat (first | exact rfl | (refine (upd_skip hy ?_).trans ?_; (decide)))))
end
end Mine
end PartW1
section PartW2
open PySem PySem.W PyProof.Rows
namespace Mine
theorem offW2 : True := by w_top off; trivial
section
open PySem.Calls
variable {prog : Program} {w : World} {A₀ A : Around} {s : Shared} {base h₀ : Heap} {env : Env} {L : Addr} {m : Str → Option Value} {news : Led} {K : Frag} {p : Program} {loose : List Str} {mean : ExcName → Option Value} {mg mb : Str → Option Value}
    {R : Result → Shared → Prop} {name qual : Str} {params : Arguments} {body : List Stmt} {scope : Scope} {dV kV doc pm cdv ct oc : Value} {an od : Option Addr} {osl : Array (Option Value)} {f : Addr} {args : Args} {binds : List (Str × Value)}
/-- a def with a try of its own, called from the lowest frame, whatever that frame's cells -/
theorem enter_try (B : Below A₀ base [] h₀) (F : Fr h₀ L s.heap m) (X₀ : K.In h₀) (N : News h₀ L s.heap news) (T : Top p loose mean mg mb h₀) (hA : A.frames = some [env]) (hf : env.frame = some L) (hke : env.scope.kind = .function)
    (ho : K.lookup f = some ⟨oc, od, .func (fnOf name qual params body scope dV kV doc pm an cdv ct), osl⟩) (hcd : codeIn K cdv qual = true) (hroom : A.depth < recursionLimit)
    (hbind : BindsTo s (fnOf name qual params body scope dV kV doc pm an cdv ct) args binds) (hloc : ∀ y ∈ binds, scope.names.lookup y.1 = some .local)
    (h : ∀ g L' h₁, Fr h₀ L g m → Fr g L' h₁ (fun y => binds.reverse.lookup y) → News g L' h₁ news → Below A base [env] g → K.In g → Top p loose mean mg mb g → KtsDicts ([env].filterMap (·.frame)) g →
      wpAny (model prog w) (A.deeper (envOf qual scope L' f cdv)) (execs body (envOf qual scope L' f cdv))
        (fun fl s' => LeaveS0 ([env].filterMap (·.frame)) h₀ L m g R (match fl with | .ret v => v | _ => .none) s')
        (fun e s' => wpAny (model prog w) (A.deeper (envOf qual scope L' f cdv)) (leaving (envOf qual scope L' f cdv) e) (fun _ s'' => R (.error e) s'') (fun e' s'' => R (.error e') s'') s')
        { s with heap := h₁, toks := s.toks + binds.length })
    (hco : scope.isCoroutine = false) (hgen : scope.isGenerator = false) (hk : scope.kind = .function)
    (hcell : ∀ x ∈ scope.names, x.2 ≠ .cell) : codeAny (model prog w) A (.call (.ref f) args) R s := by
  obtain ⟨FG, BG, st, _⟩ := groundX (R := R) B F N hA hf hke
  have X := X₀.keeps F.keep
  have hfr : [env].filterMap (·.frame) = [L] := by simp [hf]
  have nL₀ : h₀.get? L = none := kts_self F
  obtain ⟨oL, es, ep, hLg, hLd, hLk, hLf⟩ := FG.ns
  refine codeAny_call_def (fd := fnOf name qual params body scope dV kV doc pm an cdv ct) (body := body) (binds := binds) hroom (X _ _ ho) rfl (T.nolimit.keeps F.keep) (codeRec_of X hcd) rfl hbind hcell hloc (fun h₁ hns hk₁ => ?_) hco hgen hk
  have start := h _ s.heap.objs.size h₁ FG ⟨hns, fun b o e => hk₁ b o (of_hideAll _ e), Nat.le_of_eq (hideAll_size _ _)⟩
    (fun p hp => ⟨hk₁ _ _ (N p hp).1, Nat.ne_of_lt (Heap.lt_size (N p hp).1), hideAll_none _ (List.mem_map_of_mem hp)⟩) BG (X₀.keeps st) (T.keeps st) (fun b hb => by
      rw [hfr, List.mem_singleton] at hb
      subst hb
      exact ⟨oL, es, ep, hLg, hLd⟩)
  refine wpAny_mono start (fun fl s' hl => ?_) fun _ _ y => y
  obtain ⟨g', L', m', news', T', F', N', k⟩ := hl
  obtain ⟨sl, hs⟩ := T'.up hLg
  refine k ⟨⟨_, es, ep, F'.keep _ _ hs, hLd, hLk, hLf⟩, fun b o e => F'.keep b o (T'.other b o (st b o e) fun q => ?_), F.above⟩ fun p hp => ⟨(N' p hp).1, fun q => ?_, ?_⟩
  · rw [hfr, List.mem_singleton] at q
    rw [q, nL₀] at e
    cases e
  · have := (N' p hp).2.2
    rw [q, hs] at this
    cases this
  · cases q : h₀.get? p.1 with
    | none => rfl
    | some o =>
      obtain ⟨sl', hs'⟩ := T'.up (st _ _ q)
      have := (N' p hp).2.2
      rw [hs'] at this
      cases this
end
end Mine
end PartW2
section PartW3
open PySem PySem.W PyProof.Rows
namespace Mine
theorem offW3 : True := by w_top off; trivial
/-- a contract for the lowest frame's calls alone -/
noncomputable abbrev Ctr0 (w : World) (mean : ExcName → Option Value) (mg mb : Str → Option Value) (f : Addr) (vs : List Value) (news : Led) (D U : Nat) (Ret : Value → Led → Prop) : Prop :=
  ∀ (dp un : Nat) (gd : Option (List Code)) (cn : Str) (cs : Scope) (a : Addr) (ccd : Value) (cl : List (Str × Addr)) (A₀ : Around) (base h₀ : Heap) (L : Addr) (m : Str → Option Value) (s : Shared) (Q E : Value → Shared → Prop),
    Below A₀ base [] h₀ → Fr h₀ L s.heap m → (Mine.hd.heap_1 w.params).In h₀ → News h₀ L s.heap news → Top Mine.view lawLoose mean mg mb h₀ → (Mine.hd.heap_1 w.params).In base → Top Mine.view lawLoose mean mg mb base → cs.kind = .function →
    dp + D < recursionLimit → un + U < cLine →
    (∀ v news' h' tk', Ret v news' → Fr h₀ L h' m → News h₀ L h' news' → Q v { s with heap := h', toks := tk' }) →
    wpAny (model lawProg w) (ktrTop dp un gd cn cs L a ccd cl []) (call (.ref f) vs) Q E s
theorem noBool_match : typeLookup (.type "re.Match") "__bool__" = pure none := by rw [typeLookup_type, builtinLookup_eq_fast]; kernel_rfl
theorem noLen_match : typeLookup (.type "re.Match") "__len__" = pure none := by rw [typeLookup_type, builtinLookup_eq_fast]; kernel_rfl
theorem truthy_match {prog : Program} {w : World} {A : Around} {E : Value → Shared → Prop} {s : Shared} {h₀ : Heap} {L t : Addr} {news : Led} {vs : Array Value} {Q : Bool → Shared → Prop} (N : News h₀ L s.heap news) (hm : (t, (⟨.type "re.Match", none, .fields vs, #[]⟩ : Obj)) ∈ news) (h : Q true s) :
    wpAny (model prog w) A (truthy (.ref t)) Q E s := by
  have hT : s.TypeIs (.ref t) "re.Match" := ⟨_, (N _ hm).1, rfl⟩
  unfold truthy
  first
    | refine wpAny_bind (wpAny_callSpecial?_none (name := Str.ofString "__bool__") hT noBool_match ?_)
    | refine wpAny_bind (wpAny_pure (wpAny_bind (wpAny_callSpecial?_none (name := Str.ofString "__bool__") hT noBool_match ?_)))
  first
    | exact wpAny_bind (wpAny_specialOf (name := Str.ofString "__len__") hT noLen_match (wpAny_pure h))
    | exact wpAny_bind (wpAny_pure (wpAny_bind (wpAny_specialOf (name := Str.ofString "__len__") hT noLen_match (wpAny_pure h))))
noncomputable def RawJ (d : Nat) (n0 : Led) (m0 : Str → Option Value) (I : Addr) (l : List Str) (m' : Str → Option Value) (n' : Led) : Prop := l = abcL.take d ∧ m' = m0 ∧ n' = n0 ∧ ∀ p ∈ n0, @LT.lt Nat _ p.1 I
theorem abc_first {d : Nat} (hd : OkD d) : abcL.take d ≠ [] ∧ ∀ c r, c :: r = abcL.take d → c = Str.ofString "a" := by
  rcases hd with rfl | rfl | rfl
  · exact ⟨by decide, fun c r h => (List.cons.inj h).1⟩
  · exact ⟨by decide, fun c r h => (List.cons.inj h).1⟩
  · exact ⟨by decide, fun c r h => (List.cons.inj h).1⟩
section
variable {prog : Program} {w : World} {A : Around} {E : Value → Shared → Prop} {s : Shared} {env : Env} {h₀ : Heap} {x : Str} {body : List Stmt} {Q : Flow → Shared → Prop}
theorem for_strN {tx : Str} {t : Tok} {l : List Str} {m₀ : Str → Option Value} {news : Led} (J : Led → (Str → Option Value) → Addr → List Str → (Str → Option Value) → Led → Prop)
    (hh : A.handled = none) (F : Fr h₀ env.locals s.heap m₀) (N : News h₀ env.locals s.heap news) (hx : tx.cps.toList.map (fun c => (⟨#[c]⟩ : Str)) = l)
    (start : ∀ I, (∀ p ∈ news, p.1 < I) → J news m₀ I l m₀ news)
    (done : ∀ I m n h tk, J news m₀ I [] m n → Fr h₀ env.locals h m → News h₀ env.locals h n → Q .next { s with heap := h, toks := tk })
    (turn : ∀ I c r m n u it h tk, J news m₀ I (c :: r) m n → Fr h₀ env.locals h (fun y => if y = x then some (.str c u) else m y) → News h₀ env.locals h ((I, it) :: n) →
      wpAny (model prog w) A (execs body env) (UnrPost h₀ env.locals { s with heap := h, toks := tk } I it (J news m₀ I r) Q) E { s with heap := h, toks := tk }) :
    wpAny (model prog w) A (pyIter (.str tx t)) (fun it s₂ => LoopAtV prog w A h₀ env x body Q E it s₂) E s :=
  iter_strUnr hh F N hx fun I hI => str_inv (J news m₀ I) (done I) (turn I) l m₀ news (start I hI)
end
section
variable (w : World) (mean : ExcName → Option Value) (mg mb : Str → Option Value) (rest : Led)
theorem wrapped_bw (x dx lx : Addr) (n n2 : Nat) (t0 : Tok) (d : Nat) (hd : OkD d) (W G : Str) (hW : dirtyV W) (hz : W.length ≤ 24) (t1 t2 t3 : Tok) (m1 : (x, instObj 226 dx) ∈ rest) (m2 : (dx, dictOf [⟨PyData.keyHash w.params (Str.ofString "_headers"), .str (Str.ofString "_headers") t0, .ref lx⟩] n2) ∈ rest) (off : OwnOff rest [lx]) :
    Ctr0 w mean mg mb 272 [.ref x, .str W t1, .str G t2, .int d t3] ((lx, listOf ([] : List Value).toArray n) :: rest) 8 100 (fun v news' => ∃ la na t, v = .ref la ∧ (la, listOf [Value.str (Str.ofString "refused") t].toArray na) ∈ news' ∧ (lx, listOf ([] : List Value).toArray n) ∈ news' ∧ (∀ p ∈ rest, p ∈ news')) := by
  intro dp un gd cn cs a ccd cl A₀ base h₀ L m s Q E B F X N T XB TB hk hdp hu hret
  refine wpAny_call ?_
  k_dflt (refine' enter_try ?k1 ?k2 ?k3 ?k4 ?k5 ?kA ?kF ?kK ?k6 ?k7 ?k8 ?k9 ?kB ?_ ?c2 ?c3 ?c4 ?c5; (case kA => exact rfl); (case kF => exact rfl); (case kK => assumption); (case k1 => k_asm); (case k2 => k_asm); (case k3 => k_asm); (case k4 => k_asm); (case k5 => k_asm); (case k6 => k_is); (case k7 => k_is); (case k8 => ktr_room); (case k9 => exact BindsTo.of_eq rfl); (case c5 => decide); (case kB => exact locs rfl); (case c2 => exact rfl); (case c3 => exact rfl); (case c4 => exact rfl); k_whole; intro g' L' h' FG' F' N' B' X' T' D'; (try dsimp only); (try k_fold))
  repeat' (first | ((k_unfold); (try dsimp only)) | (k_end; kc_close) | ((with_reducible show wpAny _ _ (exec (Stmt.For (PySem.Expr.Tuple _ _ _) (PySem.Expr.Call _ _ _ _) _ _ _) _) _ _ _); ((k_here; ((rename Fr _ _ _ _ => lF'); (rename News _ _ _ _ => lN'); (with_unfolding_all ((refine' For_turns lF' ?_); k_whole; (refine MethodCall_ ?_); (refine ld lF' (by rfl) ?_); (refine kdl_method (knd := PySem.strKind _ _) PySem.F.slot_dict_items PySem.F.type_dict_items lN' (by k_mem) (by k_asm) ?_); (refine callWith_method0 ?_); (refine kta_callItems (knd := PySem.strKind _ _) lF' lN' (by k_mem) (by k_asm) (by k_asm) ?_); intro h' hv' F' N'; (refine kta_items (knd := PySem.strKind _ _) (enc := PyData.str) (xs := [Itm.pair (fun t => Value.str (Str.ofString "p") t) (Value.str _ _)]) (by rfl) F' N' hv' (by k_mem) (by k_asm) (fun _ _ h => Value.isStrOf_shape h) (by rfl) ?_)); clear lF' lN'; intro i' l1; (try k_lt l1)))))) | ((with_reducible show wpAny _ _ (call (Value.ref _) _ _) _ _ _); ((k_here; (with_reducible show wpAny _ _ (call (Value.ref 223) [Value.ref _, Value.str _ _, Value.none] _) _ _ _); k_dflt (refine wpAny_call ?_; refine' kp_more ?zqk1 ?zqk2 ?zqk3 ?zqk4 ?zqk5 ?zqkA ?zqkF ?zqkK ?zqk6 ?zqk7 ?zqk8 ?zqkX ?zqkM ?zqkN ?zqkD ?zqkR ?zqkP ?zqkT ?zqkB ?_ ?zqc2 ?zqc3 ?zqc4 ?zqc5; (case zqkA => exact rfl); (case zqkF => exact rfl); (case zqkK => first | assumption | exact rfl); (case zqk1 => k_asm); (case zqk2 => k_asm); (case zqk3 => k_asm); (case zqk4 => k_asm); (case zqk5 => k_asm); (case zqk6 => k_is); (case zqk7 => k_is); (case zqk8 => ktr_room); (case zqkX => kp_lit); (case zqkM => exact rfl); (case zqkN => exact rfl); (case zqkD => kp_flats); (case zqkR => exact rfl); (case zqkP => exact rfl); (case zqkT => exact fun _ => rfl); (case zqkB => exact fun _ => locs rfl); (case zqc5 => decide); (case zqc2 => exact rfl); (case zqc3 => exact rfl); (case zqc4 => exact rfl); k_whole; intro D' o' g' L' h' tk' l1 lo' hs' fs' FG' F' N' B' X' T'; (try k_lt l1); (try dsimp only); (try k_fold))))) | ((with_reducible show wpAny _ _ (call (Value.ref _) _ _) _ _ _); ((k_here; (with_reducible show wpAny _ _ (call (Value.ref 125) [Value.ref _, Value.str _ _] _) _ _ _); k_dflt (refine' useK_val (conv_name _ _ _ _ _ _ (Str.ofString "p") _ ?zqhc ?zqhz) ?zqB ?zqF ?zqX ?zqN ?zqT ?zqhk ?zqhd ?zqhu ?_; (case zqhc => unfold cleanN; decide +kernel); (case zqhz => decide); (case zqB => k_asm); (case zqF => k_asm); (case zqX => k_asm); (case zqN => k_asm); (case zqT => k_asm); (case zqhk => first | exact rfl | assumption); (case zqhd => first | exact room (by assumption) (by decide) | exact room0 (by assumption) (by decide) | ktr_room); (case zqhu => first | exact room (by assumption) (by decide) | exact room0 (by assumption) (by decide) | ktr_units); intro h9 tk9 t9 F9 N9; (try dsimp only); (try k_sweep); (try k_fold))))) | ((with_reducible show wpAny _ _ (call (Value.ref _) _ _) _ _ _); ((k_here; (with_reducible show wpAny _ _ (call (Value.ref 125) [Value.ref _, Value.str _ _] _) _ _ _); k_dflt (refine wpAny_call ?_; refine' code_def ?zqk1 ?zqk2 ?zqk3 ?zqk4 ?zqk5 ?zqkA ?zqkF ?zqkK ?zqk6 ?zqk7 ?zqk8 ?zqk9 ?zqkB ?_ ?zqc2 ?zqc3 ?zqc4 ?zqc5; (case zqkA => exact rfl); (case zqkF => exact rfl); (case zqkK => first | assumption | exact rfl); (case zqk1 => k_asm); (case zqk2 => k_asm); (case zqk3 => k_asm); (case zqk4 => k_asm); (case zqk5 => k_asm); (case zqk6 => k_is); (case zqk7 => k_is); (case zqk8 => ktr_room); (case zqk9 => first | exact BindsTo.of_eq rfl | exact binds_K (by k_in) rfl (by k_is) rfl rfl rfl | fail "no rule for these arguments"); (case zqc5 => decide); (case zqkB => exact locs rfl); (case zqc2 => exact rfl); (case zqc3 => exact rfl); (case zqc4 => exact rfl); k_whole; intro g' L' h' FG' F' N' B' X' T'; (try dsimp only); (try k_fold))))) | ((with_reducible show wpAny _ _ (exec (Stmt.For _ _ _ _ _) _) _ _ _); ((k_here; (rename Fr _ _ _ _ => lF'); (with_unfolding_all refine' For_invVF lF' ?zqk1 ?zqk2 ?_; (case zqk1 => exact rfl); (case zqk2 => exact rfl); k_whole)))) | ((with_reducible show wpAny _ _ (pyIter (Value.str _ _)) _ _ _); first | with_reducible ((k_here; (with_reducible show wpAny _ _ (pyIter (Value.str _ _)) (fun it s₂ => LoopAtV _ _ _ _ _ _ _ _ _ it s₂) _ _); refine halt ?_)) | ((k_here; (with_reducible show wpAny _ _ (pyIter (Value.str _ _)) (fun it s₂ => LoopAtV _ _ _ _ _ _ _ _ _ it s₂) _ _); refine halt ?_))) | ((with_reducible show wpAny _ _ (call (Value.builtin "re.Pattern.search") _ _) _ _ _); first | with_reducible ((k_here; (refine' val_dirty ?zqF ?zqX ?zqN ?zqh ?zqz ?_; (case zqF => k_asm); (case zqX => k_asm); (case zqN => k_asm); (case zqh => assumption); (case zqz => size_fits)); intro D9 h9 vs9 F9 N9 l9; (try k_lt l9))) | ((k_here; (refine' val_dirty ?zqF ?zqX ?zqN ?zqh ?zqz ?_; (case zqF => k_asm); (case zqX => k_asm); (case zqN => k_asm); (case zqh => assumption); (case zqz => size_fits)); intro D9 h9 vs9 F9 N9 l9; (try k_lt l9)))) | ((with_reducible show wpAny _ _ (getMethod (Value.ref _) _ _) _ _ _); first | with_reducible ((k_here; first | ((with_reducible show wpAny _ _ (getMethod (Value.ref 95) _ _) _ _ _); refine' method95 ?zqF ?zqX ?_; (case zqF => k_asm); (case zqX => k_asm)) | ((with_reducible show wpAny _ _ (getMethod (Value.ref 90) _ _) _ _ _); refine' method90 ?zqF ?zqX ?_; (case zqF => k_asm); (case zqX => k_asm)))) | ((k_here; first | ((with_reducible show wpAny _ _ (getMethod (Value.ref 95) _ _) _ _ _); refine' method95 ?zqF ?zqX ?_; (case zqF => k_asm); (case zqX => k_asm)) | ((with_reducible show wpAny _ _ (getMethod (Value.ref 90) _ _) _ _ _); refine' method90 ?zqF ?zqX ?_; (case zqF => k_asm); (case zqX => k_asm))))) | ((with_reducible show wpAny _ _ (truthy (Value.ref _)) _ _ _); first | with_reducible ((k_here; (with_reducible show wpAny _ _ (truthy (Value.ref _)) _ _ _); (refine truthy_match (by k_asm) (.head _) ?_))) | ((k_here; (with_reducible show wpAny _ _ (truthy (Value.ref _)) _ _ _); (refine truthy_match (by k_asm) (.head _) ?_)))) | ((with_reducible show wpAny _ _ (storeName _ _ _) _ _ _); ((k_here; k_dflt ((refine' store_let ?zqF ?zqN ?_ ?zqa ?zqb; (case zqF => k_asm); (case zqN => k_asm); (case zqa => rfl); (case zqb => rfl); k_whole; intro m' h' tk' F' N'; (try k_sweep)))))) | walk1 | (dsimp only; walk1) | (leave1; (try dsimp only)) | fail "no step")
  unfold Halt
  (rename News _ _ _ _ => kN)
  (rename _ ∧ AllLt _ rest => kl)
  refine for_strN (l := abcL.take d) (fun led => RawJ d led) rfl (by k_asm) (news_swap kN) (abc_slice hd) ?_ ?_ ?_
  · intro I hI
    exact ⟨rfl, rfl, rfl, hI⟩
  · intro I m n h tk hJ95 F N; (try k_fold); obtain ⟨hl, _⟩ := hJ95
    exact absurd hl.symm (abc_first hd).1
  · intro I c r m n u it h tk hJ99 F N; (try k_fold); obtain ⟨hl, rfl, rfl, hI⟩ := hJ99
    obtain rfl := (abc_first hd).2 c r hl
    have hlI := hI _ (.head _)
    have hlI2 := hI _ (.tail _ (.head _))
    dsimp only at hlI hlI2
    clear hd
    repeat' (first | ((k_unfold); (try dsimp only)) | (k_end; kc_close) | ((with_reducible show wpAny _ _ (exec (Stmt.For (PySem.Expr.Tuple _ _ _) (PySem.Expr.Call _ _ _ _) _ _ _) _) _ _ _); ((k_here; ((rename Fr _ _ _ _ => lF'); (rename News _ _ _ _ => lN'); (with_unfolding_all ((refine' For_turns lF' ?_); k_whole; (refine MethodCall_ ?_); (refine ld lF' (by rfl) ?_); (refine kdl_method (knd := PySem.strKind _ _) PySem.F.slot_dict_items PySem.F.type_dict_items lN' (by k_mem) (by k_asm) ?_); (refine callWith_method0 ?_); (refine kta_callItems (knd := PySem.strKind _ _) lF' lN' (by k_mem) (by k_asm) (by k_asm) ?_); intro h' hv' F' N'; (refine kta_items (knd := PySem.strKind _ _) (enc := PyData.str) (xs := [Itm.pair (fun t => Value.str (Str.ofString "p") t) (Value.str _ _)]) (by rfl) F' N' hv' (by k_mem) (by k_asm) (fun _ _ h => Value.isStrOf_shape h) (by rfl) ?_)); clear lF' lN'; intro i' l1; (try k_lt l1)))))) | ((with_reducible show wpAny _ _ (call (Value.ref _) _ _) _ _ _); ((k_here; (with_reducible show wpAny _ _ (call (Value.ref 223) [Value.ref _, Value.str _ _, Value.none] _) _ _ _); k_dflt (refine wpAny_call ?_; refine' kp_more ?zqk1 ?zqk2 ?zqk3 ?zqk4 ?zqk5 ?zqkA ?zqkF ?zqkK ?zqk6 ?zqk7 ?zqk8 ?zqkX ?zqkM ?zqkN ?zqkD ?zqkR ?zqkP ?zqkT ?zqkB ?_ ?zqc2 ?zqc3 ?zqc4 ?zqc5; (case zqkA => exact rfl); (case zqkF => exact rfl); (case zqkK => first | assumption | exact rfl); (case zqk1 => k_asm); (case zqk2 => k_asm); (case zqk3 => k_asm); (case zqk4 => k_asm); (case zqk5 => k_asm); (case zqk6 => k_is); (case zqk7 => k_is); (case zqk8 => ktr_room); (case zqkX => kp_lit); (case zqkM => exact rfl); (case zqkN => exact rfl); (case zqkD => kp_flats); (case zqkR => exact rfl); (case zqkP => exact rfl); (case zqkT => exact fun _ => rfl); (case zqkB => exact fun _ => locs rfl); (case zqc5 => decide); (case zqc2 => exact rfl); (case zqc3 => exact rfl); (case zqc4 => exact rfl); k_whole; intro D' o' g' L' h' tk' l1 lo' hs' fs' FG' F' N' B' X' T'; (try k_lt l1); (try dsimp only); (try k_fold))))) | ((with_reducible show wpAny _ _ (call (Value.ref _) _ _) _ _ _); ((k_here; (with_reducible show wpAny _ _ (call (Value.ref 125) [Value.ref _, Value.str _ _] _) _ _ _); k_dflt (refine' useK_val (conv_name _ _ _ _ _ _ (Str.ofString "p") _ ?zqhc ?zqhz) ?zqB ?zqF ?zqX ?zqN ?zqT ?zqhk ?zqhd ?zqhu ?_; (case zqhc => unfold cleanN; decide +kernel); (case zqhz => decide); (case zqB => k_asm); (case zqF => k_asm); (case zqX => k_asm); (case zqN => k_asm); (case zqT => k_asm); (case zqhk => first | exact rfl | assumption); (case zqhd => first | exact room (by assumption) (by decide) | exact room0 (by assumption) (by decide) | ktr_room); (case zqhu => first | exact room (by assumption) (by decide) | exact room0 (by assumption) (by decide) | ktr_units); intro h9 tk9 t9 F9 N9; (try dsimp only); (try k_sweep); (try k_fold))))) | ((with_reducible show wpAny _ _ (call (Value.ref _) _ _) _ _ _); ((k_here; (with_reducible show wpAny _ _ (call (Value.ref 125) [Value.ref _, Value.str _ _] _) _ _ _); k_dflt (refine wpAny_call ?_; refine' code_def ?zqk1 ?zqk2 ?zqk3 ?zqk4 ?zqk5 ?zqkA ?zqkF ?zqkK ?zqk6 ?zqk7 ?zqk8 ?zqk9 ?zqkB ?_ ?zqc2 ?zqc3 ?zqc4 ?zqc5; (case zqkA => exact rfl); (case zqkF => exact rfl); (case zqkK => first | assumption | exact rfl); (case zqk1 => k_asm); (case zqk2 => k_asm); (case zqk3 => k_asm); (case zqk4 => k_asm); (case zqk5 => k_asm); (case zqk6 => k_is); (case zqk7 => k_is); (case zqk8 => ktr_room); (case zqk9 => first | exact BindsTo.of_eq rfl | exact binds_K (by k_in) rfl (by k_is) rfl rfl rfl | fail "no rule for these arguments"); (case zqc5 => decide); (case zqkB => exact locs rfl); (case zqc2 => exact rfl); (case zqc3 => exact rfl); (case zqc4 => exact rfl); k_whole; intro g' L' h' FG' F' N' B' X' T'; (try dsimp only); (try k_fold))))) | ((with_reducible show wpAny _ _ (exec (Stmt.For _ _ _ _ _) _) _ _ _); ((k_here; (rename Fr _ _ _ _ => lF'); (with_unfolding_all refine' For_invVF lF' ?zqk1 ?zqk2 ?_; (case zqk1 => exact rfl); (case zqk2 => exact rfl); k_whole)))) | ((with_reducible show wpAny _ _ (pyIter (Value.str _ _)) _ _ _); first | with_reducible ((k_here; (with_reducible show wpAny _ _ (pyIter (Value.str _ _)) (fun it s₂ => LoopAtV _ _ _ _ _ _ _ _ _ it s₂) _ _); refine halt ?_)) | ((k_here; (with_reducible show wpAny _ _ (pyIter (Value.str _ _)) (fun it s₂ => LoopAtV _ _ _ _ _ _ _ _ _ it s₂) _ _); refine halt ?_))) | ((with_reducible show wpAny _ _ (call (Value.builtin "re.Pattern.search") _ _) _ _ _); first | with_reducible ((k_here; (refine' val_dirty ?zqF ?zqX ?zqN ?zqh ?zqz ?_; (case zqF => k_asm); (case zqX => k_asm); (case zqN => k_asm); (case zqh => assumption); (case zqz => size_fits)); intro D9 h9 vs9 F9 N9 l9; (try k_lt l9))) | ((k_here; (refine' val_dirty ?zqF ?zqX ?zqN ?zqh ?zqz ?_; (case zqF => k_asm); (case zqX => k_asm); (case zqN => k_asm); (case zqh => assumption); (case zqz => size_fits)); intro D9 h9 vs9 F9 N9 l9; (try k_lt l9)))) | ((with_reducible show wpAny _ _ (getMethod (Value.ref _) _ _) _ _ _); first | with_reducible ((k_here; first | ((with_reducible show wpAny _ _ (getMethod (Value.ref 95) _ _) _ _ _); refine' method95 ?zqF ?zqX ?_; (case zqF => k_asm); (case zqX => k_asm)) | ((with_reducible show wpAny _ _ (getMethod (Value.ref 90) _ _) _ _ _); refine' method90 ?zqF ?zqX ?_; (case zqF => k_asm); (case zqX => k_asm)))) | ((k_here; first | ((with_reducible show wpAny _ _ (getMethod (Value.ref 95) _ _) _ _ _); refine' method95 ?zqF ?zqX ?_; (case zqF => k_asm); (case zqX => k_asm)) | ((with_reducible show wpAny _ _ (getMethod (Value.ref 90) _ _) _ _ _); refine' method90 ?zqF ?zqX ?_; (case zqF => k_asm); (case zqX => k_asm))))) | ((with_reducible show wpAny _ _ (truthy (Value.ref _)) _ _ _); first | with_reducible ((k_here; (with_reducible show wpAny _ _ (truthy (Value.ref _)) _ _ _); (refine truthy_match (by k_asm) (.head _) ?_))) | ((k_here; (with_reducible show wpAny _ _ (truthy (Value.ref _)) _ _ _); (refine truthy_match (by k_asm) (.head _) ?_)))) | ((with_reducible show wpAny _ _ (storeName _ _ _) _ _ _); ((k_here; k_dflt ((refine' store_let ?zqF ?zqN ?_ ?zqa ?zqb; (case zqF => k_asm); (case zqN => k_asm); (case zqa => rfl); (case zqb => rfl); k_whole; intro m' h' tk' F' N'; (try k_sweep)))))) | walk1 | (dsimp only; walk1) | (leave1; (try dsimp only)) | fail "no step")
    (rename News h₀ _ _ _ => kN2)
    refine' hret _ _ _ _ ⟨_, _, _, rfl, ?a1, ?a2, ?a3⟩ ?a4 ?a5
    case a5 => exact kN2
    case a4 => assumption
    case a1 => (repeat first | with_unfolding_all exact List.Mem.head _ | refine List.Mem.tail _ ?_)
    case a2 => (repeat first | with_unfolding_all exact List.Mem.head _ | refine List.Mem.tail _ ?_)
    case a3 => (intro p hp; (repeat first | exact hp | refine List.Mem.tail _ ?_))
end
end Mine
end PartW3
section PartW4
open PySem PySem.W PyProof.Rows
namespace Mine
theorem offW4 : True := by w_top off; trivial
theorem off_two {r : Led} {a b : Addr} (h : OwnOff r [a]) (h' : ∀ p ∈ r, p.1 < b) : OwnOff r [a, b] := by
  intro p hp c hc
  rcases List.mem_cons.mp hc with rfl | hc
  · exact h p hp _ (.head _)
  · rw [List.mem_singleton.mp hc]; exact Nat.ne_of_lt (h' p hp)
section
variable (w : World) (mean : ExcName → Option Value) (mg mb : Str → Option Value) (rest : Led)
theorem wrapped_bg (x dx lx : Addr) (n n2 : Nat) (t0 : Tok) (d : Nat) (hd : OkD d) (turn : Int) (wr : List (Int × Int)) (hw : Oks (kinds wr)) (h0 : wr ≠ []) (hl : wr.length ≤ 8) (G : Str) (hG : dirtyV G) (hz : G.length ≤ 24) (t1 t2 t3 : Tok) (m1 : (x, instObj 226 dx) ∈ rest) (m2 : (dx, dictOf [⟨PyData.keyHash w.params (Str.ofString "_headers"), .str (Str.ofString "_headers") t0, .ref lx⟩] n2) ∈ rest) (off : OwnOff rest [lx]) :
    Ctr0 w mean mg mb 272 [.ref x, .str (lvl turn gapP wr 0) t1, .str G t2, .int d t3] ((lx, listOf ([] : List Value).toArray n) :: rest) 8 100 (fun v news' => ∃ la na t T ta tb n', v = .ref la ∧ (la, listOf [Value.str (Str.ofString "refused") t].toArray na) ∈ news' ∧ (lx, listOf [Value.ref T].toArray n') ∈ news' ∧ (T, hdrTup (nmW (Str.ofString "a")) (lvl turn gapP wr 1) ta tb) ∈ news' ∧ (∀ p ∈ rest, p ∈ news')) := by
  intro dp un gd cn cs a ccd cl A₀ base h₀ L m s Q E B F X N T XB TB hk hdp hu hret
  have h7w : 7 ∉ kinds wr := fun h => by have := hw _ h; omega
  refine wpAny_call ?_
  k_dflt (refine' enter_try ?k1 ?k2 ?k3 ?k4 ?k5 ?kA ?kF ?kK ?k6 ?k7 ?k8 ?k9 ?kB ?_ ?c2 ?c3 ?c4 ?c5; (case kA => exact rfl); (case kF => exact rfl); (case kK => assumption); (case k1 => k_asm); (case k2 => k_asm); (case k3 => k_asm); (case k4 => k_asm); (case k5 => k_asm); (case k6 => k_is); (case k7 => k_is); (case k8 => ktr_room); (case k9 => exact BindsTo.of_eq rfl); (case c5 => decide); (case kB => exact locs rfl); (case c2 => exact rfl); (case c3 => exact rfl); (case c4 => exact rfl); k_whole; intro g' L' h' FG' F' N' B' X' T' D'; (try dsimp only); (try k_fold))
  repeat' (first | ((k_unfold); (try dsimp only)) | (k_end; kc_close) | ((with_reducible show wpAny _ _ (exec (Stmt.For (PySem.Expr.Tuple _ _ _) (PySem.Expr.Call _ _ _ _) _ _ _) _) _ _ _); ((k_here; ((rename Fr _ _ _ _ => lF'); (rename News _ _ _ _ => lN'); (with_unfolding_all ((refine' For_turns lF' ?_); k_whole; (refine MethodCall_ ?_); (refine ld lF' (by rfl) ?_); (refine kdl_method (knd := PySem.strKind _ _) PySem.F.slot_dict_items PySem.F.type_dict_items lN' (by k_mem) (by k_asm) ?_); (refine callWith_method0 ?_); (refine kta_callItems (knd := PySem.strKind _ _) lF' lN' (by k_mem) (by k_asm) (by k_asm) ?_); intro h' hv' F' N'; (refine kta_items (knd := PySem.strKind _ _) (enc := PyData.str) (xs := [Itm.pair (fun t => Value.str (Str.ofString "p") t) (Value.str _ _)]) (by rfl) F' N' hv' (by k_mem) (by k_asm) (fun _ _ h => Value.isStrOf_shape h) (by rfl) ?_)); clear lF' lN'; intro i' l1; (try k_lt l1)))))) | ((with_reducible show wpAny _ _ (call (Value.ref _) _ _) _ _ _); ((k_here; (with_reducible show wpAny _ _ (call (Value.ref 45) [Value.str _ _, Value.str _ _] _) _ _ _); (rename LevelOk _ _ _ _ _ => kp9); k_dflt (refine' use_eq (ell_lvl _ _ _ _ _ ?zqhi _ _ _ _ ?zqhb ?zqhw ?zqhg _ _ ?zqhz ?zqhz2) ?zqB ?zqF ?zqX ?zqN ?zqT ?zqhk ?zqhd ?zqhu ?_; (case zqB => k_asm); (case zqF => k_asm); (case zqX => k_asm); (case zqN => k_asm); (case zqT => k_asm); (case zqhi => exact kp9.i3'); (case zqhb => assumption); (case zqhw => assumption); (case zqhg => assumption); (case zqhz => exact kp9.zW1); (case zqhz2 => exact kp9.zG1); (case zqhk => first | exact rfl | assumption); (case zqhd => first | exact room (by assumption) (by decide) | exact room0 (by assumption) (by decide) | ktr_room); (case zqhu => first | exact room (by assumption) (by decide) | exact room0 (by assumption) (by decide) | ktr_units); intro h9 tk9 F9 N9; (try dsimp only); (try k_sweep); (try k_fold))))) | ((with_reducible show wpAny _ _ (call (Value.ref _) _ _) _ _ _); ((k_here; (with_reducible show wpAny _ _ (call (Value.ref 173) [Value.ref _, Value.str _ _] _) _ _ _); (rename LevelOk _ _ _ _ _ => kp9); k_dflt (refine' useK_val (get_ctr _ _ _ _ _ _ _ _ _ _ _ _ _ _ _ _ ?zqm1 ?zqm2 ?zqhm ?zqhi ?zqhg ?zqhq ?zqhn ?zqhz ?zqhb) ?zqB ?zqF ?zqX ?zqN ?zqT ?zqhk ?zqhd ?zqhu ?_; (case zqB => k_asm); (case zqF => k_asm); (case zqX => k_asm); (case zqN => k_asm); (case zqT => k_asm); (case zqm1 => k_mem); (case zqm2 => k_mem); (case zqhm => first | (with_unfolding_all exact List.Mem.head _) | (refine List.Mem.tail _ ?_; with_unfolding_all exact List.Mem.head _)); (case zqhi => first | exact HdrsIn.snoc (HdrsIn.snoc (HdrsIn.mono (fun q hq => .tail _ (.tail _ (.tail _ (.tail _ (.tail _ hq))))) (by assumption)) (.tail _ (.tail _ (.head _)))) (.head _) | exact HdrsIn.snoc (HdrsIn.mono (fun q hq => .tail _ (.tail _ (.tail _ (.tail _ hq)))) (by assumption)) (.head _)); (case zqhg => with_reducible first | exact kp9.g1 | exact kp9.g2); (case zqhq => with_reducible first | exact kp9.k12 | exact kp9.k13); (case zqhn => with_reducible first | exact kp9.k8 | exact kp9.k9); (case zqhz => with_reducible first | exact kp9.k10 | exact kp9.k11); (case zqhb => with_reducible first | exact kp9.g3 | exact kp9.g4); (case zqhk => first | exact rfl | assumption); (case zqhd => first | exact room (by assumption) (by decide) | exact room0 (by assumption) (by decide) | ktr_room); (case zqhu => first | exact room (by assumption) (by decide) | exact room0 (by assumption) (by decide) | ktr_units); intro h9 tk9 t9 F9 N9; (try dsimp only); (try k_sweep); (try k_fold))))) | ((with_reducible show wpAny _ _ (call (Value.ref _) _ _) _ _ _); ((k_here; (with_reducible show wpAny _ _ (call (Value.ref 223) [Value.ref _, Value.str _ _, Value.none] _) _ _ _); (rename LevelOk _ _ _ _ _ => kp9); k_dflt (refine' ctrK_use (add_hdr _ _ _ _ _ _ _ _ _ _ _ _ _ _ _ _ _ ?zqhe ?zqm1 ?zqm2 ?zqoff ?zqhn ?zqhnl ?zqhc ?zqhz ?zqh0 ?zqhi) ?zqB ?zqF ?zqX ?zqN ?zqT ?zqhk ?zqhd ?zqhu ?_; (case zqB => k_asm); (case zqF => k_asm); (case zqX => k_asm); (case zqN => first | exact news_swap (by k_asm) | (refine news_swap ?_; with_unfolding_all assumption)); (case zqT => k_asm); (case zqm1 => k_mem); (case zqm2 => k_mem); (case zqoff => (repeat (first | exact off_one (by assumption) | refine off_cons (by (show @Ne Nat _ _; omega)) ?_))); (case zqhn => with_reducible first | exact kp9.k1 | exact kp9.k2); (case zqhe => with_reducible first | exact kp9.upW | exact kp9.upG); (case zqhnl => with_reducible first | exact kp9.k3 | exact kp9.k4); (case zqhc => with_reducible first | exact kp9.cW | exact kp9.cG); (case zqhz => with_reducible first | exact kp9.zW | exact kp9.zG); (case zqh0 => with_reducible first | exact kp9.pW | exact kp9.pG); (case zqhi => first | omega | (simp only [List.length_append, List.length_cons, List.length_nil]; omega)); (case zqhk => first | exact rfl | assumption); (case zqhd => first | exact room (by assumption) (by decide) | exact room0 (by assumption) (by decide) | ktr_room); (case zqhu => first | exact room (by assumption) (by decide) | exact room0 (by assumption) (by decide) | ktr_units); intro v9 n9 h9 tk9 R9 F9 N9; obtain ⟨T9, ta9, tb9, e8, e9, l8, l9⟩ := R9; subst e9; (replace l8 : @LT.lt Nat _ _ _ := l8); (try simp only [AllLt] at l9); subst e8; (try dsimp only); (try k_sweep); (try k_fold))))) | ((with_reducible show wpAny _ _ (call (Value.builtin "str.upper") _ _) _ _ _); first | with_reducible ((k_here; (rename LevelOk _ _ _ _ _ => kp9); refine SC.upper (kp9.k7) ?_)) | ((k_here; (rename LevelOk _ _ _ _ _ => kp9); refine SC.upper (kp9.k7) ?_))) | ((with_reducible show wpAny _ _ (call (Value.ref _) _ _) _ _ _); ((k_here; (with_reducible show wpAny _ _ (call (Value.ref 223) [Value.ref _, Value.str _ _, Value.none] _) _ _ _); k_dflt (refine wpAny_call ?_; refine' kp_more ?zqk1 ?zqk2 ?zqk3 ?zqk4 ?zqk5 ?zqkA ?zqkF ?zqkK ?zqk6 ?zqk7 ?zqk8 ?zqkX ?zqkM ?zqkN ?zqkD ?zqkR ?zqkP ?zqkT ?zqkB ?_ ?zqc2 ?zqc3 ?zqc4 ?zqc5; (case zqkA => exact rfl); (case zqkF => exact rfl); (case zqkK => first | assumption | exact rfl); (case zqk1 => k_asm); (case zqk2 => k_asm); (case zqk3 => k_asm); (case zqk4 => k_asm); (case zqk5 => k_asm); (case zqk6 => k_is); (case zqk7 => k_is); (case zqk8 => ktr_room); (case zqkX => kp_lit); (case zqkM => exact rfl); (case zqkN => exact rfl); (case zqkD => kp_flats); (case zqkR => exact rfl); (case zqkP => exact rfl); (case zqkT => exact fun _ => rfl); (case zqkB => exact fun _ => locs rfl); (case zqc5 => decide); (case zqc2 => exact rfl); (case zqc3 => exact rfl); (case zqc4 => exact rfl); k_whole; intro D' o' g' L' h' tk' l1 lo' hs' fs' FG' F' N' B' X' T'; (try k_lt l1); (try dsimp only); (try k_fold))))) | ((with_reducible show wpAny _ _ (call (Value.ref _) _ _) _ _ _); ((k_here; (with_reducible show wpAny _ _ (call (Value.ref 125) [Value.ref _, Value.str _ _] _) _ _ _); k_dflt (refine' useK_val (conv_name _ _ _ _ _ _ (Str.ofString "p") _ ?zqhc ?zqhz) ?zqB ?zqF ?zqX ?zqN ?zqT ?zqhk ?zqhd ?zqhu ?_; (case zqhc => unfold cleanN; decide +kernel); (case zqhz => decide); (case zqB => k_asm); (case zqF => k_asm); (case zqX => k_asm); (case zqN => k_asm); (case zqT => k_asm); (case zqhk => first | exact rfl | assumption); (case zqhd => first | exact room (by assumption) (by decide) | exact room0 (by assumption) (by decide) | ktr_room); (case zqhu => first | exact room (by assumption) (by decide) | exact room0 (by assumption) (by decide) | ktr_units); intro h9 tk9 t9 F9 N9; (try dsimp only); (try k_sweep); (try k_fold))))) | ((with_reducible show wpAny _ _ (call (Value.ref _) _ _) _ _ _); ((k_here; (with_reducible show wpAny _ _ (call (Value.ref 125) [Value.ref _, Value.str _ _] _) _ _ _); k_dflt (refine wpAny_call ?_; refine' code_def ?zqk1 ?zqk2 ?zqk3 ?zqk4 ?zqk5 ?zqkA ?zqkF ?zqkK ?zqk6 ?zqk7 ?zqk8 ?zqk9 ?zqkB ?_ ?zqc2 ?zqc3 ?zqc4 ?zqc5; (case zqkA => exact rfl); (case zqkF => exact rfl); (case zqkK => first | assumption | exact rfl); (case zqk1 => k_asm); (case zqk2 => k_asm); (case zqk3 => k_asm); (case zqk4 => k_asm); (case zqk5 => k_asm); (case zqk6 => k_is); (case zqk7 => k_is); (case zqk8 => ktr_room); (case zqk9 => first | exact BindsTo.of_eq rfl | exact binds_K (by k_in) rfl (by k_is) rfl rfl rfl | fail "no rule for these arguments"); (case zqc5 => decide); (case zqkB => exact locs rfl); (case zqc2 => exact rfl); (case zqc3 => exact rfl); (case zqc4 => exact rfl); k_whole; intro g' L' h' FG' F' N' B' X' T'; (try dsimp only); (try k_fold))))) | ((with_reducible show wpAny _ _ (exec (Stmt.For _ _ _ _ _) _) _ _ _); ((k_here; (rename Fr _ _ _ _ => lF'); (with_unfolding_all refine' For_invVF lF' ?zqk1 ?zqk2 ?_; (case zqk1 => exact rfl); (case zqk2 => exact rfl); k_whole)))) | ((with_reducible show wpAny _ _ (pyIter (Value.str _ _)) _ _ _); first | with_reducible ((k_here; (with_reducible show wpAny _ _ (pyIter (Value.str _ _)) (fun it s₂ => LoopAtV _ _ _ _ _ _ _ _ _ it s₂) _ _); refine halt ?_)) | ((k_here; (with_reducible show wpAny _ _ (pyIter (Value.str _ _)) (fun it s₂ => LoopAtV _ _ _ _ _ _ _ _ _ it s₂) _ _); refine halt ?_))) | ((with_reducible show wpAny _ _ (call (Value.builtin "re.Pattern.search") _ _) _ _ _); first | with_reducible ((k_here; (refine' val_dirty ?zqF ?zqX ?zqN ?zqh ?zqz ?_; (case zqF => k_asm); (case zqX => k_asm); (case zqN => k_asm); (case zqh => assumption); (case zqz => size_fits)); intro D9 h9 vs9 F9 N9 l9; (try k_lt l9))) | ((k_here; (refine' val_dirty ?zqF ?zqX ?zqN ?zqh ?zqz ?_; (case zqF => k_asm); (case zqX => k_asm); (case zqN => k_asm); (case zqh => assumption); (case zqz => size_fits)); intro D9 h9 vs9 F9 N9 l9; (try k_lt l9)))) | ((with_reducible show wpAny _ _ (getMethod (Value.ref _) _ _) _ _ _); first | with_reducible ((k_here; first | ((with_reducible show wpAny _ _ (getMethod (Value.ref 95) _ _) _ _ _); refine' method95 ?zqF ?zqX ?_; (case zqF => k_asm); (case zqX => k_asm)) | ((with_reducible show wpAny _ _ (getMethod (Value.ref 90) _ _) _ _ _); refine' method90 ?zqF ?zqX ?_; (case zqF => k_asm); (case zqX => k_asm)))) | ((k_here; first | ((with_reducible show wpAny _ _ (getMethod (Value.ref 95) _ _) _ _ _); refine' method95 ?zqF ?zqX ?_; (case zqF => k_asm); (case zqX => k_asm)) | ((with_reducible show wpAny _ _ (getMethod (Value.ref 90) _ _) _ _ _); refine' method90 ?zqF ?zqX ?_; (case zqF => k_asm); (case zqX => k_asm))))) | ((with_reducible show wpAny _ _ (truthy (Value.ref _)) _ _ _); first | with_reducible ((k_here; (with_reducible show wpAny _ _ (truthy (Value.ref _)) _ _ _); (refine truthy_match (by k_asm) (.head _) ?_))) | ((k_here; (with_reducible show wpAny _ _ (truthy (Value.ref _)) _ _ _); (refine truthy_match (by k_asm) (.head _) ?_)))) | ((with_reducible show wpAny _ _ (storeName _ _ _) _ _ _); ((k_here; k_dflt ((refine' store_let ?zqF ?zqN ?_ ?zqa ?zqb; (case zqF => k_asm); (case zqN => k_asm); (case zqa => rfl); (case zqb => rfl); k_whole; intro m' h' tk' F' N'; (try k_sweep)))))) | walk1 | (dsimp only; walk1) | (leave1; (try dsimp only)) | fail "no step")
  unfold Halt
  (rename News _ _ _ _ => kN)
  (rename _ ∧ AllLt _ rest => kl)
  refine for_strN (l := abcL.take d) (fun led => RawJ d led) rfl (by k_asm) (news_swap kN) (abc_slice hd) ?_ ?_ ?_
  · intro I hI
    exact ⟨rfl, rfl, rfl, hI⟩
  · intro I m n h tk hJ95 F N; (try k_fold); obtain ⟨hl, _⟩ := hJ95
    exact absurd hl.symm (abc_first hd).1
  · intro I c r m n u it h tk hJ99 F N; (try k_fold); obtain ⟨hl9, rfl, rfl, hI⟩ := hJ99
    obtain rfl := (abc_first hd).2 c r hl9
    have hlI := hI _ (.head _)
    have hlI2 := hI _ (.tail _ (.head _))
    dsimp only at hlI hlI2
    have hlt := allLt_mem kl.2
    have hoff := off_two off hlt
    have hh0 : HdrsIn rest [] (hdrs turn wr wr 0) := .nil
    have lok : LevelOk turn wr wr 0 (Str.ofString "a") := level_ok (by decide) (by decide) h7w h7w ⟨h0, h0⟩ ⟨hl, hl⟩
    clear hd hl9 hlt off
    repeat' (first | ((k_unfold); (try dsimp only)) | (k_end; kc_close) | ((with_reducible show wpAny _ _ (exec (Stmt.For (PySem.Expr.Tuple _ _ _) (PySem.Expr.Call _ _ _ _) _ _ _) _) _ _ _); ((k_here; ((rename Fr _ _ _ _ => lF'); (rename News _ _ _ _ => lN'); (with_unfolding_all ((refine' For_turns lF' ?_); k_whole; (refine MethodCall_ ?_); (refine ld lF' (by rfl) ?_); (refine kdl_method (knd := PySem.strKind _ _) PySem.F.slot_dict_items PySem.F.type_dict_items lN' (by k_mem) (by k_asm) ?_); (refine callWith_method0 ?_); (refine kta_callItems (knd := PySem.strKind _ _) lF' lN' (by k_mem) (by k_asm) (by k_asm) ?_); intro h' hv' F' N'; (refine kta_items (knd := PySem.strKind _ _) (enc := PyData.str) (xs := [Itm.pair (fun t => Value.str (Str.ofString "p") t) (Value.str _ _)]) (by rfl) F' N' hv' (by k_mem) (by k_asm) (fun _ _ h => Value.isStrOf_shape h) (by rfl) ?_)); clear lF' lN'; intro i' l1; (try k_lt l1)))))) | ((with_reducible show wpAny _ _ (call (Value.ref _) _ _) _ _ _); ((k_here; (with_reducible show wpAny _ _ (call (Value.ref 45) [Value.str _ _, Value.str _ _] _) _ _ _); (rename LevelOk _ _ _ _ _ => kp9); k_dflt (refine' use_eq (ell_lvl _ _ _ _ _ ?zqhi _ _ _ _ ?zqhb ?zqhw ?zqhg _ _ ?zqhz ?zqhz2) ?zqB ?zqF ?zqX ?zqN ?zqT ?zqhk ?zqhd ?zqhu ?_; (case zqB => k_asm); (case zqF => k_asm); (case zqX => k_asm); (case zqN => k_asm); (case zqT => k_asm); (case zqhi => exact kp9.i3'); (case zqhb => assumption); (case zqhw => assumption); (case zqhg => assumption); (case zqhz => exact kp9.zW1); (case zqhz2 => exact kp9.zG1); (case zqhk => first | exact rfl | assumption); (case zqhd => first | exact room (by assumption) (by decide) | exact room0 (by assumption) (by decide) | ktr_room); (case zqhu => first | exact room (by assumption) (by decide) | exact room0 (by assumption) (by decide) | ktr_units); intro h9 tk9 F9 N9; (try dsimp only); (try k_sweep); (try k_fold))))) | ((with_reducible show wpAny _ _ (call (Value.ref _) _ _) _ _ _); ((k_here; (with_reducible show wpAny _ _ (call (Value.ref 173) [Value.ref _, Value.str _ _] _) _ _ _); (rename LevelOk _ _ _ _ _ => kp9); k_dflt (refine' useK_val (get_ctr _ _ _ _ _ _ _ _ _ _ _ _ _ _ _ _ ?zqm1 ?zqm2 ?zqhm ?zqhi ?zqhg ?zqhq ?zqhn ?zqhz ?zqhb) ?zqB ?zqF ?zqX ?zqN ?zqT ?zqhk ?zqhd ?zqhu ?_; (case zqB => k_asm); (case zqF => k_asm); (case zqX => k_asm); (case zqN => k_asm); (case zqT => k_asm); (case zqm1 => k_mem); (case zqm2 => k_mem); (case zqhm => first | (with_unfolding_all exact List.Mem.head _) | (refine List.Mem.tail _ ?_; with_unfolding_all exact List.Mem.head _)); (case zqhi => first | exact HdrsIn.snoc (HdrsIn.snoc (HdrsIn.mono (fun q hq => .tail _ (.tail _ (.tail _ (.tail _ (.tail _ hq))))) (by assumption)) (.tail _ (.tail _ (.head _)))) (.head _) | exact HdrsIn.snoc (HdrsIn.mono (fun q hq => .tail _ (.tail _ (.tail _ (.tail _ hq)))) (by assumption)) (.head _)); (case zqhg => with_reducible first | exact kp9.g1 | exact kp9.g2); (case zqhq => with_reducible first | exact kp9.k12 | exact kp9.k13); (case zqhn => with_reducible first | exact kp9.k8 | exact kp9.k9); (case zqhz => with_reducible first | exact kp9.k10 | exact kp9.k11); (case zqhb => with_reducible first | exact kp9.g3 | exact kp9.g4); (case zqhk => first | exact rfl | assumption); (case zqhd => first | exact room (by assumption) (by decide) | exact room0 (by assumption) (by decide) | ktr_room); (case zqhu => first | exact room (by assumption) (by decide) | exact room0 (by assumption) (by decide) | ktr_units); intro h9 tk9 t9 F9 N9; (try dsimp only); (try k_sweep); (try k_fold))))) | ((with_reducible show wpAny _ _ (call (Value.ref _) _ _) _ _ _); ((k_here; (with_reducible show wpAny _ _ (call (Value.ref 223) [Value.ref _, Value.str _ _, Value.none] _) _ _ _); (rename LevelOk _ _ _ _ _ => kp9); k_dflt (refine' ctrK_use (add_hdr _ _ _ _ _ _ _ _ _ _ _ _ _ _ _ _ _ ?zqhe ?zqm1 ?zqm2 ?zqoff ?zqhn ?zqhnl ?zqhc ?zqhz ?zqh0 ?zqhi) ?zqB ?zqF ?zqX ?zqN ?zqT ?zqhk ?zqhd ?zqhu ?_; (case zqB => k_asm); (case zqF => k_asm); (case zqX => k_asm); (case zqN => first | exact news_swap (by k_asm) | (refine news_swap ?_; with_unfolding_all assumption)); (case zqT => k_asm); (case zqm1 => k_mem); (case zqm2 => k_mem); (case zqoff => (repeat (first | exact off_one (by assumption) | refine off_cons (by (show @Ne Nat _ _; omega)) ?_))); (case zqhn => with_reducible first | exact kp9.k1 | exact kp9.k2); (case zqhe => with_reducible first | exact kp9.upW | exact kp9.upG); (case zqhnl => with_reducible first | exact kp9.k3 | exact kp9.k4); (case zqhc => with_reducible first | exact kp9.cW | exact kp9.cG); (case zqhz => with_reducible first | exact kp9.zW | exact kp9.zG); (case zqh0 => with_reducible first | exact kp9.pW | exact kp9.pG); (case zqhi => first | omega | (simp only [List.length_append, List.length_cons, List.length_nil]; omega)); (case zqhk => first | exact rfl | assumption); (case zqhd => first | exact room (by assumption) (by decide) | exact room0 (by assumption) (by decide) | ktr_room); (case zqhu => first | exact room (by assumption) (by decide) | exact room0 (by assumption) (by decide) | ktr_units); intro v9 n9 h9 tk9 R9 F9 N9; obtain ⟨T9, ta9, tb9, e8, e9, l8, l9⟩ := R9; subst e9; (replace l8 : @LT.lt Nat _ _ _ := l8); (try simp only [AllLt] at l9); subst e8; (try dsimp only); (try k_sweep); (try k_fold))))) | ((with_reducible show wpAny _ _ (call (Value.builtin "str.upper") _ _) _ _ _); first | with_reducible ((k_here; (rename LevelOk _ _ _ _ _ => kp9); refine SC.upper (kp9.k7) ?_)) | ((k_here; (rename LevelOk _ _ _ _ _ => kp9); refine SC.upper (kp9.k7) ?_))) | ((with_reducible show wpAny _ _ (call (Value.ref _) _ _) _ _ _); ((k_here; (with_reducible show wpAny _ _ (call (Value.ref 223) [Value.ref _, Value.str _ _, Value.none] _) _ _ _); k_dflt (refine wpAny_call ?_; refine' kp_more ?zqk1 ?zqk2 ?zqk3 ?zqk4 ?zqk5 ?zqkA ?zqkF ?zqkK ?zqk6 ?zqk7 ?zqk8 ?zqkX ?zqkM ?zqkN ?zqkD ?zqkR ?zqkP ?zqkT ?zqkB ?_ ?zqc2 ?zqc3 ?zqc4 ?zqc5; (case zqkA => exact rfl); (case zqkF => exact rfl); (case zqkK => first | assumption | exact rfl); (case zqk1 => k_asm); (case zqk2 => k_asm); (case zqk3 => k_asm); (case zqk4 => k_asm); (case zqk5 => k_asm); (case zqk6 => k_is); (case zqk7 => k_is); (case zqk8 => ktr_room); (case zqkX => kp_lit); (case zqkM => exact rfl); (case zqkN => exact rfl); (case zqkD => kp_flats); (case zqkR => exact rfl); (case zqkP => exact rfl); (case zqkT => exact fun _ => rfl); (case zqkB => exact fun _ => locs rfl); (case zqc5 => decide); (case zqc2 => exact rfl); (case zqc3 => exact rfl); (case zqc4 => exact rfl); k_whole; intro D' o' g' L' h' tk' l1 lo' hs' fs' FG' F' N' B' X' T'; (try k_lt l1); (try dsimp only); (try k_fold))))) | ((with_reducible show wpAny _ _ (call (Value.ref _) _ _) _ _ _); ((k_here; (with_reducible show wpAny _ _ (call (Value.ref 125) [Value.ref _, Value.str _ _] _) _ _ _); k_dflt (refine' useK_val (conv_name _ _ _ _ _ _ (Str.ofString "p") _ ?zqhc ?zqhz) ?zqB ?zqF ?zqX ?zqN ?zqT ?zqhk ?zqhd ?zqhu ?_; (case zqhc => unfold cleanN; decide +kernel); (case zqhz => decide); (case zqB => k_asm); (case zqF => k_asm); (case zqX => k_asm); (case zqN => k_asm); (case zqT => k_asm); (case zqhk => first | exact rfl | assumption); (case zqhd => first | exact room (by assumption) (by decide) | exact room0 (by assumption) (by decide) | ktr_room); (case zqhu => first | exact room (by assumption) (by decide) | exact room0 (by assumption) (by decide) | ktr_units); intro h9 tk9 t9 F9 N9; (try dsimp only); (try k_sweep); (try k_fold))))) | ((with_reducible show wpAny _ _ (call (Value.ref _) _ _) _ _ _); ((k_here; (with_reducible show wpAny _ _ (call (Value.ref 125) [Value.ref _, Value.str _ _] _) _ _ _); k_dflt (refine wpAny_call ?_; refine' code_def ?zqk1 ?zqk2 ?zqk3 ?zqk4 ?zqk5 ?zqkA ?zqkF ?zqkK ?zqk6 ?zqk7 ?zqk8 ?zqk9 ?zqkB ?_ ?zqc2 ?zqc3 ?zqc4 ?zqc5; (case zqkA => exact rfl); (case zqkF => exact rfl); (case zqkK => first | assumption | exact rfl); (case zqk1 => k_asm); (case zqk2 => k_asm); (case zqk3 => k_asm); (case zqk4 => k_asm); (case zqk5 => k_asm); (case zqk6 => k_is); (case zqk7 => k_is); (case zqk8 => ktr_room); (case zqk9 => first | exact BindsTo.of_eq rfl | exact binds_K (by k_in) rfl (by k_is) rfl rfl rfl | fail "no rule for these arguments"); (case zqc5 => decide); (case zqkB => exact locs rfl); (case zqc2 => exact rfl); (case zqc3 => exact rfl); (case zqc4 => exact rfl); k_whole; intro g' L' h' FG' F' N' B' X' T'; (try dsimp only); (try k_fold))))) | ((with_reducible show wpAny _ _ (exec (Stmt.For _ _ _ _ _) _) _ _ _); ((k_here; (rename Fr _ _ _ _ => lF'); (with_unfolding_all refine' For_invVF lF' ?zqk1 ?zqk2 ?_; (case zqk1 => exact rfl); (case zqk2 => exact rfl); k_whole)))) | ((with_reducible show wpAny _ _ (pyIter (Value.str _ _)) _ _ _); first | with_reducible ((k_here; (with_reducible show wpAny _ _ (pyIter (Value.str _ _)) (fun it s₂ => LoopAtV _ _ _ _ _ _ _ _ _ it s₂) _ _); refine halt ?_)) | ((k_here; (with_reducible show wpAny _ _ (pyIter (Value.str _ _)) (fun it s₂ => LoopAtV _ _ _ _ _ _ _ _ _ it s₂) _ _); refine halt ?_))) | ((with_reducible show wpAny _ _ (call (Value.builtin "re.Pattern.search") _ _) _ _ _); first | with_reducible ((k_here; (refine' val_dirty ?zqF ?zqX ?zqN ?zqh ?zqz ?_; (case zqF => k_asm); (case zqX => k_asm); (case zqN => k_asm); (case zqh => assumption); (case zqz => size_fits)); intro D9 h9 vs9 F9 N9 l9; (try k_lt l9))) | ((k_here; (refine' val_dirty ?zqF ?zqX ?zqN ?zqh ?zqz ?_; (case zqF => k_asm); (case zqX => k_asm); (case zqN => k_asm); (case zqh => assumption); (case zqz => size_fits)); intro D9 h9 vs9 F9 N9 l9; (try k_lt l9)))) | ((with_reducible show wpAny _ _ (getMethod (Value.ref _) _ _) _ _ _); first | with_reducible ((k_here; first | ((with_reducible show wpAny _ _ (getMethod (Value.ref 95) _ _) _ _ _); refine' method95 ?zqF ?zqX ?_; (case zqF => k_asm); (case zqX => k_asm)) | ((with_reducible show wpAny _ _ (getMethod (Value.ref 90) _ _) _ _ _); refine' method90 ?zqF ?zqX ?_; (case zqF => k_asm); (case zqX => k_asm)))) | ((k_here; first | ((with_reducible show wpAny _ _ (getMethod (Value.ref 95) _ _) _ _ _); refine' method95 ?zqF ?zqX ?_; (case zqF => k_asm); (case zqX => k_asm)) | ((with_reducible show wpAny _ _ (getMethod (Value.ref 90) _ _) _ _ _); refine' method90 ?zqF ?zqX ?_; (case zqF => k_asm); (case zqX => k_asm))))) | ((with_reducible show wpAny _ _ (truthy (Value.ref _)) _ _ _); first | with_reducible ((k_here; (with_reducible show wpAny _ _ (truthy (Value.ref _)) _ _ _); (refine truthy_match (by k_asm) (.head _) ?_))) | ((k_here; (with_reducible show wpAny _ _ (truthy (Value.ref _)) _ _ _); (refine truthy_match (by k_asm) (.head _) ?_)))) | ((with_reducible show wpAny _ _ (storeName _ _ _) _ _ _); ((k_here; k_dflt ((refine' store_let ?zqF ?zqN ?_ ?zqa ?zqb; (case zqF => k_asm); (case zqN => k_asm); (case zqa => rfl); (case zqb => rfl); k_whole; intro m' h' tk' F' N'; (try k_sweep)))))) | walk1 | (dsimp only; walk1) | (leave1; (try dsimp only)) | fail "no step")
    (rename News h₀ _ _ _ => kN2)
    refine' hret _ _ _ _ ⟨_, _, _, _, _, _, _, rfl, ?a1, ?a2, ?a6, ?a3⟩ ?a4 ?a5
    case a5 => exact kN2
    case a4 => assumption
    case a1 => (repeat first | with_unfolding_all exact List.Mem.head _ | refine List.Mem.tail _ ?_)
    case a2 => (repeat first | with_unfolding_all exact List.Mem.head _ | refine List.Mem.tail _ ?_)
    case a6 => (repeat first | with_unfolding_all exact List.Mem.head _ | refine List.Mem.tail _ ?_)
    case a3 => (intro p hp; (repeat first | exact hp | refine List.Mem.tail _ ?_))
end
end Mine
end PartW4
section PartL0
open PySem PySem.W PyProof.Rows
namespace Mine
theorem offL0 : True := by w_top off; trivial
noncomputable abbrev RowOk (rr : List (Int × Int)) : Prop := ∀ r ∈ rr, (0 ≤ r.1 ∧ r.1 ≤ 7) ∧ 0 ≤ r.2 ∧ r.2 < 12
theorem part_b (x : Int) : 0 ≤ partOf x ∧ partOf x < 12 := by
  unfold partOf
  rw [Int.fmod_eq_emod_of_nonneg _ (by decide), Int.fdiv_eq_ediv_of_nonneg _ (by decide)]
  omega
theorem kind_b (x : Int) : 0 ≤ kindOf x ∧ kindOf x ≤ 7 := by
  have := part_b x
  unfold kindOf
  split
  · rw [Int.fmod_eq_emod_of_nonneg _ (by decide)]; omega
  · rw [Int.fmod_eq_emod_of_nonneg _ (by decide)]; omega
theorem want_ok : ∀ l : List Int, RowOk (wantOf l)
  | [] => fun _ h => nomatch h
  | x :: l => by
    intro r hr
    rw [wantOf] at hr
    rcases List.mem_cons.mp hr with rfl | hr
    · have h1 := part_b x
      have h2 := kind_b x
      split
      · exact ⟨⟨by show (0:Int) ≤ 6; decide, by show (6:Int) ≤ 7; decide⟩, h1⟩
      · exact ⟨h2, h1⟩
    · exact want_ok l r hr
theorem got_ok : ∀ l : List Int, RowOk (gotOf l)
  | [] => fun _ h => nomatch h
  | x :: l => by
    intro r hr
    rw [gotOf] at hr
    split at hr
    · exact got_ok l r hr
    · rcases List.mem_cons.mp hr with rfl | hr
      · exact ⟨kind_b x, part_b x⟩
      · exact got_ok l r hr
theorem oks_of {rr : List (Int × Int)} (h : RowOk rr) (h7 : 7 ∉ kinds rr) : Oks (kinds rr) := by
  intro k hk
  obtain ⟨r, hr, rfl⟩ := List.mem_map.mp hk
  have := (h r hr).1
  have h8 : r.1 ≠ 7 := fun e => h7 (e ▸ hk)
  show r.1 = 0 ∨ _
  omega
theorem black_iff (rr : List (Int × Int)) : black rr = true ↔ 7 ∈ kinds rr := by
  unfold black
  rw [List.any_eq_true]
  constructor
  · rintro ⟨x, hx, e⟩
    rw [← eq_of_beq e]; exact hx
  · intro h
    exact ⟨7, h, rfl⟩
noncomputable def refD : PyData := .list [.str (Str.ofString "refused")]
/-- what both sides give -/
noncomputable def whole (d : Nat) (turn : Int) (wr gr : List (Int × Int)) (bb : Bool) : PyData :=
  if black wr = true then .tuple [refD, .list []] else if black gr = true then .tuple [refD, .list [.tuple [.str (Str.ofString "Wa"), .str (writtenOf 1 turn gapP wr)]]]
  else .tuple [.list (List.replicate d (.bool bb)), .list (laidD turn wr gr d)]
section
variable (w : World) (mean : ExcName → Option Value) (mg mb : Str → Option Value) (rest : Led)
theorem due_all (lw lg : Addr) (ws gs : List Value) (wr gr : List (Int × Int)) (nw ng : Nat) (turn : Int) (d : Nat) (hd : OkD d) (bb : Bool) (hbb : bb = true ↔ Match (kinds wr) (kinds gr)) (t1 t2 : Tok) (mw : (lw, listOf ws.toArray nw) ∈ rest) (hw : RowsIn rest ws wr) (mg' : (lg, listOf gs.toArray ng) ∈ rest) (hg : RowsIn rest gs gr) (lwl : wr.length ≤ 8) (lgl : gr.length ≤ 8) :
    Ctr w mean mg mb 287 [.ref lw, .ref lg, .int turn t1, .int d t2] rest 8 300 (fun v led => (∀ p ∈ rest, p ∈ led) ∧ Shows led v (whole d turn wr gr bb)) := by
  have key : ∀ v led, DueRet rest d turn wr gr v led → (∀ p ∈ rest, p ∈ led) ∧ Shows led v (whole d turn wr gr bb) := by
    rintro v led ⟨h1, h2⟩
    refine ⟨h1, ?_⟩
    unfold whole
    rcases h2 with ⟨a, h⟩ | ⟨a, b, h⟩ | ⟨a, b, c, hc, h⟩
    · rw [if_pos a]; exact h
    · rw [if_neg (by rw [a]; decide), if_pos b]; exact h
    · rw [if_neg (by rw [a]; decide), if_neg (by rw [b]; decide)]
      have e : c = bb := Bool.eq_iff_iff.mpr (hc.trans hbb.symm)
      rw [e] at h
      exact h
  rcases hd with rfl | rfl | rfl
  · exact Ctr.mono (due1 w mean mg mb rest lw lg ws gs wr gr nw ng turn t1 t2 mw hw mg' hg lwl lgl) key
  · exact Ctr.mono (due2 w mean mg mb rest lw lg ws gs wr gr nw ng turn t1 t2 mw hw mg' hg lwl lgl) key
  · exact Ctr.mono (due3 w mean mg mb rest lw lg ws gs wr gr nw ng turn t1 t2 mw hw mg' hg lwl lgl) key
noncomputable def tupOf (p : Str × Str) : PyData := .tuple [.str p.1, .str p.2]
theorem shows_hdrs {led : Led} : ∀ {its : List Value} {hs : List (Str × Str)}, HdrsIn led its hs → ShowsAll led its (hs.map tupOf)
  | _, _, .nil => .nil
  | _, _, .cons h r => .cons (shows_tup h (.cons (shows_str rfl) (.cons (shows_str rfl) .nil))) (shows_hdrs r)
theorem shows_bools (led : Led) (bb : Bool) : ∀ d : Nat, ShowsAll led (List.replicate d (.bool bb)) (List.replicate d (.bool bb))
  | 0 => .nil
  | d + 1 => .cons shows_bool (shows_bools led bb d)
theorem hdrs_laid {d : Nat} (hd : OkD d) (turn : Int) (wr gr : List (Int × Int)) : (hdrs turn wr gr d).map tupOf = laidD turn wr gr d := by
  have e1 : nmW (abcL.getD 0 Str.empty) = Str.ofString "Wa" := by decide +kernel
  have e2 : nmT (abcL.getD 0 Str.empty) = Str.ofString "Ta" := by decide +kernel
  have e3 : nmW (abcL.getD 1 Str.empty) = Str.ofString "Wb" := by decide +kernel
  have e4 : nmT (abcL.getD 1 Str.empty) = Str.ofString "Tb" := by decide +kernel
  have e5 : nmW (abcL.getD 2 Str.empty) = Str.ofString "Wc" := by decide +kernel
  have e6 : nmT (abcL.getD 2 Str.empty) = Str.ofString "Tc" := by decide +kernel
  rcases hd with rfl | rfl | rfl <;> simp only [hdrs, e1, e2, e3, e4, e5, e6, laidD, tupOf, lvl, List.nil_append, List.cons_append, List.map_cons, List.map_nil, List.map_append]
theorem Ctr0.mono {f : Addr} {vs : List Value} {news : Led} {D U : Nat} {Ret Ret' : Value → Led → Prop} (C : Ctr0 w mean mg mb f vs news D U Ret) (h : ∀ v n, Ret v n → Ret' v n) : Ctr0 w mean mg mb f vs news D U Ret' := by
  intro dp un gd cn cs a ccd cl A₀ base h₀ L m s Q E B F X N T XB TB hk hd hu hret
  exact C dp un gd cn cs a ccd cl A₀ base h₀ L m s Q E B F X N T XB TB hk hd hu fun v n h' tk' r => hret v n h' tk' (h v n r)
theorem Ctr.low {f : Addr} {vs : List Value} {news : Led} {D D' U : Nat} {Ret : Value → Led → Prop} (C : Ctr w mean mg mb f vs news D U Ret) (hD : D ≤ D') : Ctr0 w mean mg mb f vs news D' U Ret := by
  intro dp un gd cn cs a ccd cl A₀ base h₀ L m s Q E B F X N T XB TB hk hd hu hret
  exact C dp un gd cn cs a ccd cl [] A₀ base h₀ L m s Q E B F X N T hk (Nat.lt_of_le_of_lt (Nat.add_le_add_left hD dp) hd) hu hret
/-- what the wrapped tables show -/
noncomputable def WrapRet (lx : Addr) (rest : Led) (D : PyData) (v : Value) (led : Led) : Prop :=
  ∃ (la : Addr) (its : List Value) (n : Nat) (AD : PyData) (HD : List PyData), v = .ref la ∧ (lx, listOf its.toArray n) ∈ led ∧ (∀ p ∈ rest, p ∈ led) ∧ its.length ≤ 100 ∧ Shows led (.ref la) AD ∧ ShowsAll led its HD ∧ PyData.tuple [AD, .list HD] = D
theorem wrapped_all (x dx lx : Addr) (n n2 : Nat) (t0 : Tok) (d : Nat) (hd : OkD d) (turn : Int) (wr gr : List (Int × Int)) (bb : Bool) (hbb : bb = true ↔ Match (kinds wr) (kinds gr)) (hw : RowOk wr) (hg : RowOk gr) (h0 : wr ≠ [] ∧ gr ≠ []) (hl : wr.length ≤ 8 ∧ gr.length ≤ 8) (t1 t2 t3 : Tok) (m1 : (x, instObj 226 dx) ∈ rest) (m2 : (dx, dictOf [⟨PyData.keyHash w.params (Str.ofString "_headers"), .str (Str.ofString "_headers") t0, .ref lx⟩] n2) ∈ rest) (off : OwnOff rest [lx]) :
    Ctr0 w mean mg mb 272 [.ref x, .str (rawOf turn gapP wr) t1, .str (rawOf turn gapG gr) t2, .int d t3] ((lx, listOf ([] : List Value).toArray n) :: rest) 8 100 (WrapRet lx rest (whole d turn wr gr bb)) := by
  by_cases b1 : black wr = true
  · refine Ctr0.mono w mean mg mb (wrapped_bw w mean mg mb rest x dx lx n n2 t0 d hd _ (rawOf turn gapG gr) (raw_dirty ((black_iff wr).mp b1)) (raw_len (by decide +kernel) hl.1) t1 t2 t3 m1 m2 off) ?_
    rintro v led ⟨la, na, t, rfl, h1, h2, h3⟩
    refine ⟨la, [], n, _, [], rfl, h2, h3, by decide, shows_list h1 (.cons (shows_str rfl) .nil), .nil, ?_⟩
    unfold whole
    rw [if_pos b1]; rfl
  · have h7w : 7 ∉ kinds wr := fun h => b1 ((black_iff wr).mpr h)
    by_cases b2 : black gr = true
    · refine Ctr0.mono w mean mg mb (wrapped_bg w mean mg mb rest x dx lx n n2 t0 d hd turn wr (oks_of hw h7w) h0.1 hl.1 _ (raw_dirty ((black_iff gr).mp b2)) (raw_len (by decide +kernel) hl.2) t1 t2 t3 m1 m2 off) ?_
      rintro v led ⟨la, na, t, T, ta, tb, n', rfl, h1, h2, h4, h3⟩
      refine ⟨la, [.ref T], n', _, _, rfl, h2, h3, by show 1 ≤ 100; decide, shows_list h1 (.cons (shows_str rfl) .nil), .cons (shows_tup h4 (.cons (shows_str rfl) (.cons (shows_str rfl) .nil))) .nil, ?_⟩
      unfold whole
      rw [if_neg b1, if_pos b2]
      have e1 : nmW (Str.ofString "a") = Str.ofString "Wa" := by decide +kernel
      rw [e1]; rfl
    · have h7g : 7 ∉ kinds gr := fun h => b2 ((black_iff gr).mpr h)
      refine Ctr0.mono w mean mg mb (Ctr.low w mean mg mb (wrapped_ok w mean mg mb rest x dx lx n n2 t0 d hd turn wr gr bb hbb (oks_of hw h7w) (oks_of hg h7g) h0 hl t1 t2 t3 m1 m2 off) (by decide)) ?_
      rintro v led ⟨la, its, n', na, rfl, h1, h2, h3, h4, h5⟩
      refine ⟨la, its, n', _, _, rfl, h2, h3, h5, shows_list h1 (shows_bools led bb d), shows_hdrs h4, ?_⟩
      unfold whole
      rw [if_neg b1, if_neg b2, hdrs_laid hd]
end
/-! the comparison -/
theorem ok_chars {t : Str} (h : ∀ k ∈ chars t, k < 1114112) : PyData.strOk t = true := by
  unfold PyData.strOk
  rw [Array.all_eq_true']
  intro k hk
  exact decide_eq_true (h k (by simpa using hk))
theorem small_tok {B : Nat} (hB : OkB B) {D : List Nat} (hD : D = [46, 46, 46] ∨ D = [46]) {c : Int} (hc : Ok c) : ∀ k ∈ tokG B D c, k < 1114112 := by
  rcases hB with rfl | rfl | rfl <;> rcases hD with rfl | rfl <;> rcases hc with rfl | rfl | rfl | rfl | rfl | rfl | rfl <;> decide +kernel
theorem small_edge {d : Nat} (hd : OkD d) : (∀ k ∈ chars (headOf d), k < 1114112) ∧ (∀ k ∈ chars (tailOf d), k < 1114112) := by
  rcases hd with rfl | rfl | rfl <;> decide +kernel
theorem written_ok {d : Nat} (hd : OkD d) (turn : Int) {gap : Str} (hg : GapOk gap) (rr : List (Int × Int)) : PyData.strOk (writtenOf d turn gap rr) = true := by
  obtain ⟨D, hD, _, gn, _⟩ := gap_at hg (n := d) (by omega)
  refine ok_chars fun k hk => ?_
  rw [written_chars hd turn gn, List.mem_append, List.mem_append] at hk
  rcases hk with (hk | hk) | hk
  · exact (small_edge hd).1 k hk
  · obtain ⟨c, hc, hk⟩ := List.mem_flatMap.mp hk
    exact small_tok (okB_of hd) hD (oks_tk turn _ c hc) k hk
  · exact (small_edge hd).2 k hk
theorem whole_ok {d : Nat} (hd : OkD d) (turn : Int) (wr gr : List (Int × Int)) (bb : Bool) : SeqAt.shaped (whole d turn wr gr bb) = true ∧ SeqAt.noMix (whole d turn wr gr bb) (whole d turn wr gr bb) = true := by
  have w1 := written_ok (d := 1) (.inl rfl) turn (.inl rfl) wr
  have w2 := written_ok (d := 2) (.inr (.inl rfl)) turn (.inl rfl) wr
  have w3 := written_ok (d := 3) (.inr (.inr rfl)) turn (.inl rfl) wr
  have g1 := written_ok (d := 1) (.inl rfl) turn (.inr rfl) gr
  have g2 := written_ok (d := 2) (.inr (.inl rfl)) turn (.inr rfl) gr
  have g3 := written_ok (d := 3) (.inr (.inr rfl)) turn (.inr rfl) gr
  have o1 : PyData.strOk (Str.ofString "refused") = true := by decide +kernel
  have o2 : PyData.strOk (Str.ofString "Wa") = true := by decide +kernel
  have o3 : PyData.strOk (Str.ofString "Ta") = true := by decide +kernel
  have o4 : PyData.strOk (Str.ofString "Wb") = true := by decide +kernel
  have o5 : PyData.strOk (Str.ofString "Tb") = true := by decide +kernel
  have o6 : PyData.strOk (Str.ofString "Wc") = true := by decide +kernel
  have o7 : PyData.strOk (Str.ofString "Tc") = true := by decide +kernel
  unfold whole
  split
  · constructor
    · simp [SeqAt.shaped, refD, PyData.canLay0, PyData.canLayAll0, PyData.depth, PyData.depthAll, o1]
    · simp [refD, SeqAt.noMix, SeqAt.noMixAll]
  · split
    · constructor
      · simp [SeqAt.shaped, refD, PyData.canLay0, PyData.canLayAll0, PyData.depth, PyData.depthAll, o1, o2, w1]
      · simp [refD, SeqAt.noMix, SeqAt.noMixAll]
    · rcases hd with rfl | rfl | rfl
      · constructor
        · simp [SeqAt.shaped, laidD, List.replicate, PyData.canLay0, PyData.canLayAll0, PyData.depth, PyData.depthAll, *]
        · simp [laidD, List.replicate, SeqAt.noMix, SeqAt.noMixAll]
      · constructor
        · simp [SeqAt.shaped, laidD, List.replicate, PyData.canLay0, PyData.canLayAll0, PyData.depth, PyData.depthAll, *]
        · simp [laidD, List.replicate, SeqAt.noMix, SeqAt.noMixAll]
      · constructor
        · simp [SeqAt.shaped, laidD, List.replicate, PyData.canLay0, PyData.canLayAll0, PyData.depth, PyData.depthAll, *]
        · simp [laidD, List.replicate, SeqAt.noMix, SeqAt.noMixAll]
theorem ne_whole {prog : Program} {w : World} {A : Around} {E : Value → Shared → Prop} {s : Shared} {h₀ : Heap} {L : Addr} {led : Led} {a b : Value} {d : Nat} {turn : Int} {wr gr : List (Int × Int)} {bb : Bool} {Q : Value → Shared → Prop}
    (N : News h₀ L s.heap led) (hd : OkD d) (ha : Shows led a (whole d turn wr gr bb)) (hb : Shows led b (whole d turn wr gr bb)) (hu : A.units + 64 < cLine) (h : Q (.bool false) s) :
    wpAny (model prog w) A (compareOp .NotEq a b) Q E s := by
  have hl : ∀ p ∈ led, s.heap.get? p.1 = some p.2 := fun p hp => (N p hp).1
  obtain ⟨as, ra⟩ := ha s.heap hl
  obtain ⟨bs, rb⟩ := hb s.heap hl
  obtain ⟨hs, hm⟩ := whole_ok hd turn wr gr bb
  refine ne_dataH_same ra rb hs hs hu hm ?_
  rw [Spec.same_self]
  exact h
/-! the law's own loop -/
theorem rows_keep {led : Led} {c : Addr} (h : ∀ p ∈ led, ∀ k q ta tb, p.2 = pairTup k q ta tb → p.1 ≠ c) : ∀ {vs : List Value} {rs : List (Int × Int)}, RowsIn led vs rs → RowsIn (led.filter fun p => p.1 ≠ c) vs rs
  | _, _, .nil => .nil
  | _, _, .cons hm r => .cons (List.mem_filter.mpr ⟨hm, decide_eq_true (h _ hm _ _ _ _ rfl)⟩) (rows_keep h r)
theorem pull_cell {h₀ h : Heap} {L c dt T lw lg : Addr} {oc oT : Obj} {v : Option Value} {vs ws gs : List Value} {nt nw ng : Nat} {rest : Led} {wr gr : List (Int × Int)} (N : News h₀ L h ((dt, listOf vs.toArray nt) :: (T, oT) :: (lw, listOf ws.toArray nw) :: (lg, listOf gs.toArray ng) :: rest)) (hc : (c, oc) ∈ rest) (hd : oc.data = .cell v) (hw : RowsIn rest ws wr) (hg : RowsIn rest gs gr) :
    ∃ base : Led, News h₀ L h ((c, oc) :: (dt, listOf vs.toArray nt) :: (lw, listOf ws.toArray nw) :: (lg, listOf gs.toArray ng) :: base) ∧ OwnOff ((dt, listOf vs.toArray nt) :: (lw, listOf ws.toArray nw) :: (lg, listOf gs.toArray ng) :: base) [c] ∧ RowsIn base ws wr ∧ RowsIn base gs gr := by
  have Nc := (N _ (.tail _ (.tail _ (.tail _ (.tail _ hc))))).1
  have ne : ∀ p ∈ ((dt, listOf vs.toArray nt) :: (T, oT) :: (lw, listOf ws.toArray nw) :: (lg, listOf gs.toArray ng) :: rest : Led), (∀ v, p.2.data ≠ .cell v) → p.1 ≠ c := by
    intro p hp hn e
    have := (N p hp).1
    rw [e] at this
    have e2 := this.symm.trans Nc
    exact hn v (by rw [Option.some.inj e2]; exact hd)
  refine ⟨rest.filter fun p => p.1 ≠ c, ?_, ?_, ?_, ?_⟩
  · intro p hp
    simp only [List.mem_cons] at hp
    rcases hp with rfl | rfl | rfl | rfl | hp
    · exact N _ (.tail _ (.tail _ (.tail _ (.tail _ hc))))
    · exact N _ (.head _)
    · exact N _ (.tail _ (.tail _ (.head _)))
    · exact N _ (.tail _ (.tail _ (.tail _ (.head _))))
    · exact N _ (.tail _ (.tail _ (.tail _ (.tail _ (List.mem_filter.mp hp).1))))
  · intro p hp b hb
    rw [List.mem_singleton.mp hb]
    simp only [List.mem_cons] at hp
    rcases hp with rfl | rfl | rfl | hp
    · exact ne _ (.head _) fun v e => nomatch e
    · exact ne _ (.tail _ (.tail _ (.head _))) fun v e => nomatch e
    · exact ne _ (.tail _ (.tail _ (.tail _ (.head _)))) fun v e => nomatch e
    · exact of_decide_eq_true (List.mem_filter.mp hp).2
  · exact rows_keep (fun p hp k q ta tb e => ne p (.tail _ (.tail _ (.tail _ (.tail _ hp)))) fun v => by rw [e]; exact fun x => nomatch x) hw
  · exact rows_keep (fun p hp k q ta tb e => ne p (.tail _ (.tail _ (.tail _ (.tail _ hp)))) fun v => by rw [e]; exact fun x => nomatch x) hg
noncomputable abbrev lawKs : List Str := [Str.ofString "table", Str.ofString "pattern", Str.ofString "page", Str.ofString "answers"]
inductive LawJ (c : Addr) (base : Led) (m0 : Str → Option Value) (I : Addr) (xs : List Value) (m' : Str → Option Value) (n' : Led) : Prop
  | mk (ts : List Int) (oc : Obj) (v : Option Value) (R : Led) (j0 : IntsAre xs ts) (j1 : (∀ t ∈ ts, 0 ≤ t ∧ t < 6)) (j2 : n' = (c, oc) :: R) (j3 : oc.data = .cell v) (j4 : OwnOff R [c]) (j5 : (∀ p ∈ n', @Ne Nat p.1 I)) (j6 : (∀ p ∈ base, p ∈ R)) (j7 : UpdL lawKs m' m0) : LawJ c base m0 I xs m' n'
section
variable {prog : Program} {w : World} {A : Around} {E : Value → Shared → Prop} {s : Shared} {env : Env} {h₀ : Heap} {target : Expr} {body : List Stmt} {Q : Flow → Shared → Prop}
theorem for_law {c ax : Addr} {oc : Obj} {v : Option Value} {vs : List Value} {ts : List Int} {nn : Nat} {m₀ : Str → Option Value} {base : Led}
    (hh : A.handled = none) (F : Fr h₀ env.locals s.heap m₀) (N : News h₀ env.locals s.heap ((c, oc) :: (ax, listOf vs.toArray nn) :: base)) (hd : oc.data = .cell v) (off : OwnOff ((ax, listOf vs.toArray nn) :: base) [c]) (hi : IntsAre vs ts) (ht : ∀ t ∈ ts, 0 ≤ t ∧ t < 6)
    (done : ∀ I m n h tk, LawJ c ((ax, listOf vs.toArray nn) :: base) m₀ I [] m n → Fr h₀ env.locals h m → News h₀ env.locals h n → Q .next { s with heap := h, toks := tk })
    (turn : ∀ I x xs m n h tk o, LawJ c ((ax, listOf vs.toArray nn) :: base) m₀ I (x :: xs) m n → o.cls = .type "list_iterator" → Fr h₀ env.locals h m → News h₀ env.locals h ((I, o) :: n) →
      wpAny (model prog w) A (assign target env x) (fun _ s₂ => wpAny (model prog w) A (execs body env) (UnrPostW h₀ env.locals { s with heap := h, toks := tk } [(I, o)] (fun m' n' => SubL [(ax, listOf vs.toArray nn)] n' ∧ LawJ c ((ax, listOf vs.toArray nn) :: base) m₀ I xs m' n') Q) E s₂) E { s with heap := h, toks := tk }) :
    wpAny (model prog w) A (pyIter (.ref ax)) (fun it s₂ => TurnsAt prog w A h₀ env target body Q E it s₂) E s :=
  for_items (LawJ c ((ax, listOf vs.toArray nn) :: base)) hh F N (.tail _ (.head _)) (fun I hI => ⟨ts, oc, v, _, hi, ht, rfl, hd, off, fun p hp => Nat.ne_of_lt (hI p hp), fun _ h => h, fun _ _ => rfl⟩) done turn
end
section
variable {prog : Program} {w : World} {A : Around} {E : Value → Shared → Prop} {s : Shared} {env : Env} {h₀ : Heap} {target : Expr} {body : List Stmt} {Q : Flow → Shared → Prop}
theorem for_none {ax : Addr} {nn : Nat} {m₀ : Str → Option Value} {news : Led} (hh : A.handled = none) (F : Fr h₀ env.locals s.heap m₀) (N : News h₀ env.locals s.heap news) (hm : (ax, listOf ([] : List Value).toArray nn) ∈ news)
    (done : ∀ h tk, Fr h₀ env.locals h m₀ → News h₀ env.locals h news → Q .next { s with heap := h, toks := tk }) :
    wpAny (model prog w) A (pyIter (.ref ax)) (fun it s₂ => TurnsAt prog w A h₀ env target body Q E it s₂) E s :=
  for_items (fun m0 _ xs m n => xs = [] ∧ m = m0 ∧ n = news) hh F N hm (fun _ _ => ⟨rfl, rfl, rfl⟩) (fun _ m n h tk ⟨_, e1, e2⟩ F N => done h tk (e1 ▸ F) (e2 ▸ N)) fun _ x xs m n h tk o ⟨e, _⟩ => nomatch e
end
theorem sum_le3 (f : Int × Int → Str) (hf : ∀ r, (f r).length ≤ 3) : ∀ rr : List (Int × Int), ((rr.map f).map (·.length)).sum ≤ 3 * rr.length
  | [] => by simp
  | r :: l => by
    have h1 := hf r
    have h2 := sum_le3 f hf l
    simp only [List.map_cons, List.sum_cons, List.length_cons] at h2 ⊢
    omega
theorem raw_weight (turn : Int) {gap : Str} (hg : gap.length ≤ 3) {rr : List (Int × Int)} (hl : rr.length ≤ 8) : ((rr.map fun r => signOf (turned r.1 turn) gap).map (·.length)).sum + (rr.map fun r => signOf (turned r.1 turn) gap).length ≤ 1048576 := by
  have := sum_le3 (fun r => signOf (turned r.1 turn) gap) (fun r => sign_len _ hg) rr
  rw [List.length_map]
  omega
theorem Shows.mono {led led' : Led} {v : Value} {D : PyData} (h : Shows led v D) (hs : ∀ p ∈ led, p ∈ led') : Shows led' v D := fun g hg => h g fun p hp => hg p (hs p hp)
theorem ShowsAll.mono {led led' : Led} (hs : ∀ p ∈ led, p ∈ led') : ∀ {vs : List Value} {Ds : List PyData}, ShowsAll led vs Ds → ShowsAll led' vs Ds
  | _, _, .nil => .nil
  | _, _, .cons h r => .cons (h.mono hs) (r.mono hs)
theorem shows_ref {h₀ h : Heap} {L : Addr} {led : Led} {v : Value} {d : Nat} {turn : Int} {wr gr : List (Int × Int)} {bb : Bool} (N : News h₀ L h led) (hv : Shows led v (whole d turn wr gr bb)) : ∃ T, v = .ref T := by
  obtain ⟨ads, r⟩ := hv h fun p hp => (N p hp).1
  unfold whole at r
  split at r
  · cases r; exact ⟨_, rfl⟩
  · split at r
    · cases r; exact ⟨_, rfl⟩
    · cases r; exact ⟨_, rfl⟩
theorem ctr0_use {w : World} {mean : ExcName → Option Value} {mg mb : Str → Option Value} {f : Addr} {vs : List Value} {news : Led} {D U : Nat} {Ret : Value → Led → Prop}
    {dp un : Nat} {gd : Option (List Code)} {cn : Str} {cs : Scope} {a : Addr} {ccd : Value} {cl : List (Str × Addr)} {A₀ : Around} {base h₀ : Heap} {L : Addr} {m : Str → Option Value} {s : Shared} {Q E : Value → Shared → Prop}
    (C : Ctr0 w mean mg mb f vs news D U Ret) (B : Below A₀ base [] h₀) (F : Fr h₀ L s.heap m) (X : (Mine.hd.heap_1 w.params).In h₀) (N : News h₀ L s.heap news) (T : Top Mine.view lawLoose mean mg mb h₀) (XB : (Mine.hd.heap_1 w.params).In base) (TB : Top Mine.view lawLoose mean mg mb base) (hk : cs.kind = .function)
    (hd : dp + D < recursionLimit) (hu : un + U < cLine)
    (ret : ∀ v news' h' tk', Ret v news' → Fr h₀ L h' m → News h₀ L h' news' → Q v { s with heap := h', toks := tk' }) :
    wpAny (model lawProg w) (ktrTop dp un gd cn cs L a ccd cl []) (call (.ref f) vs) Q E s := C _ _ _ _ _ _ _ _ _ _ _ _ _ _ _ _ B F X N T XB TB hk hd hu ret
theorem news_pull {h₀ h : Heap} {L : Addr} {p : Addr × Obj} {led : Led} (N : News h₀ L h led) (hp : p ∈ led) : News h₀ L h (p :: led.filter fun q => q.1 ≠ p.1) := by
  intro q hq
  rcases List.mem_cons.mp hq with rfl | hq
  · exact N _ hp
  · exact N _ (List.mem_filter.mp hq).1
theorem off_pull (a : Addr) (led : Led) : OwnOff (led.filter fun q => q.1 ≠ a) [a] := by
  intro q hq b hb
  rw [List.mem_singleton.mp hb]
  exact of_decide_eq_true (List.mem_filter.mp hq).2
theorem mem_pull {a : Addr} {led : Led} {p : Addr × Obj} (h : p ∈ led) (hn : @Ne Nat p.1 a) : p ∈ led.filter fun q => q.1 ≠ a := List.mem_filter.mpr ⟨h, decide_eq_true hn⟩
theorem law_end {h₀ h' : Heap} {L c I ax : Addr} {o oc : Obj} {v : Option Value} {s₁ : Shared} {tk : Nat} {m' m0 : Str → Option Value} {led base : Led} {xs vs : List Value} {ts : List Int} {nn : Nat} (F : Fr h₀ L h' m') (N : News h₀ L h' led) (mI : (I, o) ∈ led) (mc : (c, oc) ∈ led) (hcd : oc.data = .cell v) (hcI : @Ne Nat c I)
    (hb : ∀ p ∈ ((ax, listOf vs.toArray nn) :: base : Led), p ∈ led ∧ @Ne Nat p.1 c ∧ @Ne Nat p.1 I) (hx : IntsAre xs ts) (ht : ∀ t ∈ ts, 0 ≤ t ∧ t < 6) (hU : UpdL lawKs m' m0) :
    UnrEndW h₀ L s₁ [(I, o)] (fun m' n' => SubL [(ax, listOf vs.toArray nn)] n' ∧ LawJ c ((ax, listOf vs.toArray nn) :: base) m0 I xs m' n') { s₁ with heap := h', toks := tk } := by
  have hf : ∀ p ∈ ((ax, listOf vs.toArray nn) :: base : Led), p ∈ led.filter fun q => decide (q.1 ≠ c) && decide (q.1 ≠ I) := fun p hp => by
    obtain ⟨h1, h2, h3⟩ := hb p hp
    exact List.mem_filter.mpr ⟨h1, by rw [decide_eq_true h2, decide_eq_true h3]; rfl⟩
  have hI : ∀ p ∈ ((c, oc) :: led.filter fun q => decide (q.1 ≠ c) && decide (q.1 ≠ I) : Led), @Ne Nat p.1 I := fun p hp => by
    rcases List.mem_cons.mp hp with rfl | hp
    · exact hcI
    · exact of_decide_eq_true (Bool.and_eq_true_iff.mp (List.mem_filter.mp hp).2).2
  refine ⟨h', tk, m', (c, oc) :: led.filter fun q => decide (q.1 ≠ c) && decide (q.1 ≠ I), rfl, F, ?_, fun p hp q hq => by rw [List.mem_singleton.mp hq]; exact hI p hp, ⟨.tail _ (hf _ (.head _)), trivial⟩, ts, oc, v, _, hx, ht, rfl, hcd, ?_, hI, hf, hU⟩
  · intro p hp
    rcases List.mem_append.mp hp with hp | hp
    · rw [List.mem_singleton.mp hp]; exact N _ mI
    · rcases List.mem_cons.mp hp with rfl | hp
      · exact N _ mc
      · exact N _ (List.mem_filter.mp hp).1
  · intro p hp b hb'
    rw [List.mem_singleton.mp hb']
    exact of_decide_eq_true (Bool.and_eq_true_iff.mp (List.mem_filter.mp hp).2).1
theorem join_raw {prog : Program} {w : World} {A : Around} {E : Value → Shared → Prop} {s : Shared} {D : Addr} {items : Array Value} {turn : Int} {gap : Str} {rr : List (Int × Int)} {t : Tok} {Q : Value → Shared → Prop} (hl : s.heap.IsList D items) (hi : StrsAre items.toList (rr.map fun r => signOf (turned r.1 turn) gap)) (hg : gap.length ≤ 3) (hz : rr.length ≤ 8)
    (h : ∀ t' k, Q (.str (rawOf turn gap rr) t') { s with toks := k }) : wpAny (model prog w) A (call (.builtin "str.join") [.str (Str.ofString "") t, .ref D]) Q E s := by
  have e : Str.ofString "" = Str.empty := by decide +kernel
  rw [e]
  exact join_listW hl hi (by decide) (raw_weight turn hg hz) h
theorem news_pull5 {h₀ h : Heap} {L : Addr} {y z a b l : Addr × Obj} {r : Led} (N : News h₀ L h (y :: z :: a :: b :: l :: r)) : News h₀ L h (l :: a :: b :: r) := by
  intro p hp
  simp only [List.mem_cons] at hp
  rcases hp with rfl | rfl | rfl | hp
  · exact N _ (.tail _ (.tail _ (.tail _ (.tail _ (.head _)))))
  · exact N _ (.tail _ (.tail _ (.head _)))
  · exact N _ (.tail _ (.tail _ (.tail _ (.head _))))
  · exact N _ (.tail _ (.tail _ (.tail _ (.tail _ (.tail _ hp)))))
theorem off_of_lt {a : Addr} {r : Led} (h : AllLt a r) : OwnOff r [a] := by
  intro p hp b hb
  rw [List.mem_singleton.mp hb]; exact Nat.ne_of_lt (allLt_mem h p hp)
theorem match_bool (w g : List Int) : ∃ bb : Bool, bb = true ↔ Match w g := by
  classical
  exact ⟨decide (Match w g), decide_eq_true_iff⟩
/-- facts laid by, out of the walk's sight -/
structure Hold (p : Prop) : Prop where
  out : p
theorem wrapped_kept (w : World) (mean : ExcName → Option Value) (mg mb : Str → Option Value) (rest : Led) (x dx lx : Addr) (n n2 : Nat) (t0 : Tok) (d : Nat) (hd : OkD d) (turn : Int) (wr gr : List (Int × Int)) (bb : Bool) (hbb : bb = true ↔ Match (kinds wr) (kinds gr)) (hw : RowOk wr) (hg : RowOk gr) (h0 : wr ≠ [] ∧ gr ≠ []) (hl : wr.length ≤ 8 ∧ gr.length ≤ 8) (t1 t2 t3 : Tok) (m1 : (x, instObj 226 dx) ∈ rest) (m2 : (dx, dictOf [⟨PyData.keyHash w.params (Str.ofString "_headers"), .str (Str.ofString "_headers") t0, .ref lx⟩] n2) ∈ rest) (off : OwnOff rest [lx]) :
    Ctr0 w mean mg mb 272 [.ref x, .str (rawOf turn gapP wr) t1, .str (rawOf turn gapG gr) t2, .int d t3] ((lx, listOf ([] : List Value).toArray n) :: rest) 8 100 (fun v led => WrapRet lx rest (whole d turn wr gr bb) v led ∧ (x, instObj 226 dx) ∈ led ∧ (dx, dictOf [⟨PyData.keyHash w.params (Str.ofString "_headers"), .str (Str.ofString "_headers") t0, .ref lx⟩] n2) ∈ led) :=
  Ctr0.mono w mean mg mb (wrapped_all w mean mg mb rest x dx lx n n2 t0 d hd turn wr gr bb hbb hw hg h0 hl t1 t2 t3 m1 m2 off) fun v led h => by
    obtain ⟨la, its, n9, AD, HD, e, h1, h2, h3⟩ := h
    exact ⟨⟨la, its, n9, AD, HD, e, h1, h2, h3⟩, h2 _ m1, h2 _ m2⟩
theorem sub_pull {h₀ h : Heap} {L : Addr} {p : Addr × Obj} {led : Led} (N : News h₀ L h led) (hp : p ∈ led) : ∀ q ∈ led, q ∈ p :: led.filter fun q => q.1 ≠ p.1 := by
  intro q hq
  by_cases e : q.1 = p.1
  · have h1 := (N _ hq).1
    have h2 := (N _ hp).1
    rw [e] at h1
    have h3 := Option.some.inj (h1.symm.trans h2)
    have : q = p := Prod.ext e h3
    rw [this]; exact .head _
  · exact .tail _ (List.mem_filter.mpr ⟨hq, decide_eq_true e⟩)
theorem cell_out {h₀ h : Heap} {L c : Addr} {oc : Obj} {led : Led} (N : News h₀ L h led) (hc : (c, oc) ∈ led) : ∃ led0 : Led, News h₀ L h ((c, oc) :: led0) ∧ (∀ q ∈ led, q ∈ (c, oc) :: led0) ∧ ∀ q ∈ led, @Ne Nat q.1 c → q ∈ led0 :=
  ⟨_, news_pull N hc, sub_pull N hc, fun q hq hn => List.mem_filter.mpr ⟨hq, decide_eq_true hn⟩⟩
theorem depth_nat (x : Int) : ∃ d : Nat, OkD d ∧ 1 + (x + 1).fmod 3 = (d : Int) := by
  rw [Int.fmod_eq_emod_of_nonneg _ (by decide)]
  have : (x + 1) % 3 = 0 ∨ (x + 1) % 3 = 1 ∨ (x + 1) % 3 = 2 := by omega
  rcases this with h | h | h <;> rw [h]
  · exact ⟨1, .inl rfl, rfl⟩
  · exact ⟨2, .inr (.inl rfl), rfl⟩
  · exact ⟨3, .inr (.inr rfl), rfl⟩
theorem turn_b (x : Int) : 0 ≤ 1 + (x.fdiv 3).fmod 5 ∧ 1 + (x.fdiv 3).fmod 5 < 6 := by
  rw [Int.fmod_eq_emod_of_nonneg _ (by decide)]
  omega
theorem script_rows (o : Int) (l : List Int) : (wantOf ([1, o, 19] ++ l.take 5)).length ≤ 8 ∧ (gotOf ([1, o, 19] ++ l.take 5)).length ≤ 8 ∧ wantOf ([1, o, 19] ++ l.take 5) ≠ [] ∧ gotOf ([1, o, 19] ++ l.take 5) ≠ [] := by
  have h1 := wantOf_len ([1, o, 19] ++ l.take 5)
  have h2 := gotOf_len ([1, o, 19] ++ l.take 5)
  have h3 : ([1, o, 19] ++ l.take 5).length ≤ 8 := by rw [List.length_append, List.length_take]; simp only [List.length_cons, List.length_nil]; omega
  refine ⟨by omega, by omega, ?_, ?_⟩
  · rw [List.cons_append, wantOf]; simp
  · rw [List.cons_append, gotOf, if_neg (by decide)]; simp
end Mine
end PartL0
section PartL1
open PySem PySem.W PyProof.Rows
namespace Mine
theorem offL1 : True := by w_top off; trivial
local macro_rules | `(tactic| k_mem) => `(tactic| (first | assumption | (refine List.mem_cons_of_mem _ ?_; (first | assumption | (refine List.mem_cons_of_mem _ ?_; (first | assumption | (refine List.mem_cons_of_mem _ ?_; (first | assumption | (refine List.mem_cons_of_mem _ ?_; (first | assumption | (refine List.mem_cons_of_mem _ ?_; (first | assumption | (refine List.mem_cons_of_mem _ ?_; (first | assumption | (refine List.mem_cons_of_mem _ ?_; (first | assumption | (refine List.mem_cons_of_mem _ ?_; (first | assumption | (refine List.mem_cons_of_mem _ ?_; assumption)))))))))))))))))))
local macro_rules | `(tactic| walk_at "SrcLP") => `(tactic| (k_here; refine halt ?_))
local macro_rules | `(tactic| walk_at "eval ListComp") => `(tactic| (k_here; lcp_look; k_dflt (refine LCp.ListComp_P (F₀ := by k_asm) (by with_unfolding_all rfl) (by decide) (by rfl) (by decide) (by rfl) (by rfl) (by decide) ?_); k_dflt lcp_toSrc))
theorem len5 {l : List Int} {f : Int → Int} : ((List.take 5 l).map f).length ≤ 5 := by rw [List.length_map, List.length_take]; omega
theorem fmod2_b (x : Int) : 0 ≤ x.fmod 2 ∧ x.fmod 2 < 2 := fmod_lo2 x
local macro_rules | `(tactic| k_qdec) => `(tactic| decide +kernel)
theorem law_holds : PySem.Challenge.rw_pg0299_01.Holds := Mine.hd (by
  k_go0
  (all_goals try k_fold)
  repeat' (first | ((k_unfold); (try dsimp only)) | (k_end; kc_close) | ((with_reducible show wpAny _ _ (getMethod (Value.ref _) _ _) _ _ _); first | with_reducible ((k_here; (with_reducible show wpAny _ _ (getMethod (Value.ref _) (PySem.Str.ofString "items") _) _ _ _); refine halt ?_)) | ((k_here; (with_reducible show wpAny _ _ (getMethod (Value.ref _) (PySem.Str.ofString "items") _) _ _ _); refine halt ?_))) | ((with_reducible show wpAny _ _ (compareOp CmpOp.NotEq _ _) _ _ _); first | with_reducible ((k_here; refine halt ?_)) | ((k_here; refine halt ?_))) | ((with_reducible show wpAny _ _ (call (Value.ref _) _ _) _ _ _); first | with_reducible ((k_here; (with_reducible show wpAny _ _ (call (Value.ref 287) _ _) _ _ _); refine halt ?_)) | ((k_here; (with_reducible show wpAny _ _ (call (Value.ref 287) _ _) _ _ _); refine halt ?_))) | ((with_reducible show wpAny _ _ (call (Value.ref _) _ _) _ _ _); ((k_here; (with_reducible show wpAny _ _ (call (Value.ref 190) [Value.ref _] _) _ _ _); k_dflt (refine' ctr_use (items_ctr _ _ _ _ _ _ _ _ _ _ _ _ ?zqm1 ?zqm2 ?zqhm ?zqhl) ?zqB ?zqF ?zqX ?zqN ?zqT ?zqhk ?zqhd ?zqhu ?_; (case zqB => k_asm); (case zqF => k_asm); (case zqX => k_asm); (case zqN => k_asm); (case zqT => k_asm); (case zqm1 => k_mem); (case zqm2 => k_mem); (case zqhm => k_mem); (case zqhl => assumption); (case zqhk => first | exact rfl | assumption); (case zqhd => first | exact room (by assumption) (by decide) | exact room0 (by assumption) (by decide) | ktr_room); (case zqhu => first | exact room (by assumption) (by decide) | exact room0 (by assumption) (by decide) | ktr_units); intro v9 n9 h9 tk9 R9 F9 N9; obtain ⟨l29, n39, e8, e9⟩ := R9; subst e9; subst e8; (try dsimp only); (try k_sweep); (try k_fold))))) | ((with_reducible show wpAny _ _ (call (Value.builtin "str.join") _ _) _ _ _); first | with_reducible ((k_here; refine halt ?_)) | ((k_here; refine halt ?_))) | ((with_reducible show wpAny _ _ (call (Value.ref _) _ _) _ _ _); first | with_reducible ((k_here; (with_reducible show wpAny _ _ (call (Value.ref 272) _ _) _ _ _); refine halt ?_)) | ((k_here; (with_reducible show wpAny _ _ (call (Value.ref 272) _ _) _ _ _); refine halt ?_))) | ((with_reducible show wpAny _ _ (call (Value.ref _) _ _) _ _ _); ((k_here; (with_reducible show wpAny _ _ (call (Value.ref 265) [Value.int _ _, Value.int _ _, Value.int _ _] _) _ _ _); k_dflt (refine' use_val (law_page _ _ _ _ _ _ _ _ ?zqh1 ?zqh2 ?zqh3 ?zqh4 ?zqh5 ?zqh6 _ _ _ 0) ?zqB ?zqF ?zqX ?zqN ?zqT ?zqhk ?zqhd ?zqhu ?_; (case zqB => k_asm); (case zqF => k_asm); (case zqX => k_asm); (case zqN => k_asm); (case zqT => k_asm); (case zqh1 => assumption); (case zqh2 => assumption); (case zqh3 => assumption); (case zqh4 => assumption); (case zqh5 => assumption); (case zqh6 => assumption); (case zqhk => first | exact rfl | assumption); (case zqhd => first | exact room (by assumption) (by decide) | exact room0 (by assumption) (by decide) | ktr_room); (case zqhu => first | exact room (by assumption) (by decide) | exact room0 (by assumption) (by decide) | ktr_units); intro h9 tk9 t9 F9 N9; (try dsimp only); (try k_sweep); (try k_fold))))) | ((with_reducible show wpAny _ _ (call (Value.ref _) _ _) _ _ _); ((k_here; (with_reducible show wpAny _ _ (call (Value.ref 258) [Value.int _ _, Value.int _ _, Value.int _ _] _) _ _ _); k_dflt (refine' use_val (law_pattern _ _ _ _ _ _ _ _ ?zqh1 ?zqh2 ?zqh3 ?zqh4 ?zqh5 ?zqh6 _ _ _ 0) ?zqB ?zqF ?zqX ?zqN ?zqT ?zqhk ?zqhd ?zqhu ?_; (case zqB => k_asm); (case zqF => k_asm); (case zqX => k_asm); (case zqN => k_asm); (case zqT => k_asm); (case zqh1 => assumption); (case zqh2 => assumption); (case zqh3 => assumption); (case zqh4 => assumption); (case zqh5 => assumption); (case zqh6 => assumption); (case zqhk => first | exact rfl | assumption); (case zqhd => first | exact room (by assumption) (by decide) | exact room0 (by assumption) (by decide) | ktr_room); (case zqhu => first | exact room (by assumption) (by decide) | exact room0 (by assumption) (by decide) | ktr_units); intro h9 tk9 t9 F9 N9; (try dsimp only); (try k_sweep); (try k_fold))))) | ((with_reducible show wpAny _ _ (call (Value.ref _) _ _) _ _ _); ((k_here; (with_reducible show wpAny _ _ (call (Value.ref 237) [Value.ref _, Value.int _ _] _) _ _ _); k_dflt (refine' ctr_use (rows_ctr _ _ _ _ _ _ _ _ _ _ _ ?zqm1 ?zqm2 ?zqm3 ?zqm4 ?zqm5) ?zqB ?zqF ?zqX ?zqN ?zqT ?zqhk ?zqhd ?zqhu ?_; (case zqB => k_asm); (case zqF => k_asm); (case zqX => k_asm); (case zqN => k_asm); (case zqT => k_asm); (case zqm1 => first | exact .head _ | exact .tail _ (.head _)); (case zqm2 => assumption); (case zqm3 => exact len5); (case zqm4 => exact (fmod2_b _).1); (case zqm5 => exact (fmod2_b _).2); (case zqhk => first | exact rfl | assumption); (case zqhd => first | exact room (by assumption) (by decide) | exact room0 (by assumption) (by decide) | ktr_room); (case zqhu => first | exact room (by assumption) (by decide) | exact room0 (by assumption) (by decide) | ktr_units); intro v9 n9 h9 tk9 R9 F9 N9; obtain ⟨T9, lw9, lg9, ws9, gs9, nw9, ng9, rest9, e8, e9, hs9, hw9, hg9⟩ := R9; subst e9; subst e8; (try dsimp only); (try k_sweep); (try k_fold))))) | ((with_reducible show wpAny _ _ (pyIter (Value.ref _)) _ _ _); ((k_here; (with_reducible show wpAny _ _ (pyIter (Value.ref _)) (fun it s₂ => TurnsAt _ _ _ _ _ (PySem.Expr.Tuple _ _ _) _ _ _ it s₂) _ _); (refine' for_none ?zqh ?zqF ?zqN ?zqm ?_; (case zqh => exact rfl); (case zqF => k_asm); (case zqN => k_asm); (case zqm => (repeat first | with_unfolding_all exact List.Mem.head _ | refine List.Mem.tail _ ?_))); intro h9 tk9 F9 N9))) | ((with_reducible show wpAny _ _ (exec (Stmt.For _ _ _ _ _) _) _ _ _); ((k_here; (with_reducible show wpAny _ _ (exec (Stmt.For (PySem.Expr.Tuple _ _ _) (PySem.Expr.Name _ _) _ _ _) _) _ _ _); (rename Fr _ _ _ _ => lF'); (with_unfolding_all refine' For_turns lF' ?_; k_whole)))) | ((with_reducible show wpAny _ _ (pyIter (Value.ref _)) _ _ _); first | with_reducible ((k_here; (with_reducible show wpAny _ _ (pyIter (Value.ref _)) (fun it s₂ => TurnsAt _ _ _ _ _ (PySem.Expr.Name _ _) _ _ _ it s₂) _ _); refine halt ?_)) | ((k_here; (with_reducible show wpAny _ _ (pyIter (Value.ref _)) (fun it s₂ => TurnsAt _ _ _ _ _ (PySem.Expr.Name _ _) _ _ _ it s₂) _ _); refine halt ?_))) | ((with_reducible show wpAny _ _ (exec (Stmt.For _ _ _ _ _) _) _ _ _); ((k_here; (with_reducible show wpAny _ _ (exec (Stmt.For (PySem.Expr.Name _ _) _ _ _ _) _) _ _ _); (rename Fr _ _ _ _ => lF'); (with_unfolding_all refine' For_turns lF' ?_; k_whole)))) | ((with_reducible show wpAny _ _ (storeName _ _ _) _ _ _); ((k_here; k_dflt ((refine' store_let ?zqF ?zqN ?_ ?zqa ?zqb; (case zqF => k_asm); (case zqN => k_asm); (case zqa => rfl); (case zqb => rfl); k_whole; intro m' h' tk' F' N'; (try k_sweep)))))) | walk1 | ((with_reducible show wpAny _ _ (exec (Stmt.For _ _ _ _ _) _) _ _ _); ((k_here; (with_reducible show wpAny _ _ (exec (Stmt.For (PySem.Expr.Tuple _ _ _) (PySem.Expr.Name _ _) _ _ _) _) _ _ _); (rename Fr _ _ _ _ => lF'); (with_unfolding_all refine' For_turns lF' ?_; k_whole)))) | (dsimp only; walk1) | (leave1; (try dsimp only)) | fail "no step")
  unfold Halt
  (rename News _ _ _ ((_, _) :: (_, _) :: (_, _) :: (_, _) :: _) => kN)
  (rename RowsIn _ _ (wantOf _) => kw)
  (rename RowsIn _ _ (gotOf _) => kg)
  (rename ∀ p, p ∈ _ → p ∈ _ => ks)
  (rename List Int => ns)
  obtain ⟨d, hd, hde⟩ := depth_nat ns.sum
  have htb := turn_b ns.sum
  obtain ⟨wl8, gl8, wne, gne⟩ := script_rows (if ns.sum.fmod 2 = 0 then 203 else 11) (List.map (fun k' => k'.fmod 384) (List.take 5 ns))
  have wok := want_ok ([1, if ns.sum.fmod 2 = 0 then 203 else 11, 19] ++ (List.map (fun k' => k'.fmod 384) (List.take 5 ns)).take 5)
  have gok := got_ok ([1, if ns.sum.fmod 2 = 0 then 203 else 11, 19] ++ (List.map (fun k' => k'.fmod 384) (List.take 5 ns)).take 5)
  revert kw kg wl8 gl8 wne gne wok gok
  generalize wantOf ([1, if ns.sum.fmod 2 = 0 then 203 else 11, 19] ++ (List.map (fun k' => k'.fmod 384) (List.take 5 ns)).take 5) = wr
  generalize gotOf ([1, if ns.sum.fmod 2 = 0 then 203 else 11, 19] ++ (List.map (fun k' => k'.fmod 384) (List.take 5 ns)).take 5) = gr
  intro kw kg wl8 gl8 wne gne wok gok
  (rename Obj.data _ = Data.cell _ => kc)
  obtain ⟨base, kN2, koff, kw2, kg2⟩ := pull_cell kN (ks _ (by first | exact .tail _ (.head _) | exact .tail _ (.tail _ (.head _)) | exact .head _)) kc kw kg
  clear kw kg ks kN
  refine for_law (ts := [0, 1 + (ns.sum.fdiv 3).fmod 5]) rfl (by k_asm) kN2 kc koff (.cons _ _ (.cons _ _ .nil)) ?_ ?_ ?_
  · intro t ht
    rcases List.mem_cons.mp ht with rfl | ht
    · decide
    · rw [List.mem_singleton.mp ht]; exact htb
  · intro I m n h tk hJ95 F N; (try k_fold); obtain ⟨ts, oc, v, R, hx, ht, rfl, hcd, hoff, hI, hsub, hU⟩ := hJ95
    cases hx
    rw [hU.exE] at F
    dsimp only [chain] at F
    refine map_let F ?_; clear F; intro m9 F
    repeat' (first | ((k_unfold); (try dsimp only)) | (k_end; kc_close) | ((with_reducible show wpAny _ _ (getMethod (Value.ref _) _ _) _ _ _); first | with_reducible ((k_here; (with_reducible show wpAny _ _ (getMethod (Value.ref _) (PySem.Str.ofString "items") _) _ _ _); refine halt ?_)) | ((k_here; (with_reducible show wpAny _ _ (getMethod (Value.ref _) (PySem.Str.ofString "items") _) _ _ _); refine halt ?_))) | ((with_reducible show wpAny _ _ (compareOp CmpOp.NotEq _ _) _ _ _); first | with_reducible ((k_here; refine halt ?_)) | ((k_here; refine halt ?_))) | ((with_reducible show wpAny _ _ (call (Value.ref _) _ _) _ _ _); first | with_reducible ((k_here; (with_reducible show wpAny _ _ (call (Value.ref 287) _ _) _ _ _); refine halt ?_)) | ((k_here; (with_reducible show wpAny _ _ (call (Value.ref 287) _ _) _ _ _); refine halt ?_))) | ((with_reducible show wpAny _ _ (call (Value.ref _) _ _) _ _ _); ((k_here; (with_reducible show wpAny _ _ (call (Value.ref 190) [Value.ref _] _) _ _ _); k_dflt (refine' ctr_use (items_ctr _ _ _ _ _ _ _ _ _ _ _ _ ?zqm1 ?zqm2 ?zqhm ?zqhl) ?zqB ?zqF ?zqX ?zqN ?zqT ?zqhk ?zqhd ?zqhu ?_; (case zqB => k_asm); (case zqF => k_asm); (case zqX => k_asm); (case zqN => k_asm); (case zqT => k_asm); (case zqm1 => k_mem); (case zqm2 => k_mem); (case zqhm => k_mem); (case zqhl => assumption); (case zqhk => first | exact rfl | assumption); (case zqhd => first | exact room (by assumption) (by decide) | exact room0 (by assumption) (by decide) | ktr_room); (case zqhu => first | exact room (by assumption) (by decide) | exact room0 (by assumption) (by decide) | ktr_units); intro v9 n9 h9 tk9 R9 F9 N9; obtain ⟨l29, n39, e8, e9⟩ := R9; subst e9; subst e8; (try dsimp only); (try k_sweep); (try k_fold))))) | ((with_reducible show wpAny _ _ (call (Value.builtin "str.join") _ _) _ _ _); first | with_reducible ((k_here; refine halt ?_)) | ((k_here; refine halt ?_))) | ((with_reducible show wpAny _ _ (call (Value.ref _) _ _) _ _ _); first | with_reducible ((k_here; (with_reducible show wpAny _ _ (call (Value.ref 272) _ _) _ _ _); refine halt ?_)) | ((k_here; (with_reducible show wpAny _ _ (call (Value.ref 272) _ _) _ _ _); refine halt ?_))) | ((with_reducible show wpAny _ _ (call (Value.ref _) _ _) _ _ _); ((k_here; (with_reducible show wpAny _ _ (call (Value.ref 265) [Value.int _ _, Value.int _ _, Value.int _ _] _) _ _ _); k_dflt (refine' use_val (law_page _ _ _ _ _ _ _ _ ?zqh1 ?zqh2 ?zqh3 ?zqh4 ?zqh5 ?zqh6 _ _ _ 0) ?zqB ?zqF ?zqX ?zqN ?zqT ?zqhk ?zqhd ?zqhu ?_; (case zqB => k_asm); (case zqF => k_asm); (case zqX => k_asm); (case zqN => k_asm); (case zqT => k_asm); (case zqh1 => assumption); (case zqh2 => assumption); (case zqh3 => assumption); (case zqh4 => assumption); (case zqh5 => assumption); (case zqh6 => assumption); (case zqhk => first | exact rfl | assumption); (case zqhd => first | exact room (by assumption) (by decide) | exact room0 (by assumption) (by decide) | ktr_room); (case zqhu => first | exact room (by assumption) (by decide) | exact room0 (by assumption) (by decide) | ktr_units); intro h9 tk9 t9 F9 N9; (try dsimp only); (try k_sweep); (try k_fold))))) | ((with_reducible show wpAny _ _ (call (Value.ref _) _ _) _ _ _); ((k_here; (with_reducible show wpAny _ _ (call (Value.ref 258) [Value.int _ _, Value.int _ _, Value.int _ _] _) _ _ _); k_dflt (refine' use_val (law_pattern _ _ _ _ _ _ _ _ ?zqh1 ?zqh2 ?zqh3 ?zqh4 ?zqh5 ?zqh6 _ _ _ 0) ?zqB ?zqF ?zqX ?zqN ?zqT ?zqhk ?zqhd ?zqhu ?_; (case zqB => k_asm); (case zqF => k_asm); (case zqX => k_asm); (case zqN => k_asm); (case zqT => k_asm); (case zqh1 => assumption); (case zqh2 => assumption); (case zqh3 => assumption); (case zqh4 => assumption); (case zqh5 => assumption); (case zqh6 => assumption); (case zqhk => first | exact rfl | assumption); (case zqhd => first | exact room (by assumption) (by decide) | exact room0 (by assumption) (by decide) | ktr_room); (case zqhu => first | exact room (by assumption) (by decide) | exact room0 (by assumption) (by decide) | ktr_units); intro h9 tk9 t9 F9 N9; (try dsimp only); (try k_sweep); (try k_fold))))) | ((with_reducible show wpAny _ _ (call (Value.ref _) _ _) _ _ _); ((k_here; (with_reducible show wpAny _ _ (call (Value.ref 237) [Value.ref _, Value.int _ _] _) _ _ _); k_dflt (refine' ctr_use (rows_ctr _ _ _ _ _ _ _ _ _ _ _ ?zqm1 ?zqm2 ?zqm3 ?zqm4 ?zqm5) ?zqB ?zqF ?zqX ?zqN ?zqT ?zqhk ?zqhd ?zqhu ?_; (case zqB => k_asm); (case zqF => k_asm); (case zqX => k_asm); (case zqN => k_asm); (case zqT => k_asm); (case zqm1 => first | exact .head _ | exact .tail _ (.head _)); (case zqm2 => assumption); (case zqm3 => exact len5); (case zqm4 => exact (fmod2_b _).1); (case zqm5 => exact (fmod2_b _).2); (case zqhk => first | exact rfl | assumption); (case zqhd => first | exact room (by assumption) (by decide) | exact room0 (by assumption) (by decide) | ktr_room); (case zqhu => first | exact room (by assumption) (by decide) | exact room0 (by assumption) (by decide) | ktr_units); intro v9 n9 h9 tk9 R9 F9 N9; obtain ⟨T9, lw9, lg9, ws9, gs9, nw9, ng9, rest9, e8, e9, hs9, hw9, hg9⟩ := R9; subst e9; subst e8; (try dsimp only); (try k_sweep); (try k_fold))))) | ((with_reducible show wpAny _ _ (pyIter (Value.ref _)) _ _ _); ((k_here; (with_reducible show wpAny _ _ (pyIter (Value.ref _)) (fun it s₂ => TurnsAt _ _ _ _ _ (PySem.Expr.Tuple _ _ _) _ _ _ it s₂) _ _); (refine' for_none ?zqh ?zqF ?zqN ?zqm ?_; (case zqh => exact rfl); (case zqF => k_asm); (case zqN => k_asm); (case zqm => (repeat first | with_unfolding_all exact List.Mem.head _ | refine List.Mem.tail _ ?_))); intro h9 tk9 F9 N9))) | ((with_reducible show wpAny _ _ (exec (Stmt.For _ _ _ _ _) _) _ _ _); ((k_here; (with_reducible show wpAny _ _ (exec (Stmt.For (PySem.Expr.Tuple _ _ _) (PySem.Expr.Name _ _) _ _ _) _) _ _ _); (rename Fr _ _ _ _ => lF'); (with_unfolding_all refine' For_turns lF' ?_; k_whole)))) | ((with_reducible show wpAny _ _ (pyIter (Value.ref _)) _ _ _); first | with_reducible ((k_here; (with_reducible show wpAny _ _ (pyIter (Value.ref _)) (fun it s₂ => TurnsAt _ _ _ _ _ (PySem.Expr.Name _ _) _ _ _ it s₂) _ _); refine halt ?_)) | ((k_here; (with_reducible show wpAny _ _ (pyIter (Value.ref _)) (fun it s₂ => TurnsAt _ _ _ _ _ (PySem.Expr.Name _ _) _ _ _ it s₂) _ _); refine halt ?_))) | ((with_reducible show wpAny _ _ (exec (Stmt.For _ _ _ _ _) _) _ _ _); ((k_here; (with_reducible show wpAny _ _ (exec (Stmt.For (PySem.Expr.Name _ _) _ _ _ _) _) _ _ _); (rename Fr _ _ _ _ => lF'); (with_unfolding_all refine' For_turns lF' ?_; k_whole)))) | ((with_reducible show wpAny _ _ (storeName _ _ _) _ _ _); ((k_here; k_dflt ((refine' store_let ?zqF ?zqN ?_ ?zqa ?zqb; (case zqF => k_asm); (case zqN => k_asm); (case zqa => rfl); (case zqb => rfl); k_whole; intro m' h' tk' F' N'; (try k_sweep)))))) | walk1 | ((with_reducible show wpAny _ _ (exec (Stmt.For _ _ _ _ _) _) _ _ _); ((k_here; (with_reducible show wpAny _ _ (exec (Stmt.For (PySem.Expr.Tuple _ _ _) (PySem.Expr.Name _ _) _ _ _) _) _ _ _); (rename Fr _ _ _ _ => lF'); (with_unfolding_all refine' For_turns lF' ?_; k_whole)))) | (dsimp only; walk1) | (leave1; (try dsimp only)) | fail "no step")
  · intro I x xs m n h tk o hJ98 ho F N; (try k_fold); obtain ⟨ts, oc, v, R, hx, ht, rfl, hcd, hoff, hI, hsub, hU⟩ := hJ98
    cases hx
    rename_i turn tt ts' hx
    obtain ⟨ht0, ht6⟩ := ht turn (.head _)
    rw [hU.exE] at F
    dsimp only [chain] at F
    simp +zetaDelta only [hde] at F
    refine map_let F ?_; clear F; intro m9 F
    have hlw := hsub _ (.tail _ (.head _))
    have hlg := hsub _ (.tail _ (.tail _ (.head _)))
    have hrw := RowsIn.mono (fun p hp => hsub p (.tail _ (.tail _ (.tail _ hp)))) kw2
    have hrg := RowsIn.mono (fun p hp => hsub p (.tail _ (.tail _ (.tail _ hp)))) kg2
    have hIR := fun p hp => hI p (.tail _ hp)
    have hIc := hI _ (.head _)
    clear hI kN2 kw2 kg2 koff
    repeat' (first | ((k_unfold); (try dsimp only)) | (k_end; kc_close) | ((with_reducible show wpAny _ _ (getMethod (Value.ref _) _ _) _ _ _); first | with_reducible ((k_here; (with_reducible show wpAny _ _ (getMethod (Value.ref _) (PySem.Str.ofString "items") _) _ _ _); refine halt ?_)) | ((k_here; (with_reducible show wpAny _ _ (getMethod (Value.ref _) (PySem.Str.ofString "items") _) _ _ _); refine halt ?_))) | ((with_reducible show wpAny _ _ (compareOp CmpOp.NotEq _ _) _ _ _); first | with_reducible ((k_here; refine halt ?_)) | ((k_here; refine halt ?_))) | ((with_reducible show wpAny _ _ (call (Value.ref _) _ _) _ _ _); first | with_reducible ((k_here; (with_reducible show wpAny _ _ (call (Value.ref 287) _ _) _ _ _); refine halt ?_)) | ((k_here; (with_reducible show wpAny _ _ (call (Value.ref 287) _ _) _ _ _); refine halt ?_))) | ((with_reducible show wpAny _ _ (call (Value.ref _) _ _) _ _ _); ((k_here; (with_reducible show wpAny _ _ (call (Value.ref 190) [Value.ref _] _) _ _ _); k_dflt (refine' ctr_use (items_ctr _ _ _ _ _ _ _ _ _ _ _ _ ?zqm1 ?zqm2 ?zqhm ?zqhl) ?zqB ?zqF ?zqX ?zqN ?zqT ?zqhk ?zqhd ?zqhu ?_; (case zqB => k_asm); (case zqF => k_asm); (case zqX => k_asm); (case zqN => k_asm); (case zqT => k_asm); (case zqm1 => k_mem); (case zqm2 => k_mem); (case zqhm => k_mem); (case zqhl => assumption); (case zqhk => first | exact rfl | assumption); (case zqhd => first | exact room (by assumption) (by decide) | exact room0 (by assumption) (by decide) | ktr_room); (case zqhu => first | exact room (by assumption) (by decide) | exact room0 (by assumption) (by decide) | ktr_units); intro v9 n9 h9 tk9 R9 F9 N9; obtain ⟨l29, n39, e8, e9⟩ := R9; subst e9; subst e8; (try dsimp only); (try k_sweep); (try k_fold))))) | ((with_reducible show wpAny _ _ (call (Value.builtin "str.join") _ _) _ _ _); first | with_reducible ((k_here; refine halt ?_)) | ((k_here; refine halt ?_))) | ((with_reducible show wpAny _ _ (call (Value.ref _) _ _) _ _ _); first | with_reducible ((k_here; (with_reducible show wpAny _ _ (call (Value.ref 272) _ _) _ _ _); refine halt ?_)) | ((k_here; (with_reducible show wpAny _ _ (call (Value.ref 272) _ _) _ _ _); refine halt ?_))) | ((with_reducible show wpAny _ _ (call (Value.ref _) _ _) _ _ _); ((k_here; (with_reducible show wpAny _ _ (call (Value.ref 265) [Value.int _ _, Value.int _ _, Value.int _ _] _) _ _ _); k_dflt (refine' use_val (law_page _ _ _ _ _ _ _ _ ?zqh1 ?zqh2 ?zqh3 ?zqh4 ?zqh5 ?zqh6 _ _ _ 0) ?zqB ?zqF ?zqX ?zqN ?zqT ?zqhk ?zqhd ?zqhu ?_; (case zqB => k_asm); (case zqF => k_asm); (case zqX => k_asm); (case zqN => k_asm); (case zqT => k_asm); (case zqh1 => assumption); (case zqh2 => assumption); (case zqh3 => assumption); (case zqh4 => assumption); (case zqh5 => assumption); (case zqh6 => assumption); (case zqhk => first | exact rfl | assumption); (case zqhd => first | exact room (by assumption) (by decide) | exact room0 (by assumption) (by decide) | ktr_room); (case zqhu => first | exact room (by assumption) (by decide) | exact room0 (by assumption) (by decide) | ktr_units); intro h9 tk9 t9 F9 N9; (try dsimp only); (try k_sweep); (try k_fold))))) | ((with_reducible show wpAny _ _ (call (Value.ref _) _ _) _ _ _); ((k_here; (with_reducible show wpAny _ _ (call (Value.ref 258) [Value.int _ _, Value.int _ _, Value.int _ _] _) _ _ _); k_dflt (refine' use_val (law_pattern _ _ _ _ _ _ _ _ ?zqh1 ?zqh2 ?zqh3 ?zqh4 ?zqh5 ?zqh6 _ _ _ 0) ?zqB ?zqF ?zqX ?zqN ?zqT ?zqhk ?zqhd ?zqhu ?_; (case zqB => k_asm); (case zqF => k_asm); (case zqX => k_asm); (case zqN => k_asm); (case zqT => k_asm); (case zqh1 => assumption); (case zqh2 => assumption); (case zqh3 => assumption); (case zqh4 => assumption); (case zqh5 => assumption); (case zqh6 => assumption); (case zqhk => first | exact rfl | assumption); (case zqhd => first | exact room (by assumption) (by decide) | exact room0 (by assumption) (by decide) | ktr_room); (case zqhu => first | exact room (by assumption) (by decide) | exact room0 (by assumption) (by decide) | ktr_units); intro h9 tk9 t9 F9 N9; (try dsimp only); (try k_sweep); (try k_fold))))) | ((with_reducible show wpAny _ _ (call (Value.ref _) _ _) _ _ _); ((k_here; (with_reducible show wpAny _ _ (call (Value.ref 237) [Value.ref _, Value.int _ _] _) _ _ _); k_dflt (refine' ctr_use (rows_ctr _ _ _ _ _ _ _ _ _ _ _ ?zqm1 ?zqm2 ?zqm3 ?zqm4 ?zqm5) ?zqB ?zqF ?zqX ?zqN ?zqT ?zqhk ?zqhd ?zqhu ?_; (case zqB => k_asm); (case zqF => k_asm); (case zqX => k_asm); (case zqN => k_asm); (case zqT => k_asm); (case zqm1 => first | exact .head _ | exact .tail _ (.head _)); (case zqm2 => assumption); (case zqm3 => exact len5); (case zqm4 => exact (fmod2_b _).1); (case zqm5 => exact (fmod2_b _).2); (case zqhk => first | exact rfl | assumption); (case zqhd => first | exact room (by assumption) (by decide) | exact room0 (by assumption) (by decide) | ktr_room); (case zqhu => first | exact room (by assumption) (by decide) | exact room0 (by assumption) (by decide) | ktr_units); intro v9 n9 h9 tk9 R9 F9 N9; obtain ⟨T9, lw9, lg9, ws9, gs9, nw9, ng9, rest9, e8, e9, hs9, hw9, hg9⟩ := R9; subst e9; subst e8; (try dsimp only); (try k_sweep); (try k_fold))))) | ((with_reducible show wpAny _ _ (pyIter (Value.ref _)) _ _ _); ((k_here; (with_reducible show wpAny _ _ (pyIter (Value.ref _)) (fun it s₂ => TurnsAt _ _ _ _ _ (PySem.Expr.Tuple _ _ _) _ _ _ it s₂) _ _); (refine' for_none ?zqh ?zqF ?zqN ?zqm ?_; (case zqh => exact rfl); (case zqF => k_asm); (case zqN => k_asm); (case zqm => (repeat first | with_unfolding_all exact List.Mem.head _ | refine List.Mem.tail _ ?_))); intro h9 tk9 F9 N9))) | ((with_reducible show wpAny _ _ (exec (Stmt.For _ _ _ _ _) _) _ _ _); ((k_here; (with_reducible show wpAny _ _ (exec (Stmt.For (PySem.Expr.Tuple _ _ _) (PySem.Expr.Name _ _) _ _ _) _) _ _ _); (rename Fr _ _ _ _ => lF'); (with_unfolding_all refine' For_turns lF' ?_; k_whole)))) | ((with_reducible show wpAny _ _ (pyIter (Value.ref _)) _ _ _); first | with_reducible ((k_here; (with_reducible show wpAny _ _ (pyIter (Value.ref _)) (fun it s₂ => TurnsAt _ _ _ _ _ (PySem.Expr.Name _ _) _ _ _ it s₂) _ _); refine halt ?_)) | ((k_here; (with_reducible show wpAny _ _ (pyIter (Value.ref _)) (fun it s₂ => TurnsAt _ _ _ _ _ (PySem.Expr.Name _ _) _ _ _ it s₂) _ _); refine halt ?_))) | ((with_reducible show wpAny _ _ (exec (Stmt.For _ _ _ _ _) _) _ _ _); ((k_here; (with_reducible show wpAny _ _ (exec (Stmt.For (PySem.Expr.Name _ _) _ _ _ _) _) _ _ _); (rename Fr _ _ _ _ => lF'); (with_unfolding_all refine' For_turns lF' ?_; k_whole)))) | ((with_reducible show wpAny _ _ (storeName _ _ _) _ _ _); ((k_here; k_dflt ((refine' store_let ?zqF ?zqN ?_ ?zqa ?zqb; (case zqF => k_asm); (case zqN => k_asm); (case zqa => rfl); (case zqb => rfl); k_whole; intro m' h' tk' F' N'; (try k_sweep)))))) | walk1 | ((with_reducible show wpAny _ _ (exec (Stmt.For _ _ _ _ _) _) _ _ _); ((k_here; (with_reducible show wpAny _ _ (exec (Stmt.For (PySem.Expr.Tuple _ _ _) (PySem.Expr.Name _ _) _ _ _) _) _ _ _); (rename Fr _ _ _ _ => lF'); (with_unfolding_all refine' For_turns lF' ?_; k_whole)))) | (dsimp only; walk1) | (leave1; (try dsimp only)) | fail "no step")
    unfold Halt
    k_dflt (refine LCp.SrcLP.ledger (by rfl) (by k_asm) (by k_asm) (by k_mem) (by rw [List.size_toArray, hrw.length, sizeLine_eq]; omega) ?_)
    intro g9
    refine compP_rows (hrw.mono (fun q hq => by repeat first | exact hq | refine List.Mem.tail _ ?_)) (fun pre ys => StrsAre ys (pre.map fun r => signOf (turned r.1 turn) gapP)) ?_ ?_ _ 0 [] (by rw [List.size_toArray, hrw.length]; omega) .nil
    · intro ys hys D h tk F N o1
      repeat' (first | ((k_unfold); (try dsimp only)) | (k_end; kc_close) | ((with_reducible show wpAny _ _ (getMethod (Value.ref _) _ _) _ _ _); first | with_reducible ((k_here; (with_reducible show wpAny _ _ (getMethod (Value.ref _) (PySem.Str.ofString "items") _) _ _ _); refine halt ?_)) | ((k_here; (with_reducible show wpAny _ _ (getMethod (Value.ref _) (PySem.Str.ofString "items") _) _ _ _); refine halt ?_))) | ((with_reducible show wpAny _ _ (compareOp CmpOp.NotEq _ _) _ _ _); first | with_reducible ((k_here; refine halt ?_)) | ((k_here; refine halt ?_))) | ((with_reducible show wpAny _ _ (call (Value.ref _) _ _) _ _ _); first | with_reducible ((k_here; (with_reducible show wpAny _ _ (call (Value.ref 287) _ _) _ _ _); refine halt ?_)) | ((k_here; (with_reducible show wpAny _ _ (call (Value.ref 287) _ _) _ _ _); refine halt ?_))) | ((with_reducible show wpAny _ _ (call (Value.ref _) _ _) _ _ _); ((k_here; (with_reducible show wpAny _ _ (call (Value.ref 190) [Value.ref _] _) _ _ _); k_dflt (refine' ctr_use (items_ctr _ _ _ _ _ _ _ _ _ _ _ _ ?zqm1 ?zqm2 ?zqhm ?zqhl) ?zqB ?zqF ?zqX ?zqN ?zqT ?zqhk ?zqhd ?zqhu ?_; (case zqB => k_asm); (case zqF => k_asm); (case zqX => k_asm); (case zqN => k_asm); (case zqT => k_asm); (case zqm1 => k_mem); (case zqm2 => k_mem); (case zqhm => k_mem); (case zqhl => assumption); (case zqhk => first | exact rfl | assumption); (case zqhd => first | exact room (by assumption) (by decide) | exact room0 (by assumption) (by decide) | ktr_room); (case zqhu => first | exact room (by assumption) (by decide) | exact room0 (by assumption) (by decide) | ktr_units); intro v9 n9 h9 tk9 R9 F9 N9; obtain ⟨l29, n39, e8, e9⟩ := R9; subst e9; subst e8; (try dsimp only); (try k_sweep); (try k_fold))))) | ((with_reducible show wpAny _ _ (call (Value.builtin "str.join") _ _) _ _ _); first | with_reducible ((k_here; refine halt ?_)) | ((k_here; refine halt ?_))) | ((with_reducible show wpAny _ _ (call (Value.ref _) _ _) _ _ _); first | with_reducible ((k_here; (with_reducible show wpAny _ _ (call (Value.ref 272) _ _) _ _ _); refine halt ?_)) | ((k_here; (with_reducible show wpAny _ _ (call (Value.ref 272) _ _) _ _ _); refine halt ?_))) | ((with_reducible show wpAny _ _ (call (Value.ref _) _ _) _ _ _); ((k_here; (with_reducible show wpAny _ _ (call (Value.ref 265) [Value.int _ _, Value.int _ _, Value.int _ _] _) _ _ _); k_dflt (refine' use_val (law_page _ _ _ _ _ _ _ _ ?zqh1 ?zqh2 ?zqh3 ?zqh4 ?zqh5 ?zqh6 _ _ _ 0) ?zqB ?zqF ?zqX ?zqN ?zqT ?zqhk ?zqhd ?zqhu ?_; (case zqB => k_asm); (case zqF => k_asm); (case zqX => k_asm); (case zqN => k_asm); (case zqT => k_asm); (case zqh1 => assumption); (case zqh2 => assumption); (case zqh3 => assumption); (case zqh4 => assumption); (case zqh5 => assumption); (case zqh6 => assumption); (case zqhk => first | exact rfl | assumption); (case zqhd => first | exact room (by assumption) (by decide) | exact room0 (by assumption) (by decide) | ktr_room); (case zqhu => first | exact room (by assumption) (by decide) | exact room0 (by assumption) (by decide) | ktr_units); intro h9 tk9 t9 F9 N9; (try dsimp only); (try k_sweep); (try k_fold))))) | ((with_reducible show wpAny _ _ (call (Value.ref _) _ _) _ _ _); ((k_here; (with_reducible show wpAny _ _ (call (Value.ref 258) [Value.int _ _, Value.int _ _, Value.int _ _] _) _ _ _); k_dflt (refine' use_val (law_pattern _ _ _ _ _ _ _ _ ?zqh1 ?zqh2 ?zqh3 ?zqh4 ?zqh5 ?zqh6 _ _ _ 0) ?zqB ?zqF ?zqX ?zqN ?zqT ?zqhk ?zqhd ?zqhu ?_; (case zqB => k_asm); (case zqF => k_asm); (case zqX => k_asm); (case zqN => k_asm); (case zqT => k_asm); (case zqh1 => assumption); (case zqh2 => assumption); (case zqh3 => assumption); (case zqh4 => assumption); (case zqh5 => assumption); (case zqh6 => assumption); (case zqhk => first | exact rfl | assumption); (case zqhd => first | exact room (by assumption) (by decide) | exact room0 (by assumption) (by decide) | ktr_room); (case zqhu => first | exact room (by assumption) (by decide) | exact room0 (by assumption) (by decide) | ktr_units); intro h9 tk9 t9 F9 N9; (try dsimp only); (try k_sweep); (try k_fold))))) | ((with_reducible show wpAny _ _ (call (Value.ref _) _ _) _ _ _); ((k_here; (with_reducible show wpAny _ _ (call (Value.ref 237) [Value.ref _, Value.int _ _] _) _ _ _); k_dflt (refine' ctr_use (rows_ctr _ _ _ _ _ _ _ _ _ _ _ ?zqm1 ?zqm2 ?zqm3 ?zqm4 ?zqm5) ?zqB ?zqF ?zqX ?zqN ?zqT ?zqhk ?zqhd ?zqhu ?_; (case zqB => k_asm); (case zqF => k_asm); (case zqX => k_asm); (case zqN => k_asm); (case zqT => k_asm); (case zqm1 => first | exact .head _ | exact .tail _ (.head _)); (case zqm2 => assumption); (case zqm3 => exact len5); (case zqm4 => exact (fmod2_b _).1); (case zqm5 => exact (fmod2_b _).2); (case zqhk => first | exact rfl | assumption); (case zqhd => first | exact room (by assumption) (by decide) | exact room0 (by assumption) (by decide) | ktr_room); (case zqhu => first | exact room (by assumption) (by decide) | exact room0 (by assumption) (by decide) | ktr_units); intro v9 n9 h9 tk9 R9 F9 N9; obtain ⟨T9, lw9, lg9, ws9, gs9, nw9, ng9, rest9, e8, e9, hs9, hw9, hg9⟩ := R9; subst e9; subst e8; (try dsimp only); (try k_sweep); (try k_fold))))) | ((with_reducible show wpAny _ _ (pyIter (Value.ref _)) _ _ _); ((k_here; (with_reducible show wpAny _ _ (pyIter (Value.ref _)) (fun it s₂ => TurnsAt _ _ _ _ _ (PySem.Expr.Tuple _ _ _) _ _ _ it s₂) _ _); (refine' for_none ?zqh ?zqF ?zqN ?zqm ?_; (case zqh => exact rfl); (case zqF => k_asm); (case zqN => k_asm); (case zqm => (repeat first | with_unfolding_all exact List.Mem.head _ | refine List.Mem.tail _ ?_))); intro h9 tk9 F9 N9))) | ((with_reducible show wpAny _ _ (exec (Stmt.For _ _ _ _ _) _) _ _ _); ((k_here; (with_reducible show wpAny _ _ (exec (Stmt.For (PySem.Expr.Tuple _ _ _) (PySem.Expr.Name _ _) _ _ _) _) _ _ _); (rename Fr _ _ _ _ => lF'); (with_unfolding_all refine' For_turns lF' ?_; k_whole)))) | ((with_reducible show wpAny _ _ (pyIter (Value.ref _)) _ _ _); first | with_reducible ((k_here; (with_reducible show wpAny _ _ (pyIter (Value.ref _)) (fun it s₂ => TurnsAt _ _ _ _ _ (PySem.Expr.Name _ _) _ _ _ it s₂) _ _); refine halt ?_)) | ((k_here; (with_reducible show wpAny _ _ (pyIter (Value.ref _)) (fun it s₂ => TurnsAt _ _ _ _ _ (PySem.Expr.Name _ _) _ _ _ it s₂) _ _); refine halt ?_))) | ((with_reducible show wpAny _ _ (exec (Stmt.For _ _ _ _ _) _) _ _ _); ((k_here; (with_reducible show wpAny _ _ (exec (Stmt.For (PySem.Expr.Name _ _) _ _ _ _) _) _ _ _); (rename Fr _ _ _ _ => lF'); (with_unfolding_all refine' For_turns lF' ?_; k_whole)))) | ((with_reducible show wpAny _ _ (storeName _ _ _) _ _ _); ((k_here; k_dflt ((refine' store_let ?zqF ?zqN ?_ ?zqa ?zqb; (case zqF => k_asm); (case zqN => k_asm); (case zqa => rfl); (case zqb => rfl); k_whole; intro m' h' tk' F' N'; (try k_sweep)))))) | walk1 | ((with_reducible show wpAny _ _ (exec (Stmt.For _ _ _ _ _) _) _ _ _); ((k_here; (with_reducible show wpAny _ _ (exec (Stmt.For (PySem.Expr.Tuple _ _ _) (PySem.Expr.Name _ _) _ _ _) _) _ _ _); (rename Fr _ _ _ _ => lF'); (with_unfolding_all refine' For_turns lF' ?_; k_whole)))) | (dsimp only; walk1) | (leave1; (try dsimp only)) | fail "no step")
      unfold Halt
      refine join_raw (rr := wr) (turn := turn) (gap := gapP) (by is_list) hys (by decide +kernel) wl8 ?_
      intro t9 k9
      repeat' (first | ((k_unfold); (try dsimp only)) | (k_end; kc_close) | ((with_reducible show wpAny _ _ (getMethod (Value.ref _) _ _) _ _ _); first | with_reducible ((k_here; (with_reducible show wpAny _ _ (getMethod (Value.ref _) (PySem.Str.ofString "items") _) _ _ _); refine halt ?_)) | ((k_here; (with_reducible show wpAny _ _ (getMethod (Value.ref _) (PySem.Str.ofString "items") _) _ _ _); refine halt ?_))) | ((with_reducible show wpAny _ _ (compareOp CmpOp.NotEq _ _) _ _ _); first | with_reducible ((k_here; refine halt ?_)) | ((k_here; refine halt ?_))) | ((with_reducible show wpAny _ _ (call (Value.ref _) _ _) _ _ _); first | with_reducible ((k_here; (with_reducible show wpAny _ _ (call (Value.ref 287) _ _) _ _ _); refine halt ?_)) | ((k_here; (with_reducible show wpAny _ _ (call (Value.ref 287) _ _) _ _ _); refine halt ?_))) | ((with_reducible show wpAny _ _ (call (Value.ref _) _ _) _ _ _); ((k_here; (with_reducible show wpAny _ _ (call (Value.ref 190) [Value.ref _] _) _ _ _); k_dflt (refine' ctr_use (items_ctr _ _ _ _ _ _ _ _ _ _ _ _ ?zqm1 ?zqm2 ?zqhm ?zqhl) ?zqB ?zqF ?zqX ?zqN ?zqT ?zqhk ?zqhd ?zqhu ?_; (case zqB => k_asm); (case zqF => k_asm); (case zqX => k_asm); (case zqN => k_asm); (case zqT => k_asm); (case zqm1 => k_mem); (case zqm2 => k_mem); (case zqhm => k_mem); (case zqhl => assumption); (case zqhk => first | exact rfl | assumption); (case zqhd => first | exact room (by assumption) (by decide) | exact room0 (by assumption) (by decide) | ktr_room); (case zqhu => first | exact room (by assumption) (by decide) | exact room0 (by assumption) (by decide) | ktr_units); intro v9 n9 h9 tk9 R9 F9 N9; obtain ⟨l29, n39, e8, e9⟩ := R9; subst e9; subst e8; (try dsimp only); (try k_sweep); (try k_fold))))) | ((with_reducible show wpAny _ _ (call (Value.builtin "str.join") _ _) _ _ _); first | with_reducible ((k_here; refine halt ?_)) | ((k_here; refine halt ?_))) | ((with_reducible show wpAny _ _ (call (Value.ref _) _ _) _ _ _); first | with_reducible ((k_here; (with_reducible show wpAny _ _ (call (Value.ref 272) _ _) _ _ _); refine halt ?_)) | ((k_here; (with_reducible show wpAny _ _ (call (Value.ref 272) _ _) _ _ _); refine halt ?_))) | ((with_reducible show wpAny _ _ (call (Value.ref _) _ _) _ _ _); ((k_here; (with_reducible show wpAny _ _ (call (Value.ref 265) [Value.int _ _, Value.int _ _, Value.int _ _] _) _ _ _); k_dflt (refine' use_val (law_page _ _ _ _ _ _ _ _ ?zqh1 ?zqh2 ?zqh3 ?zqh4 ?zqh5 ?zqh6 _ _ _ 0) ?zqB ?zqF ?zqX ?zqN ?zqT ?zqhk ?zqhd ?zqhu ?_; (case zqB => k_asm); (case zqF => k_asm); (case zqX => k_asm); (case zqN => k_asm); (case zqT => k_asm); (case zqh1 => assumption); (case zqh2 => assumption); (case zqh3 => assumption); (case zqh4 => assumption); (case zqh5 => assumption); (case zqh6 => assumption); (case zqhk => first | exact rfl | assumption); (case zqhd => first | exact room (by assumption) (by decide) | exact room0 (by assumption) (by decide) | ktr_room); (case zqhu => first | exact room (by assumption) (by decide) | exact room0 (by assumption) (by decide) | ktr_units); intro h9 tk9 t9 F9 N9; (try dsimp only); (try k_sweep); (try k_fold))))) | ((with_reducible show wpAny _ _ (call (Value.ref _) _ _) _ _ _); ((k_here; (with_reducible show wpAny _ _ (call (Value.ref 258) [Value.int _ _, Value.int _ _, Value.int _ _] _) _ _ _); k_dflt (refine' use_val (law_pattern _ _ _ _ _ _ _ _ ?zqh1 ?zqh2 ?zqh3 ?zqh4 ?zqh5 ?zqh6 _ _ _ 0) ?zqB ?zqF ?zqX ?zqN ?zqT ?zqhk ?zqhd ?zqhu ?_; (case zqB => k_asm); (case zqF => k_asm); (case zqX => k_asm); (case zqN => k_asm); (case zqT => k_asm); (case zqh1 => assumption); (case zqh2 => assumption); (case zqh3 => assumption); (case zqh4 => assumption); (case zqh5 => assumption); (case zqh6 => assumption); (case zqhk => first | exact rfl | assumption); (case zqhd => first | exact room (by assumption) (by decide) | exact room0 (by assumption) (by decide) | ktr_room); (case zqhu => first | exact room (by assumption) (by decide) | exact room0 (by assumption) (by decide) | ktr_units); intro h9 tk9 t9 F9 N9; (try dsimp only); (try k_sweep); (try k_fold))))) | ((with_reducible show wpAny _ _ (call (Value.ref _) _ _) _ _ _); ((k_here; (with_reducible show wpAny _ _ (call (Value.ref 237) [Value.ref _, Value.int _ _] _) _ _ _); k_dflt (refine' ctr_use (rows_ctr _ _ _ _ _ _ _ _ _ _ _ ?zqm1 ?zqm2 ?zqm3 ?zqm4 ?zqm5) ?zqB ?zqF ?zqX ?zqN ?zqT ?zqhk ?zqhd ?zqhu ?_; (case zqB => k_asm); (case zqF => k_asm); (case zqX => k_asm); (case zqN => k_asm); (case zqT => k_asm); (case zqm1 => first | exact .head _ | exact .tail _ (.head _)); (case zqm2 => assumption); (case zqm3 => exact len5); (case zqm4 => exact (fmod2_b _).1); (case zqm5 => exact (fmod2_b _).2); (case zqhk => first | exact rfl | assumption); (case zqhd => first | exact room (by assumption) (by decide) | exact room0 (by assumption) (by decide) | ktr_room); (case zqhu => first | exact room (by assumption) (by decide) | exact room0 (by assumption) (by decide) | ktr_units); intro v9 n9 h9 tk9 R9 F9 N9; obtain ⟨T9, lw9, lg9, ws9, gs9, nw9, ng9, rest9, e8, e9, hs9, hw9, hg9⟩ := R9; subst e9; subst e8; (try dsimp only); (try k_sweep); (try k_fold))))) | ((with_reducible show wpAny _ _ (pyIter (Value.ref _)) _ _ _); ((k_here; (with_reducible show wpAny _ _ (pyIter (Value.ref _)) (fun it s₂ => TurnsAt _ _ _ _ _ (PySem.Expr.Tuple _ _ _) _ _ _ it s₂) _ _); (refine' for_none ?zqh ?zqF ?zqN ?zqm ?_; (case zqh => exact rfl); (case zqF => k_asm); (case zqN => k_asm); (case zqm => (repeat first | with_unfolding_all exact List.Mem.head _ | refine List.Mem.tail _ ?_))); intro h9 tk9 F9 N9))) | ((with_reducible show wpAny _ _ (exec (Stmt.For _ _ _ _ _) _) _ _ _); ((k_here; (with_reducible show wpAny _ _ (exec (Stmt.For (PySem.Expr.Tuple _ _ _) (PySem.Expr.Name _ _) _ _ _) _) _ _ _); (rename Fr _ _ _ _ => lF'); (with_unfolding_all refine' For_turns lF' ?_; k_whole)))) | ((with_reducible show wpAny _ _ (pyIter (Value.ref _)) _ _ _); first | with_reducible ((k_here; (with_reducible show wpAny _ _ (pyIter (Value.ref _)) (fun it s₂ => TurnsAt _ _ _ _ _ (PySem.Expr.Name _ _) _ _ _ it s₂) _ _); refine halt ?_)) | ((k_here; (with_reducible show wpAny _ _ (pyIter (Value.ref _)) (fun it s₂ => TurnsAt _ _ _ _ _ (PySem.Expr.Name _ _) _ _ _ it s₂) _ _); refine halt ?_))) | ((with_reducible show wpAny _ _ (exec (Stmt.For _ _ _ _ _) _) _ _ _); ((k_here; (with_reducible show wpAny _ _ (exec (Stmt.For (PySem.Expr.Name _ _) _ _ _ _) _) _ _ _); (rename Fr _ _ _ _ => lF'); (with_unfolding_all refine' For_turns lF' ?_; k_whole)))) | ((with_reducible show wpAny _ _ (storeName _ _ _) _ _ _); ((k_here; k_dflt ((refine' store_let ?zqF ?zqN ?_ ?zqa ?zqb; (case zqF => k_asm); (case zqN => k_asm); (case zqa => rfl); (case zqb => rfl); k_whole; intro m' h' tk' F' N'; (try k_sweep)))))) | walk1 | ((with_reducible show wpAny _ _ (exec (Stmt.For _ _ _ _ _) _) _ _ _); ((k_here; (with_reducible show wpAny _ _ (exec (Stmt.For (PySem.Expr.Tuple _ _ _) (PySem.Expr.Name _ _) _ _ _) _) _ _ _); (rename Fr _ _ _ _ => lF'); (with_unfolding_all refine' For_turns lF' ?_; k_whole)))) | (dsimp only; walk1) | (leave1; (try dsimp only)) | fail "no step")
      unfold Halt
      k_dflt (refine LCp.SrcLP.ledger (by rfl) (by k_asm) (by k_asm) (by k_mem) (by rw [List.size_toArray, hrg.length, sizeLine_eq]; omega) ?_)
      intro g9
      refine compP_rows (hrg.mono (fun q hq => by repeat first | exact hq | refine List.Mem.tail _ ?_)) (fun pre ys => StrsAre ys (pre.map fun r => signOf (turned r.1 turn) gapG)) ?_ ?_ _ 0 [] (by rw [List.size_toArray, hrg.length]; omega) .nil
      · intro ys hys D h tk F N o1
        repeat' (first | ((k_unfold); (try dsimp only)) | (k_end; kc_close) | ((with_reducible show wpAny _ _ (getMethod (Value.ref _) _ _) _ _ _); first | with_reducible ((k_here; (with_reducible show wpAny _ _ (getMethod (Value.ref _) (PySem.Str.ofString "items") _) _ _ _); refine halt ?_)) | ((k_here; (with_reducible show wpAny _ _ (getMethod (Value.ref _) (PySem.Str.ofString "items") _) _ _ _); refine halt ?_))) | ((with_reducible show wpAny _ _ (compareOp CmpOp.NotEq _ _) _ _ _); first | with_reducible ((k_here; refine halt ?_)) | ((k_here; refine halt ?_))) | ((with_reducible show wpAny _ _ (call (Value.ref _) _ _) _ _ _); first | with_reducible ((k_here; (with_reducible show wpAny _ _ (call (Value.ref 287) _ _) _ _ _); refine halt ?_)) | ((k_here; (with_reducible show wpAny _ _ (call (Value.ref 287) _ _) _ _ _); refine halt ?_))) | ((with_reducible show wpAny _ _ (call (Value.ref _) _ _) _ _ _); ((k_here; (with_reducible show wpAny _ _ (call (Value.ref 190) [Value.ref _] _) _ _ _); k_dflt (refine' ctr_use (items_ctr _ _ _ _ _ _ _ _ _ _ _ _ ?zqm1 ?zqm2 ?zqhm ?zqhl) ?zqB ?zqF ?zqX ?zqN ?zqT ?zqhk ?zqhd ?zqhu ?_; (case zqB => k_asm); (case zqF => k_asm); (case zqX => k_asm); (case zqN => k_asm); (case zqT => k_asm); (case zqm1 => k_mem); (case zqm2 => k_mem); (case zqhm => k_mem); (case zqhl => assumption); (case zqhk => first | exact rfl | assumption); (case zqhd => first | exact room (by assumption) (by decide) | exact room0 (by assumption) (by decide) | ktr_room); (case zqhu => first | exact room (by assumption) (by decide) | exact room0 (by assumption) (by decide) | ktr_units); intro v9 n9 h9 tk9 R9 F9 N9; obtain ⟨l29, n39, e8, e9⟩ := R9; subst e9; subst e8; (try dsimp only); (try k_sweep); (try k_fold))))) | ((with_reducible show wpAny _ _ (call (Value.builtin "str.join") _ _) _ _ _); first | with_reducible ((k_here; refine halt ?_)) | ((k_here; refine halt ?_))) | ((with_reducible show wpAny _ _ (call (Value.ref _) _ _) _ _ _); first | with_reducible ((k_here; (with_reducible show wpAny _ _ (call (Value.ref 272) _ _) _ _ _); refine halt ?_)) | ((k_here; (with_reducible show wpAny _ _ (call (Value.ref 272) _ _) _ _ _); refine halt ?_))) | ((with_reducible show wpAny _ _ (call (Value.ref _) _ _) _ _ _); ((k_here; (with_reducible show wpAny _ _ (call (Value.ref 265) [Value.int _ _, Value.int _ _, Value.int _ _] _) _ _ _); k_dflt (refine' use_val (law_page _ _ _ _ _ _ _ _ ?zqh1 ?zqh2 ?zqh3 ?zqh4 ?zqh5 ?zqh6 _ _ _ 0) ?zqB ?zqF ?zqX ?zqN ?zqT ?zqhk ?zqhd ?zqhu ?_; (case zqB => k_asm); (case zqF => k_asm); (case zqX => k_asm); (case zqN => k_asm); (case zqT => k_asm); (case zqh1 => assumption); (case zqh2 => assumption); (case zqh3 => assumption); (case zqh4 => assumption); (case zqh5 => assumption); (case zqh6 => assumption); (case zqhk => first | exact rfl | assumption); (case zqhd => first | exact room (by assumption) (by decide) | exact room0 (by assumption) (by decide) | ktr_room); (case zqhu => first | exact room (by assumption) (by decide) | exact room0 (by assumption) (by decide) | ktr_units); intro h9 tk9 t9 F9 N9; (try dsimp only); (try k_sweep); (try k_fold))))) | ((with_reducible show wpAny _ _ (call (Value.ref _) _ _) _ _ _); ((k_here; (with_reducible show wpAny _ _ (call (Value.ref 258) [Value.int _ _, Value.int _ _, Value.int _ _] _) _ _ _); k_dflt (refine' use_val (law_pattern _ _ _ _ _ _ _ _ ?zqh1 ?zqh2 ?zqh3 ?zqh4 ?zqh5 ?zqh6 _ _ _ 0) ?zqB ?zqF ?zqX ?zqN ?zqT ?zqhk ?zqhd ?zqhu ?_; (case zqB => k_asm); (case zqF => k_asm); (case zqX => k_asm); (case zqN => k_asm); (case zqT => k_asm); (case zqh1 => assumption); (case zqh2 => assumption); (case zqh3 => assumption); (case zqh4 => assumption); (case zqh5 => assumption); (case zqh6 => assumption); (case zqhk => first | exact rfl | assumption); (case zqhd => first | exact room (by assumption) (by decide) | exact room0 (by assumption) (by decide) | ktr_room); (case zqhu => first | exact room (by assumption) (by decide) | exact room0 (by assumption) (by decide) | ktr_units); intro h9 tk9 t9 F9 N9; (try dsimp only); (try k_sweep); (try k_fold))))) | ((with_reducible show wpAny _ _ (call (Value.ref _) _ _) _ _ _); ((k_here; (with_reducible show wpAny _ _ (call (Value.ref 237) [Value.ref _, Value.int _ _] _) _ _ _); k_dflt (refine' ctr_use (rows_ctr _ _ _ _ _ _ _ _ _ _ _ ?zqm1 ?zqm2 ?zqm3 ?zqm4 ?zqm5) ?zqB ?zqF ?zqX ?zqN ?zqT ?zqhk ?zqhd ?zqhu ?_; (case zqB => k_asm); (case zqF => k_asm); (case zqX => k_asm); (case zqN => k_asm); (case zqT => k_asm); (case zqm1 => first | exact .head _ | exact .tail _ (.head _)); (case zqm2 => assumption); (case zqm3 => exact len5); (case zqm4 => exact (fmod2_b _).1); (case zqm5 => exact (fmod2_b _).2); (case zqhk => first | exact rfl | assumption); (case zqhd => first | exact room (by assumption) (by decide) | exact room0 (by assumption) (by decide) | ktr_room); (case zqhu => first | exact room (by assumption) (by decide) | exact room0 (by assumption) (by decide) | ktr_units); intro v9 n9 h9 tk9 R9 F9 N9; obtain ⟨T9, lw9, lg9, ws9, gs9, nw9, ng9, rest9, e8, e9, hs9, hw9, hg9⟩ := R9; subst e9; subst e8; (try dsimp only); (try k_sweep); (try k_fold))))) | ((with_reducible show wpAny _ _ (pyIter (Value.ref _)) _ _ _); ((k_here; (with_reducible show wpAny _ _ (pyIter (Value.ref _)) (fun it s₂ => TurnsAt _ _ _ _ _ (PySem.Expr.Tuple _ _ _) _ _ _ it s₂) _ _); (refine' for_none ?zqh ?zqF ?zqN ?zqm ?_; (case zqh => exact rfl); (case zqF => k_asm); (case zqN => k_asm); (case zqm => (repeat first | with_unfolding_all exact List.Mem.head _ | refine List.Mem.tail _ ?_))); intro h9 tk9 F9 N9))) | ((with_reducible show wpAny _ _ (exec (Stmt.For _ _ _ _ _) _) _ _ _); ((k_here; (with_reducible show wpAny _ _ (exec (Stmt.For (PySem.Expr.Tuple _ _ _) (PySem.Expr.Name _ _) _ _ _) _) _ _ _); (rename Fr _ _ _ _ => lF'); (with_unfolding_all refine' For_turns lF' ?_; k_whole)))) | ((with_reducible show wpAny _ _ (pyIter (Value.ref _)) _ _ _); first | with_reducible ((k_here; (with_reducible show wpAny _ _ (pyIter (Value.ref _)) (fun it s₂ => TurnsAt _ _ _ _ _ (PySem.Expr.Name _ _) _ _ _ it s₂) _ _); refine halt ?_)) | ((k_here; (with_reducible show wpAny _ _ (pyIter (Value.ref _)) (fun it s₂ => TurnsAt _ _ _ _ _ (PySem.Expr.Name _ _) _ _ _ it s₂) _ _); refine halt ?_))) | ((with_reducible show wpAny _ _ (exec (Stmt.For _ _ _ _ _) _) _ _ _); ((k_here; (with_reducible show wpAny _ _ (exec (Stmt.For (PySem.Expr.Name _ _) _ _ _ _) _) _ _ _); (rename Fr _ _ _ _ => lF'); (with_unfolding_all refine' For_turns lF' ?_; k_whole)))) | ((with_reducible show wpAny _ _ (storeName _ _ _) _ _ _); ((k_here; k_dflt ((refine' store_let ?zqF ?zqN ?_ ?zqa ?zqb; (case zqF => k_asm); (case zqN => k_asm); (case zqa => rfl); (case zqb => rfl); k_whole; intro m' h' tk' F' N'; (try k_sweep)))))) | walk1 | ((with_reducible show wpAny _ _ (exec (Stmt.For _ _ _ _ _) _) _ _ _); ((k_here; (with_reducible show wpAny _ _ (exec (Stmt.For (PySem.Expr.Tuple _ _ _) (PySem.Expr.Name _ _) _ _ _) _) _ _ _); (rename Fr _ _ _ _ => lF'); (with_unfolding_all refine' For_turns lF' ?_; k_whole)))) | (dsimp only; walk1) | (leave1; (try dsimp only)) | fail "no step")
        unfold Halt
        refine join_raw (rr := gr) (turn := turn) (gap := gapG) (by is_list) hys (by decide +kernel) gl8 ?_
        intro t9 k9
        repeat' (first | ((k_unfold); (try dsimp only)) | (k_end; kc_close) | ((with_reducible show wpAny _ _ (getMethod (Value.ref _) _ _) _ _ _); first | with_reducible ((k_here; (with_reducible show wpAny _ _ (getMethod (Value.ref _) (PySem.Str.ofString "items") _) _ _ _); refine halt ?_)) | ((k_here; (with_reducible show wpAny _ _ (getMethod (Value.ref _) (PySem.Str.ofString "items") _) _ _ _); refine halt ?_))) | ((with_reducible show wpAny _ _ (compareOp CmpOp.NotEq _ _) _ _ _); first | with_reducible ((k_here; refine halt ?_)) | ((k_here; refine halt ?_))) | ((with_reducible show wpAny _ _ (call (Value.ref _) _ _) _ _ _); first | with_reducible ((k_here; (with_reducible show wpAny _ _ (call (Value.ref 287) _ _) _ _ _); refine halt ?_)) | ((k_here; (with_reducible show wpAny _ _ (call (Value.ref 287) _ _) _ _ _); refine halt ?_))) | ((with_reducible show wpAny _ _ (call (Value.ref _) _ _) _ _ _); ((k_here; (with_reducible show wpAny _ _ (call (Value.ref 190) [Value.ref _] _) _ _ _); k_dflt (refine' ctr_use (items_ctr _ _ _ _ _ _ _ _ _ _ _ _ ?zqm1 ?zqm2 ?zqhm ?zqhl) ?zqB ?zqF ?zqX ?zqN ?zqT ?zqhk ?zqhd ?zqhu ?_; (case zqB => k_asm); (case zqF => k_asm); (case zqX => k_asm); (case zqN => k_asm); (case zqT => k_asm); (case zqm1 => k_mem); (case zqm2 => k_mem); (case zqhm => k_mem); (case zqhl => assumption); (case zqhk => first | exact rfl | assumption); (case zqhd => first | exact room (by assumption) (by decide) | exact room0 (by assumption) (by decide) | ktr_room); (case zqhu => first | exact room (by assumption) (by decide) | exact room0 (by assumption) (by decide) | ktr_units); intro v9 n9 h9 tk9 R9 F9 N9; obtain ⟨l29, n39, e8, e9⟩ := R9; subst e9; subst e8; (try dsimp only); (try k_sweep); (try k_fold))))) | ((with_reducible show wpAny _ _ (call (Value.builtin "str.join") _ _) _ _ _); first | with_reducible ((k_here; refine halt ?_)) | ((k_here; refine halt ?_))) | ((with_reducible show wpAny _ _ (call (Value.ref _) _ _) _ _ _); first | with_reducible ((k_here; (with_reducible show wpAny _ _ (call (Value.ref 272) _ _) _ _ _); refine halt ?_)) | ((k_here; (with_reducible show wpAny _ _ (call (Value.ref 272) _ _) _ _ _); refine halt ?_))) | ((with_reducible show wpAny _ _ (call (Value.ref _) _ _) _ _ _); ((k_here; (with_reducible show wpAny _ _ (call (Value.ref 265) [Value.int _ _, Value.int _ _, Value.int _ _] _) _ _ _); k_dflt (refine' use_val (law_page _ _ _ _ _ _ _ _ ?zqh1 ?zqh2 ?zqh3 ?zqh4 ?zqh5 ?zqh6 _ _ _ 0) ?zqB ?zqF ?zqX ?zqN ?zqT ?zqhk ?zqhd ?zqhu ?_; (case zqB => k_asm); (case zqF => k_asm); (case zqX => k_asm); (case zqN => k_asm); (case zqT => k_asm); (case zqh1 => assumption); (case zqh2 => assumption); (case zqh3 => assumption); (case zqh4 => assumption); (case zqh5 => assumption); (case zqh6 => assumption); (case zqhk => first | exact rfl | assumption); (case zqhd => first | exact room (by assumption) (by decide) | exact room0 (by assumption) (by decide) | ktr_room); (case zqhu => first | exact room (by assumption) (by decide) | exact room0 (by assumption) (by decide) | ktr_units); intro h9 tk9 t9 F9 N9; (try dsimp only); (try k_sweep); (try k_fold))))) | ((with_reducible show wpAny _ _ (call (Value.ref _) _ _) _ _ _); ((k_here; (with_reducible show wpAny _ _ (call (Value.ref 258) [Value.int _ _, Value.int _ _, Value.int _ _] _) _ _ _); k_dflt (refine' use_val (law_pattern _ _ _ _ _ _ _ _ ?zqh1 ?zqh2 ?zqh3 ?zqh4 ?zqh5 ?zqh6 _ _ _ 0) ?zqB ?zqF ?zqX ?zqN ?zqT ?zqhk ?zqhd ?zqhu ?_; (case zqB => k_asm); (case zqF => k_asm); (case zqX => k_asm); (case zqN => k_asm); (case zqT => k_asm); (case zqh1 => assumption); (case zqh2 => assumption); (case zqh3 => assumption); (case zqh4 => assumption); (case zqh5 => assumption); (case zqh6 => assumption); (case zqhk => first | exact rfl | assumption); (case zqhd => first | exact room (by assumption) (by decide) | exact room0 (by assumption) (by decide) | ktr_room); (case zqhu => first | exact room (by assumption) (by decide) | exact room0 (by assumption) (by decide) | ktr_units); intro h9 tk9 t9 F9 N9; (try dsimp only); (try k_sweep); (try k_fold))))) | ((with_reducible show wpAny _ _ (call (Value.ref _) _ _) _ _ _); ((k_here; (with_reducible show wpAny _ _ (call (Value.ref 237) [Value.ref _, Value.int _ _] _) _ _ _); k_dflt (refine' ctr_use (rows_ctr _ _ _ _ _ _ _ _ _ _ _ ?zqm1 ?zqm2 ?zqm3 ?zqm4 ?zqm5) ?zqB ?zqF ?zqX ?zqN ?zqT ?zqhk ?zqhd ?zqhu ?_; (case zqB => k_asm); (case zqF => k_asm); (case zqX => k_asm); (case zqN => k_asm); (case zqT => k_asm); (case zqm1 => first | exact .head _ | exact .tail _ (.head _)); (case zqm2 => assumption); (case zqm3 => exact len5); (case zqm4 => exact (fmod2_b _).1); (case zqm5 => exact (fmod2_b _).2); (case zqhk => first | exact rfl | assumption); (case zqhd => first | exact room (by assumption) (by decide) | exact room0 (by assumption) (by decide) | ktr_room); (case zqhu => first | exact room (by assumption) (by decide) | exact room0 (by assumption) (by decide) | ktr_units); intro v9 n9 h9 tk9 R9 F9 N9; obtain ⟨T9, lw9, lg9, ws9, gs9, nw9, ng9, rest9, e8, e9, hs9, hw9, hg9⟩ := R9; subst e9; subst e8; (try dsimp only); (try k_sweep); (try k_fold))))) | ((with_reducible show wpAny _ _ (pyIter (Value.ref _)) _ _ _); ((k_here; (with_reducible show wpAny _ _ (pyIter (Value.ref _)) (fun it s₂ => TurnsAt _ _ _ _ _ (PySem.Expr.Tuple _ _ _) _ _ _ it s₂) _ _); (refine' for_none ?zqh ?zqF ?zqN ?zqm ?_; (case zqh => exact rfl); (case zqF => k_asm); (case zqN => k_asm); (case zqm => (repeat first | with_unfolding_all exact List.Mem.head _ | refine List.Mem.tail _ ?_))); intro h9 tk9 F9 N9))) | ((with_reducible show wpAny _ _ (exec (Stmt.For _ _ _ _ _) _) _ _ _); ((k_here; (with_reducible show wpAny _ _ (exec (Stmt.For (PySem.Expr.Tuple _ _ _) (PySem.Expr.Name _ _) _ _ _) _) _ _ _); (rename Fr _ _ _ _ => lF'); (with_unfolding_all refine' For_turns lF' ?_; k_whole)))) | ((with_reducible show wpAny _ _ (pyIter (Value.ref _)) _ _ _); first | with_reducible ((k_here; (with_reducible show wpAny _ _ (pyIter (Value.ref _)) (fun it s₂ => TurnsAt _ _ _ _ _ (PySem.Expr.Name _ _) _ _ _ it s₂) _ _); refine halt ?_)) | ((k_here; (with_reducible show wpAny _ _ (pyIter (Value.ref _)) (fun it s₂ => TurnsAt _ _ _ _ _ (PySem.Expr.Name _ _) _ _ _ it s₂) _ _); refine halt ?_))) | ((with_reducible show wpAny _ _ (exec (Stmt.For _ _ _ _ _) _) _ _ _); ((k_here; (with_reducible show wpAny _ _ (exec (Stmt.For (PySem.Expr.Name _ _) _ _ _ _) _) _ _ _); (rename Fr _ _ _ _ => lF'); (with_unfolding_all refine' For_turns lF' ?_; k_whole)))) | ((with_reducible show wpAny _ _ (storeName _ _ _) _ _ _); ((k_here; k_dflt ((refine' store_let ?zqF ?zqN ?_ ?zqa ?zqb; (case zqF => k_asm); (case zqN => k_asm); (case zqa => rfl); (case zqb => rfl); k_whole; intro m' h' tk' F' N'; (try k_sweep)))))) | walk1 | ((with_reducible show wpAny _ _ (exec (Stmt.For _ _ _ _ _) _) _ _ _); ((k_here; (with_reducible show wpAny _ _ (exec (Stmt.For (PySem.Expr.Tuple _ _ _) (PySem.Expr.Name _ _) _ _ _) _) _ _ _); (rename Fr _ _ _ _ => lF'); (with_unfolding_all refine' For_turns lF' ?_; k_whole)))) | (dsimp only; walk1) | (leave1; (try dsimp only)) | fail "no step")
        unfold Halt
        (rename News _ _ _ _ => kN3)
        obtain ⟨bb, hbb⟩ := match_bool (kinds wr) (kinds gr)
        k_dflt (refine' ctr0_use (wrapped_kept _ _ _ _ _ _ _ _ _ _ _ d hd turn wr gr bb hbb wok gok ⟨wne, gne⟩ ⟨wl8, gl8⟩ _ _ _ ?m1 ?m2 ?off) ?B ?F ?X ?N ?T ?XB ?TB ?hk ?hd ?hu ?_)
        case N => exact news_pull5 kN3
        case B => k_asm
        case F => k_asm
        case X => k_asm
        case T => k_asm
        case XB => k_asm
        case TB => k_asm
        case m1 => exact .head _
        case m2 => (refine List.Mem.tail _ ?_; with_unfolding_all exact List.Mem.head _)
        case off => (repeat (first | exact off_of_lt (And.right (And.right (by assumption))) | refine off_cons (by (show @Ne Nat _ _; omega)) ?_))
        case hk => first | exact rfl | assumption
        case hd => ktr_room
        case hu => ktr_units
        intro v9 led9 h9 tk9 R9 F9 N9
        obtain ⟨⟨la, its, n9, AD, HD, rfl, hlx9, hs9, hil, hA, hH, hWD⟩, m19, m29⟩ := R9
        have mI0 := hs9 _ (.tail _ (.tail _ (.head _)))
        have mc0 := hs9 _ (.tail _ (.tail _ (.tail _ (.head _))))
        have mR0 : ∀ p ∈ R, p ∈ led9 := fun p hp => hs9 p (.tail _ (.tail _ (.tail _ (.tail _ hp))))
        obtain ⟨led0, N0, hsb, hin⟩ := cell_out N9 mc0
        have m19' := hin _ m19 (by show @Ne Nat _ _; omega)
        have m29' := hin _ m29 (by show @Ne Nat _ _; omega)
        have hlx' := hin _ hlx9 (by show @Ne Nat _ _; omega)
        have mI9 := hin _ mI0 (by show @Ne Nat _ _; omega)
        have mR9 : ∀ p ∈ R, p ∈ led0 := fun p hp => hin p (mR0 p hp) (hoff p hp _ (.head _))
        replace hA := hA.mono hsb
        replace hH := hH.mono hsb
        clear m19 m29 hlx9 mI0 mc0 mR0 hsb N9 hs9 hin
        have hlw9 := mR9 _ hlw
        have hlg9 := mR9 _ hlg
        have hrw9 := hrw.mono mR9
        have hrg9 := hrg.mono mR9
        have keep := Hold.mk (And.intro hA (And.intro hH (And.intro hWD (And.intro mI9 (And.intro mR9 hbb)))))
        clear hA hH hWD mI9 mR9 hbb
        repeat' (first | ((k_unfold); (try dsimp only)) | (k_end; kc_close) | ((with_reducible show wpAny _ _ (getMethod (Value.ref _) _ _) _ _ _); first | with_reducible ((k_here; (with_reducible show wpAny _ _ (getMethod (Value.ref _) (PySem.Str.ofString "items") _) _ _ _); refine halt ?_)) | ((k_here; (with_reducible show wpAny _ _ (getMethod (Value.ref _) (PySem.Str.ofString "items") _) _ _ _); refine halt ?_))) | ((with_reducible show wpAny _ _ (compareOp CmpOp.NotEq _ _) _ _ _); first | with_reducible ((k_here; refine halt ?_)) | ((k_here; refine halt ?_))) | ((with_reducible show wpAny _ _ (call (Value.ref _) _ _) _ _ _); first | with_reducible ((k_here; (with_reducible show wpAny _ _ (call (Value.ref 287) _ _) _ _ _); refine halt ?_)) | ((k_here; (with_reducible show wpAny _ _ (call (Value.ref 287) _ _) _ _ _); refine halt ?_))) | ((with_reducible show wpAny _ _ (call (Value.ref _) _ _) _ _ _); ((k_here; (with_reducible show wpAny _ _ (call (Value.ref 190) [Value.ref _] _) _ _ _); k_dflt (refine' ctr_use (items_ctr _ _ _ _ _ _ _ _ _ _ _ _ ?zqm1 ?zqm2 ?zqhm ?zqhl) ?zqB ?zqF ?zqX ?zqN ?zqT ?zqhk ?zqhd ?zqhu ?_; (case zqB => k_asm); (case zqF => k_asm); (case zqX => k_asm); (case zqN => k_asm); (case zqT => k_asm); (case zqm1 => k_mem); (case zqm2 => k_mem); (case zqhm => k_mem); (case zqhl => assumption); (case zqhk => first | exact rfl | assumption); (case zqhd => first | exact room (by assumption) (by decide) | exact room0 (by assumption) (by decide) | ktr_room); (case zqhu => first | exact room (by assumption) (by decide) | exact room0 (by assumption) (by decide) | ktr_units); intro v9 n9 h9 tk9 R9 F9 N9; obtain ⟨l29, n39, e8, e9⟩ := R9; subst e9; subst e8; (try dsimp only); (try k_sweep); (try k_fold))))) | ((with_reducible show wpAny _ _ (call (Value.builtin "str.join") _ _) _ _ _); first | with_reducible ((k_here; refine halt ?_)) | ((k_here; refine halt ?_))) | ((with_reducible show wpAny _ _ (call (Value.ref _) _ _) _ _ _); first | with_reducible ((k_here; (with_reducible show wpAny _ _ (call (Value.ref 272) _ _) _ _ _); refine halt ?_)) | ((k_here; (with_reducible show wpAny _ _ (call (Value.ref 272) _ _) _ _ _); refine halt ?_))) | ((with_reducible show wpAny _ _ (call (Value.ref _) _ _) _ _ _); ((k_here; (with_reducible show wpAny _ _ (call (Value.ref 265) [Value.int _ _, Value.int _ _, Value.int _ _] _) _ _ _); k_dflt (refine' use_val (law_page _ _ _ _ _ _ _ _ ?zqh1 ?zqh2 ?zqh3 ?zqh4 ?zqh5 ?zqh6 _ _ _ 0) ?zqB ?zqF ?zqX ?zqN ?zqT ?zqhk ?zqhd ?zqhu ?_; (case zqB => k_asm); (case zqF => k_asm); (case zqX => k_asm); (case zqN => k_asm); (case zqT => k_asm); (case zqh1 => assumption); (case zqh2 => assumption); (case zqh3 => assumption); (case zqh4 => assumption); (case zqh5 => assumption); (case zqh6 => assumption); (case zqhk => first | exact rfl | assumption); (case zqhd => first | exact room (by assumption) (by decide) | exact room0 (by assumption) (by decide) | ktr_room); (case zqhu => first | exact room (by assumption) (by decide) | exact room0 (by assumption) (by decide) | ktr_units); intro h9 tk9 t9 F9 N9; (try dsimp only); (try k_sweep); (try k_fold))))) | ((with_reducible show wpAny _ _ (call (Value.ref _) _ _) _ _ _); ((k_here; (with_reducible show wpAny _ _ (call (Value.ref 258) [Value.int _ _, Value.int _ _, Value.int _ _] _) _ _ _); k_dflt (refine' use_val (law_pattern _ _ _ _ _ _ _ _ ?zqh1 ?zqh2 ?zqh3 ?zqh4 ?zqh5 ?zqh6 _ _ _ 0) ?zqB ?zqF ?zqX ?zqN ?zqT ?zqhk ?zqhd ?zqhu ?_; (case zqB => k_asm); (case zqF => k_asm); (case zqX => k_asm); (case zqN => k_asm); (case zqT => k_asm); (case zqh1 => assumption); (case zqh2 => assumption); (case zqh3 => assumption); (case zqh4 => assumption); (case zqh5 => assumption); (case zqh6 => assumption); (case zqhk => first | exact rfl | assumption); (case zqhd => first | exact room (by assumption) (by decide) | exact room0 (by assumption) (by decide) | ktr_room); (case zqhu => first | exact room (by assumption) (by decide) | exact room0 (by assumption) (by decide) | ktr_units); intro h9 tk9 t9 F9 N9; (try dsimp only); (try k_sweep); (try k_fold))))) | ((with_reducible show wpAny _ _ (call (Value.ref _) _ _) _ _ _); ((k_here; (with_reducible show wpAny _ _ (call (Value.ref 237) [Value.ref _, Value.int _ _] _) _ _ _); k_dflt (refine' ctr_use (rows_ctr _ _ _ _ _ _ _ _ _ _ _ ?zqm1 ?zqm2 ?zqm3 ?zqm4 ?zqm5) ?zqB ?zqF ?zqX ?zqN ?zqT ?zqhk ?zqhd ?zqhu ?_; (case zqB => k_asm); (case zqF => k_asm); (case zqX => k_asm); (case zqN => k_asm); (case zqT => k_asm); (case zqm1 => first | exact .head _ | exact .tail _ (.head _)); (case zqm2 => assumption); (case zqm3 => exact len5); (case zqm4 => exact (fmod2_b _).1); (case zqm5 => exact (fmod2_b _).2); (case zqhk => first | exact rfl | assumption); (case zqhd => first | exact room (by assumption) (by decide) | exact room0 (by assumption) (by decide) | ktr_room); (case zqhu => first | exact room (by assumption) (by decide) | exact room0 (by assumption) (by decide) | ktr_units); intro v9 n9 h9 tk9 R9 F9 N9; obtain ⟨T9, lw9, lg9, ws9, gs9, nw9, ng9, rest9, e8, e9, hs9, hw9, hg9⟩ := R9; subst e9; subst e8; (try dsimp only); (try k_sweep); (try k_fold))))) | ((with_reducible show wpAny _ _ (pyIter (Value.ref _)) _ _ _); ((k_here; (with_reducible show wpAny _ _ (pyIter (Value.ref _)) (fun it s₂ => TurnsAt _ _ _ _ _ (PySem.Expr.Tuple _ _ _) _ _ _ it s₂) _ _); (refine' for_none ?zqh ?zqF ?zqN ?zqm ?_; (case zqh => exact rfl); (case zqF => k_asm); (case zqN => k_asm); (case zqm => (repeat first | with_unfolding_all exact List.Mem.head _ | refine List.Mem.tail _ ?_))); intro h9 tk9 F9 N9))) | ((with_reducible show wpAny _ _ (exec (Stmt.For _ _ _ _ _) _) _ _ _); ((k_here; (with_reducible show wpAny _ _ (exec (Stmt.For (PySem.Expr.Tuple _ _ _) (PySem.Expr.Name _ _) _ _ _) _) _ _ _); (rename Fr _ _ _ _ => lF'); (with_unfolding_all refine' For_turns lF' ?_; k_whole)))) | ((with_reducible show wpAny _ _ (pyIter (Value.ref _)) _ _ _); first | with_reducible ((k_here; (with_reducible show wpAny _ _ (pyIter (Value.ref _)) (fun it s₂ => TurnsAt _ _ _ _ _ (PySem.Expr.Name _ _) _ _ _ it s₂) _ _); refine halt ?_)) | ((k_here; (with_reducible show wpAny _ _ (pyIter (Value.ref _)) (fun it s₂ => TurnsAt _ _ _ _ _ (PySem.Expr.Name _ _) _ _ _ it s₂) _ _); refine halt ?_))) | ((with_reducible show wpAny _ _ (exec (Stmt.For _ _ _ _ _) _) _ _ _); ((k_here; (with_reducible show wpAny _ _ (exec (Stmt.For (PySem.Expr.Name _ _) _ _ _ _) _) _ _ _); (rename Fr _ _ _ _ => lF'); (with_unfolding_all refine' For_turns lF' ?_; k_whole)))) | ((with_reducible show wpAny _ _ (storeName _ _ _) _ _ _); ((k_here; k_dflt ((refine' store_let ?zqF ?zqN ?_ ?zqa ?zqb; (case zqF => k_asm); (case zqN => k_asm); (case zqa => rfl); (case zqb => rfl); k_whole; intro m' h' tk' F' N'; (try k_sweep)))))) | walk1 | ((with_reducible show wpAny _ _ (exec (Stmt.For _ _ _ _ _) _) _ _ _); ((k_here; (with_reducible show wpAny _ _ (exec (Stmt.For (PySem.Expr.Tuple _ _ _) (PySem.Expr.Name _ _) _ _ _) _) _ _ _); (rename Fr _ _ _ _ => lF'); (with_unfolding_all refine' For_turns lF' ?_; k_whole)))) | (dsimp only; walk1) | (leave1; (try dsimp only)) | fail "no step")
        unfold Halt
        k_dflt (refine' method_inst ?k1 ?k2 ?k3 ?k4 ?k5 ?k6 ?k7 ?_)
        case k1 => k_asm
        case k2 => k_asm
        case k3 => k_inst
        case k4 => k_is
        case k5 => k_is
        case k6 => k_is
        case k7 => k_get
        k_whole
        first | walk1 | (dsimp only; walk1)
        k_here
        k_dflt (refine' ctr_use (items_ctr _ _ _ _ _ _ _ _ _ _ _ _ ?m1 ?m2 ?hm ?hl) ?B ?F ?X ?N ?T ?hk ?hd ?hu ?_)
        case B => k_asm
        case F => k_asm
        case X => k_asm
        case N => k_asm
        case T => k_asm
        case m1 => k_mem
        case m2 => k_mem
        case hm => k_mem
        case hl => assumption
        case hk => first | exact rfl | assumption
        case hd => ktr_room
        case hu => ktr_units
        intro v8 led8 h8 tk8 R8 F8 N8
        obtain ⟨l2, n3, rfl, rfl⟩ := R8
        repeat' (first | ((k_unfold); (try dsimp only)) | (k_end; kc_close) | ((with_reducible show wpAny _ _ (getMethod (Value.ref _) _ _) _ _ _); first | with_reducible ((k_here; (with_reducible show wpAny _ _ (getMethod (Value.ref _) (PySem.Str.ofString "items") _) _ _ _); refine halt ?_)) | ((k_here; (with_reducible show wpAny _ _ (getMethod (Value.ref _) (PySem.Str.ofString "items") _) _ _ _); refine halt ?_))) | ((with_reducible show wpAny _ _ (compareOp CmpOp.NotEq _ _) _ _ _); first | with_reducible ((k_here; refine halt ?_)) | ((k_here; refine halt ?_))) | ((with_reducible show wpAny _ _ (call (Value.ref _) _ _) _ _ _); first | with_reducible ((k_here; (with_reducible show wpAny _ _ (call (Value.ref 287) _ _) _ _ _); refine halt ?_)) | ((k_here; (with_reducible show wpAny _ _ (call (Value.ref 287) _ _) _ _ _); refine halt ?_))) | ((with_reducible show wpAny _ _ (call (Value.ref _) _ _) _ _ _); ((k_here; (with_reducible show wpAny _ _ (call (Value.ref 190) [Value.ref _] _) _ _ _); k_dflt (refine' ctr_use (items_ctr _ _ _ _ _ _ _ _ _ _ _ _ ?zqm1 ?zqm2 ?zqhm ?zqhl) ?zqB ?zqF ?zqX ?zqN ?zqT ?zqhk ?zqhd ?zqhu ?_; (case zqB => k_asm); (case zqF => k_asm); (case zqX => k_asm); (case zqN => k_asm); (case zqT => k_asm); (case zqm1 => k_mem); (case zqm2 => k_mem); (case zqhm => k_mem); (case zqhl => assumption); (case zqhk => first | exact rfl | assumption); (case zqhd => first | exact room (by assumption) (by decide) | exact room0 (by assumption) (by decide) | ktr_room); (case zqhu => first | exact room (by assumption) (by decide) | exact room0 (by assumption) (by decide) | ktr_units); intro v9 n9 h9 tk9 R9 F9 N9; obtain ⟨l29, n39, e8, e9⟩ := R9; subst e9; subst e8; (try dsimp only); (try k_sweep); (try k_fold))))) | ((with_reducible show wpAny _ _ (call (Value.builtin "str.join") _ _) _ _ _); first | with_reducible ((k_here; refine halt ?_)) | ((k_here; refine halt ?_))) | ((with_reducible show wpAny _ _ (call (Value.ref _) _ _) _ _ _); first | with_reducible ((k_here; (with_reducible show wpAny _ _ (call (Value.ref 272) _ _) _ _ _); refine halt ?_)) | ((k_here; (with_reducible show wpAny _ _ (call (Value.ref 272) _ _) _ _ _); refine halt ?_))) | ((with_reducible show wpAny _ _ (call (Value.ref _) _ _) _ _ _); ((k_here; (with_reducible show wpAny _ _ (call (Value.ref 265) [Value.int _ _, Value.int _ _, Value.int _ _] _) _ _ _); k_dflt (refine' use_val (law_page _ _ _ _ _ _ _ _ ?zqh1 ?zqh2 ?zqh3 ?zqh4 ?zqh5 ?zqh6 _ _ _ 0) ?zqB ?zqF ?zqX ?zqN ?zqT ?zqhk ?zqhd ?zqhu ?_; (case zqB => k_asm); (case zqF => k_asm); (case zqX => k_asm); (case zqN => k_asm); (case zqT => k_asm); (case zqh1 => assumption); (case zqh2 => assumption); (case zqh3 => assumption); (case zqh4 => assumption); (case zqh5 => assumption); (case zqh6 => assumption); (case zqhk => first | exact rfl | assumption); (case zqhd => first | exact room (by assumption) (by decide) | exact room0 (by assumption) (by decide) | ktr_room); (case zqhu => first | exact room (by assumption) (by decide) | exact room0 (by assumption) (by decide) | ktr_units); intro h9 tk9 t9 F9 N9; (try dsimp only); (try k_sweep); (try k_fold))))) | ((with_reducible show wpAny _ _ (call (Value.ref _) _ _) _ _ _); ((k_here; (with_reducible show wpAny _ _ (call (Value.ref 258) [Value.int _ _, Value.int _ _, Value.int _ _] _) _ _ _); k_dflt (refine' use_val (law_pattern _ _ _ _ _ _ _ _ ?zqh1 ?zqh2 ?zqh3 ?zqh4 ?zqh5 ?zqh6 _ _ _ 0) ?zqB ?zqF ?zqX ?zqN ?zqT ?zqhk ?zqhd ?zqhu ?_; (case zqB => k_asm); (case zqF => k_asm); (case zqX => k_asm); (case zqN => k_asm); (case zqT => k_asm); (case zqh1 => assumption); (case zqh2 => assumption); (case zqh3 => assumption); (case zqh4 => assumption); (case zqh5 => assumption); (case zqh6 => assumption); (case zqhk => first | exact rfl | assumption); (case zqhd => first | exact room (by assumption) (by decide) | exact room0 (by assumption) (by decide) | ktr_room); (case zqhu => first | exact room (by assumption) (by decide) | exact room0 (by assumption) (by decide) | ktr_units); intro h9 tk9 t9 F9 N9; (try dsimp only); (try k_sweep); (try k_fold))))) | ((with_reducible show wpAny _ _ (call (Value.ref _) _ _) _ _ _); ((k_here; (with_reducible show wpAny _ _ (call (Value.ref 237) [Value.ref _, Value.int _ _] _) _ _ _); k_dflt (refine' ctr_use (rows_ctr _ _ _ _ _ _ _ _ _ _ _ ?zqm1 ?zqm2 ?zqm3 ?zqm4 ?zqm5) ?zqB ?zqF ?zqX ?zqN ?zqT ?zqhk ?zqhd ?zqhu ?_; (case zqB => k_asm); (case zqF => k_asm); (case zqX => k_asm); (case zqN => k_asm); (case zqT => k_asm); (case zqm1 => first | exact .head _ | exact .tail _ (.head _)); (case zqm2 => assumption); (case zqm3 => exact len5); (case zqm4 => exact (fmod2_b _).1); (case zqm5 => exact (fmod2_b _).2); (case zqhk => first | exact rfl | assumption); (case zqhd => first | exact room (by assumption) (by decide) | exact room0 (by assumption) (by decide) | ktr_room); (case zqhu => first | exact room (by assumption) (by decide) | exact room0 (by assumption) (by decide) | ktr_units); intro v9 n9 h9 tk9 R9 F9 N9; obtain ⟨T9, lw9, lg9, ws9, gs9, nw9, ng9, rest9, e8, e9, hs9, hw9, hg9⟩ := R9; subst e9; subst e8; (try dsimp only); (try k_sweep); (try k_fold))))) | ((with_reducible show wpAny _ _ (pyIter (Value.ref _)) _ _ _); ((k_here; (with_reducible show wpAny _ _ (pyIter (Value.ref _)) (fun it s₂ => TurnsAt _ _ _ _ _ (PySem.Expr.Tuple _ _ _) _ _ _ it s₂) _ _); (refine' for_none ?zqh ?zqF ?zqN ?zqm ?_; (case zqh => exact rfl); (case zqF => k_asm); (case zqN => k_asm); (case zqm => (repeat first | with_unfolding_all exact List.Mem.head _ | refine List.Mem.tail _ ?_))); intro h9 tk9 F9 N9))) | ((with_reducible show wpAny _ _ (exec (Stmt.For _ _ _ _ _) _) _ _ _); ((k_here; (with_reducible show wpAny _ _ (exec (Stmt.For (PySem.Expr.Tuple _ _ _) (PySem.Expr.Name _ _) _ _ _) _) _ _ _); (rename Fr _ _ _ _ => lF'); (with_unfolding_all refine' For_turns lF' ?_; k_whole)))) | ((with_reducible show wpAny _ _ (pyIter (Value.ref _)) _ _ _); first | with_reducible ((k_here; (with_reducible show wpAny _ _ (pyIter (Value.ref _)) (fun it s₂ => TurnsAt _ _ _ _ _ (PySem.Expr.Name _ _) _ _ _ it s₂) _ _); refine halt ?_)) | ((k_here; (with_reducible show wpAny _ _ (pyIter (Value.ref _)) (fun it s₂ => TurnsAt _ _ _ _ _ (PySem.Expr.Name _ _) _ _ _ it s₂) _ _); refine halt ?_))) | ((with_reducible show wpAny _ _ (exec (Stmt.For _ _ _ _ _) _) _ _ _); ((k_here; (with_reducible show wpAny _ _ (exec (Stmt.For (PySem.Expr.Name _ _) _ _ _ _) _) _ _ _); (rename Fr _ _ _ _ => lF'); (with_unfolding_all refine' For_turns lF' ?_; k_whole)))) | ((with_reducible show wpAny _ _ (storeName _ _ _) _ _ _); ((k_here; k_dflt ((refine' store_let ?zqF ?zqN ?_ ?zqa ?zqb; (case zqF => k_asm); (case zqN => k_asm); (case zqa => rfl); (case zqb => rfl); k_whole; intro m' h' tk' F' N'; (try k_sweep)))))) | walk1 | ((with_reducible show wpAny _ _ (exec (Stmt.For _ _ _ _ _) _) _ _ _); ((k_here; (with_reducible show wpAny _ _ (exec (Stmt.For (PySem.Expr.Tuple _ _ _) (PySem.Expr.Name _ _) _ _ _) _) _ _ _); (rename Fr _ _ _ _ => lF'); (with_unfolding_all refine' For_turns lF' ?_; k_whole)))) | (dsimp only; walk1) | (leave1; (try dsimp only)) | fail "no step")
        unfold Halt
        k_here
        k_dflt (refine' ctr_use (due_all _ _ _ _ _ _ _ _ _ _ _ _ _ _ _ hd _ (Hold.out keep).2.2.2.2.2 _ _ ?mw ?hw ?mg ?hg wl8 gl8) ?B ?F ?X ?N ?T ?hk ?hd ?hu ?_)
        case B => k_asm
        case F => k_asm
        case X => k_asm
        case N => k_asm
        case T => k_asm
        case mw => k_mem
        case mg => k_mem
        case hw => exact hrw9.mono (fun q hq => by repeat first | exact hq | refine List.Mem.tail _ ?_)
        case hg => exact hrg9.mono (fun q hq => by repeat first | exact hq | refine List.Mem.tail _ ?_)
        case hk => first | exact rfl | assumption
        case hd => ktr_room
        case hu => ktr_units
        intro v7 led7 h7 tk7 R7 F7 N7
        obtain ⟨hs7, hD7⟩ := R7
        obtain ⟨T7, rfl⟩ := shows_ref N7 hD7
        have hDk := Hold.mk (And.intro hs7 hD7)
        clear hs7 hD7
        repeat' (first | ((k_unfold); (try dsimp only)) | (k_end; kc_close) | ((with_reducible show wpAny _ _ (getMethod (Value.ref _) _ _) _ _ _); first | with_reducible ((k_here; (with_reducible show wpAny _ _ (getMethod (Value.ref _) (PySem.Str.ofString "items") _) _ _ _); refine halt ?_)) | ((k_here; (with_reducible show wpAny _ _ (getMethod (Value.ref _) (PySem.Str.ofString "items") _) _ _ _); refine halt ?_))) | ((with_reducible show wpAny _ _ (compareOp CmpOp.NotEq _ _) _ _ _); first | with_reducible ((k_here; refine halt ?_)) | ((k_here; refine halt ?_))) | ((with_reducible show wpAny _ _ (call (Value.ref _) _ _) _ _ _); first | with_reducible ((k_here; (with_reducible show wpAny _ _ (call (Value.ref 287) _ _) _ _ _); refine halt ?_)) | ((k_here; (with_reducible show wpAny _ _ (call (Value.ref 287) _ _) _ _ _); refine halt ?_))) | ((with_reducible show wpAny _ _ (call (Value.ref _) _ _) _ _ _); ((k_here; (with_reducible show wpAny _ _ (call (Value.ref 190) [Value.ref _] _) _ _ _); k_dflt (refine' ctr_use (items_ctr _ _ _ _ _ _ _ _ _ _ _ _ ?zqm1 ?zqm2 ?zqhm ?zqhl) ?zqB ?zqF ?zqX ?zqN ?zqT ?zqhk ?zqhd ?zqhu ?_; (case zqB => k_asm); (case zqF => k_asm); (case zqX => k_asm); (case zqN => k_asm); (case zqT => k_asm); (case zqm1 => k_mem); (case zqm2 => k_mem); (case zqhm => k_mem); (case zqhl => assumption); (case zqhk => first | exact rfl | assumption); (case zqhd => first | exact room (by assumption) (by decide) | exact room0 (by assumption) (by decide) | ktr_room); (case zqhu => first | exact room (by assumption) (by decide) | exact room0 (by assumption) (by decide) | ktr_units); intro v9 n9 h9 tk9 R9 F9 N9; obtain ⟨l29, n39, e8, e9⟩ := R9; subst e9; subst e8; (try dsimp only); (try k_sweep); (try k_fold))))) | ((with_reducible show wpAny _ _ (call (Value.builtin "str.join") _ _) _ _ _); first | with_reducible ((k_here; refine halt ?_)) | ((k_here; refine halt ?_))) | ((with_reducible show wpAny _ _ (call (Value.ref _) _ _) _ _ _); first | with_reducible ((k_here; (with_reducible show wpAny _ _ (call (Value.ref 272) _ _) _ _ _); refine halt ?_)) | ((k_here; (with_reducible show wpAny _ _ (call (Value.ref 272) _ _) _ _ _); refine halt ?_))) | ((with_reducible show wpAny _ _ (call (Value.ref _) _ _) _ _ _); ((k_here; (with_reducible show wpAny _ _ (call (Value.ref 265) [Value.int _ _, Value.int _ _, Value.int _ _] _) _ _ _); k_dflt (refine' use_val (law_page _ _ _ _ _ _ _ _ ?zqh1 ?zqh2 ?zqh3 ?zqh4 ?zqh5 ?zqh6 _ _ _ 0) ?zqB ?zqF ?zqX ?zqN ?zqT ?zqhk ?zqhd ?zqhu ?_; (case zqB => k_asm); (case zqF => k_asm); (case zqX => k_asm); (case zqN => k_asm); (case zqT => k_asm); (case zqh1 => assumption); (case zqh2 => assumption); (case zqh3 => assumption); (case zqh4 => assumption); (case zqh5 => assumption); (case zqh6 => assumption); (case zqhk => first | exact rfl | assumption); (case zqhd => first | exact room (by assumption) (by decide) | exact room0 (by assumption) (by decide) | ktr_room); (case zqhu => first | exact room (by assumption) (by decide) | exact room0 (by assumption) (by decide) | ktr_units); intro h9 tk9 t9 F9 N9; (try dsimp only); (try k_sweep); (try k_fold))))) | ((with_reducible show wpAny _ _ (call (Value.ref _) _ _) _ _ _); ((k_here; (with_reducible show wpAny _ _ (call (Value.ref 258) [Value.int _ _, Value.int _ _, Value.int _ _] _) _ _ _); k_dflt (refine' use_val (law_pattern _ _ _ _ _ _ _ _ ?zqh1 ?zqh2 ?zqh3 ?zqh4 ?zqh5 ?zqh6 _ _ _ 0) ?zqB ?zqF ?zqX ?zqN ?zqT ?zqhk ?zqhd ?zqhu ?_; (case zqB => k_asm); (case zqF => k_asm); (case zqX => k_asm); (case zqN => k_asm); (case zqT => k_asm); (case zqh1 => assumption); (case zqh2 => assumption); (case zqh3 => assumption); (case zqh4 => assumption); (case zqh5 => assumption); (case zqh6 => assumption); (case zqhk => first | exact rfl | assumption); (case zqhd => first | exact room (by assumption) (by decide) | exact room0 (by assumption) (by decide) | ktr_room); (case zqhu => first | exact room (by assumption) (by decide) | exact room0 (by assumption) (by decide) | ktr_units); intro h9 tk9 t9 F9 N9; (try dsimp only); (try k_sweep); (try k_fold))))) | ((with_reducible show wpAny _ _ (call (Value.ref _) _ _) _ _ _); ((k_here; (with_reducible show wpAny _ _ (call (Value.ref 237) [Value.ref _, Value.int _ _] _) _ _ _); k_dflt (refine' ctr_use (rows_ctr _ _ _ _ _ _ _ _ _ _ _ ?zqm1 ?zqm2 ?zqm3 ?zqm4 ?zqm5) ?zqB ?zqF ?zqX ?zqN ?zqT ?zqhk ?zqhd ?zqhu ?_; (case zqB => k_asm); (case zqF => k_asm); (case zqX => k_asm); (case zqN => k_asm); (case zqT => k_asm); (case zqm1 => first | exact .head _ | exact .tail _ (.head _)); (case zqm2 => assumption); (case zqm3 => exact len5); (case zqm4 => exact (fmod2_b _).1); (case zqm5 => exact (fmod2_b _).2); (case zqhk => first | exact rfl | assumption); (case zqhd => first | exact room (by assumption) (by decide) | exact room0 (by assumption) (by decide) | ktr_room); (case zqhu => first | exact room (by assumption) (by decide) | exact room0 (by assumption) (by decide) | ktr_units); intro v9 n9 h9 tk9 R9 F9 N9; obtain ⟨T9, lw9, lg9, ws9, gs9, nw9, ng9, rest9, e8, e9, hs9, hw9, hg9⟩ := R9; subst e9; subst e8; (try dsimp only); (try k_sweep); (try k_fold))))) | ((with_reducible show wpAny _ _ (pyIter (Value.ref _)) _ _ _); ((k_here; (with_reducible show wpAny _ _ (pyIter (Value.ref _)) (fun it s₂ => TurnsAt _ _ _ _ _ (PySem.Expr.Tuple _ _ _) _ _ _ it s₂) _ _); (refine' for_none ?zqh ?zqF ?zqN ?zqm ?_; (case zqh => exact rfl); (case zqF => k_asm); (case zqN => k_asm); (case zqm => (repeat first | with_unfolding_all exact List.Mem.head _ | refine List.Mem.tail _ ?_))); intro h9 tk9 F9 N9))) | ((with_reducible show wpAny _ _ (exec (Stmt.For _ _ _ _ _) _) _ _ _); ((k_here; (with_reducible show wpAny _ _ (exec (Stmt.For (PySem.Expr.Tuple _ _ _) (PySem.Expr.Name _ _) _ _ _) _) _ _ _); (rename Fr _ _ _ _ => lF'); (with_unfolding_all refine' For_turns lF' ?_; k_whole)))) | ((with_reducible show wpAny _ _ (pyIter (Value.ref _)) _ _ _); first | with_reducible ((k_here; (with_reducible show wpAny _ _ (pyIter (Value.ref _)) (fun it s₂ => TurnsAt _ _ _ _ _ (PySem.Expr.Name _ _) _ _ _ it s₂) _ _); refine halt ?_)) | ((k_here; (with_reducible show wpAny _ _ (pyIter (Value.ref _)) (fun it s₂ => TurnsAt _ _ _ _ _ (PySem.Expr.Name _ _) _ _ _ it s₂) _ _); refine halt ?_))) | ((with_reducible show wpAny _ _ (exec (Stmt.For _ _ _ _ _) _) _ _ _); ((k_here; (with_reducible show wpAny _ _ (exec (Stmt.For (PySem.Expr.Name _ _) _ _ _ _) _) _ _ _); (rename Fr _ _ _ _ => lF'); (with_unfolding_all refine' For_turns lF' ?_; k_whole)))) | ((with_reducible show wpAny _ _ (storeName _ _ _) _ _ _); ((k_here; k_dflt ((refine' store_let ?zqF ?zqN ?_ ?zqa ?zqb; (case zqF => k_asm); (case zqN => k_asm); (case zqa => rfl); (case zqb => rfl); k_whole; intro m' h' tk' F' N'; (try k_sweep)))))) | walk1 | ((with_reducible show wpAny _ _ (exec (Stmt.For _ _ _ _ _) _) _ _ _); ((k_here; (with_reducible show wpAny _ _ (exec (Stmt.For (PySem.Expr.Tuple _ _ _) (PySem.Expr.Name _ _) _ _ _) _) _ _ _); (rename Fr _ _ _ _ => lF'); (with_unfolding_all refine' For_turns lF' ?_; k_whole)))) | (dsimp only; walk1) | (leave1; (try dsimp only)) | fail "no step")
        unfold Halt
        refine ne_whole (by k_asm) hd ?_ (Hold.out hDk).2 (by ktr_units) ?_
        · have hk := Hold.out keep
          rw [← hk.2.2.1]
          exact shows_tup ((Hold.out hDk).1 _ (.head _)) (.cons (hk.1.mono fun p hp => (Hold.out hDk).1 p (.tail _ (.tail _ hp))) (.cons (shows_list ((Hold.out hDk).1 _ (.tail _ (.head _))) (hk.2.1.mono fun p hp => (Hold.out hDk).1 p (.tail _ (.tail _ hp)))) .nil))
        · repeat' (first | ((k_unfold); (try dsimp only)) | (k_end; kc_close) | ((with_reducible show wpAny _ _ (getMethod (Value.ref _) _ _) _ _ _); first | with_reducible ((k_here; (with_reducible show wpAny _ _ (getMethod (Value.ref _) (PySem.Str.ofString "items") _) _ _ _); refine halt ?_)) | ((k_here; (with_reducible show wpAny _ _ (getMethod (Value.ref _) (PySem.Str.ofString "items") _) _ _ _); refine halt ?_))) | ((with_reducible show wpAny _ _ (compareOp CmpOp.NotEq _ _) _ _ _); first | with_reducible ((k_here; refine halt ?_)) | ((k_here; refine halt ?_))) | ((with_reducible show wpAny _ _ (call (Value.ref _) _ _) _ _ _); first | with_reducible ((k_here; (with_reducible show wpAny _ _ (call (Value.ref 287) _ _) _ _ _); refine halt ?_)) | ((k_here; (with_reducible show wpAny _ _ (call (Value.ref 287) _ _) _ _ _); refine halt ?_))) | ((with_reducible show wpAny _ _ (call (Value.ref _) _ _) _ _ _); ((k_here; (with_reducible show wpAny _ _ (call (Value.ref 190) [Value.ref _] _) _ _ _); k_dflt (refine' ctr_use (items_ctr _ _ _ _ _ _ _ _ _ _ _ _ ?zqm1 ?zqm2 ?zqhm ?zqhl) ?zqB ?zqF ?zqX ?zqN ?zqT ?zqhk ?zqhd ?zqhu ?_; (case zqB => k_asm); (case zqF => k_asm); (case zqX => k_asm); (case zqN => k_asm); (case zqT => k_asm); (case zqm1 => k_mem); (case zqm2 => k_mem); (case zqhm => k_mem); (case zqhl => assumption); (case zqhk => first | exact rfl | assumption); (case zqhd => first | exact room (by assumption) (by decide) | exact room0 (by assumption) (by decide) | ktr_room); (case zqhu => first | exact room (by assumption) (by decide) | exact room0 (by assumption) (by decide) | ktr_units); intro v9 n9 h9 tk9 R9 F9 N9; obtain ⟨l29, n39, e8, e9⟩ := R9; subst e9; subst e8; (try dsimp only); (try k_sweep); (try k_fold))))) | ((with_reducible show wpAny _ _ (call (Value.builtin "str.join") _ _) _ _ _); first | with_reducible ((k_here; refine halt ?_)) | ((k_here; refine halt ?_))) | ((with_reducible show wpAny _ _ (call (Value.ref _) _ _) _ _ _); first | with_reducible ((k_here; (with_reducible show wpAny _ _ (call (Value.ref 272) _ _) _ _ _); refine halt ?_)) | ((k_here; (with_reducible show wpAny _ _ (call (Value.ref 272) _ _) _ _ _); refine halt ?_))) | ((with_reducible show wpAny _ _ (call (Value.ref _) _ _) _ _ _); ((k_here; (with_reducible show wpAny _ _ (call (Value.ref 265) [Value.int _ _, Value.int _ _, Value.int _ _] _) _ _ _); k_dflt (refine' use_val (law_page _ _ _ _ _ _ _ _ ?zqh1 ?zqh2 ?zqh3 ?zqh4 ?zqh5 ?zqh6 _ _ _ 0) ?zqB ?zqF ?zqX ?zqN ?zqT ?zqhk ?zqhd ?zqhu ?_; (case zqB => k_asm); (case zqF => k_asm); (case zqX => k_asm); (case zqN => k_asm); (case zqT => k_asm); (case zqh1 => assumption); (case zqh2 => assumption); (case zqh3 => assumption); (case zqh4 => assumption); (case zqh5 => assumption); (case zqh6 => assumption); (case zqhk => first | exact rfl | assumption); (case zqhd => first | exact room (by assumption) (by decide) | exact room0 (by assumption) (by decide) | ktr_room); (case zqhu => first | exact room (by assumption) (by decide) | exact room0 (by assumption) (by decide) | ktr_units); intro h9 tk9 t9 F9 N9; (try dsimp only); (try k_sweep); (try k_fold))))) | ((with_reducible show wpAny _ _ (call (Value.ref _) _ _) _ _ _); ((k_here; (with_reducible show wpAny _ _ (call (Value.ref 258) [Value.int _ _, Value.int _ _, Value.int _ _] _) _ _ _); k_dflt (refine' use_val (law_pattern _ _ _ _ _ _ _ _ ?zqh1 ?zqh2 ?zqh3 ?zqh4 ?zqh5 ?zqh6 _ _ _ 0) ?zqB ?zqF ?zqX ?zqN ?zqT ?zqhk ?zqhd ?zqhu ?_; (case zqB => k_asm); (case zqF => k_asm); (case zqX => k_asm); (case zqN => k_asm); (case zqT => k_asm); (case zqh1 => assumption); (case zqh2 => assumption); (case zqh3 => assumption); (case zqh4 => assumption); (case zqh5 => assumption); (case zqh6 => assumption); (case zqhk => first | exact rfl | assumption); (case zqhd => first | exact room (by assumption) (by decide) | exact room0 (by assumption) (by decide) | ktr_room); (case zqhu => first | exact room (by assumption) (by decide) | exact room0 (by assumption) (by decide) | ktr_units); intro h9 tk9 t9 F9 N9; (try dsimp only); (try k_sweep); (try k_fold))))) | ((with_reducible show wpAny _ _ (call (Value.ref _) _ _) _ _ _); ((k_here; (with_reducible show wpAny _ _ (call (Value.ref 237) [Value.ref _, Value.int _ _] _) _ _ _); k_dflt (refine' ctr_use (rows_ctr _ _ _ _ _ _ _ _ _ _ _ ?zqm1 ?zqm2 ?zqm3 ?zqm4 ?zqm5) ?zqB ?zqF ?zqX ?zqN ?zqT ?zqhk ?zqhd ?zqhu ?_; (case zqB => k_asm); (case zqF => k_asm); (case zqX => k_asm); (case zqN => k_asm); (case zqT => k_asm); (case zqm1 => first | exact .head _ | exact .tail _ (.head _)); (case zqm2 => assumption); (case zqm3 => exact len5); (case zqm4 => exact (fmod2_b _).1); (case zqm5 => exact (fmod2_b _).2); (case zqhk => first | exact rfl | assumption); (case zqhd => first | exact room (by assumption) (by decide) | exact room0 (by assumption) (by decide) | ktr_room); (case zqhu => first | exact room (by assumption) (by decide) | exact room0 (by assumption) (by decide) | ktr_units); intro v9 n9 h9 tk9 R9 F9 N9; obtain ⟨T9, lw9, lg9, ws9, gs9, nw9, ng9, rest9, e8, e9, hs9, hw9, hg9⟩ := R9; subst e9; subst e8; (try dsimp only); (try k_sweep); (try k_fold))))) | ((with_reducible show wpAny _ _ (pyIter (Value.ref _)) _ _ _); ((k_here; (with_reducible show wpAny _ _ (pyIter (Value.ref _)) (fun it s₂ => TurnsAt _ _ _ _ _ (PySem.Expr.Tuple _ _ _) _ _ _ it s₂) _ _); (refine' for_none ?zqh ?zqF ?zqN ?zqm ?_; (case zqh => exact rfl); (case zqF => k_asm); (case zqN => k_asm); (case zqm => (repeat first | with_unfolding_all exact List.Mem.head _ | refine List.Mem.tail _ ?_))); intro h9 tk9 F9 N9))) | ((with_reducible show wpAny _ _ (exec (Stmt.For _ _ _ _ _) _) _ _ _); ((k_here; (with_reducible show wpAny _ _ (exec (Stmt.For (PySem.Expr.Tuple _ _ _) (PySem.Expr.Name _ _) _ _ _) _) _ _ _); (rename Fr _ _ _ _ => lF'); (with_unfolding_all refine' For_turns lF' ?_; k_whole)))) | ((with_reducible show wpAny _ _ (pyIter (Value.ref _)) _ _ _); first | with_reducible ((k_here; (with_reducible show wpAny _ _ (pyIter (Value.ref _)) (fun it s₂ => TurnsAt _ _ _ _ _ (PySem.Expr.Name _ _) _ _ _ it s₂) _ _); refine halt ?_)) | ((k_here; (with_reducible show wpAny _ _ (pyIter (Value.ref _)) (fun it s₂ => TurnsAt _ _ _ _ _ (PySem.Expr.Name _ _) _ _ _ it s₂) _ _); refine halt ?_))) | ((with_reducible show wpAny _ _ (exec (Stmt.For _ _ _ _ _) _) _ _ _); ((k_here; (with_reducible show wpAny _ _ (exec (Stmt.For (PySem.Expr.Name _ _) _ _ _ _) _) _ _ _); (rename Fr _ _ _ _ => lF'); (with_unfolding_all refine' For_turns lF' ?_; k_whole)))) | ((with_reducible show wpAny _ _ (storeName _ _ _) _ _ _); ((k_here; k_dflt ((refine' store_let ?zqF ?zqN ?_ ?zqa ?zqb; (case zqF => k_asm); (case zqN => k_asm); (case zqa => rfl); (case zqb => rfl); k_whole; intro m' h' tk' F' N'; (try k_sweep)))))) | walk1 | ((with_reducible show wpAny _ _ (exec (Stmt.For _ _ _ _ _) _) _ _ _); ((k_here; (with_reducible show wpAny _ _ (exec (Stmt.For (PySem.Expr.Tuple _ _ _) (PySem.Expr.Name _ _) _ _ _) _) _ _ _); (rename Fr _ _ _ _ => lF'); (with_unfolding_all refine' For_turns lF' ?_; k_whole)))) | (dsimp only; walk1) | (leave1; (try dsimp only)) | fail "no step")
          have hk := Hold.out keep
          have hs7 := (Hold.out hDk).1
          exact law_end (by assumption) (by k_asm) (hs7 _ (.tail _ (.tail _ (.tail _ hk.2.2.2.1)))) (hs7 _ (.tail _ (.tail _ (.head _)))) (by assumption) hIc (fun p hp => ⟨hs7 p (.tail _ (.tail _ (.tail _ (hk.2.2.2.2.1 p (hsub p hp))))), hoff p (hsub p hp) _ (.head _), hIR p (hsub p hp)⟩) hx (fun t ht' => ht t (.tail _ ht')) (by intro y hy; (repeat (first | exact rfl | (refine (upd_skip hy ?_).trans ?_; (decide)))); (try (simp +zetaDelta only [hde])))
      · intro pre k p rem ys I' oI C oC D m₂ h tk E' ta tb hrr hys hC hx hx₂ F N off ne
        have hkp := gok (k, p) (by rw [hrr]; simp)
        obtain ⟨⟨hk0, hk7⟩, hp0, hp12⟩ := hkp
        dsimp only at hk0 hk7 hp0 hp12
        repeat' (first | ((k_unfold); (try dsimp only)) | (k_end; kc_close) | ((with_reducible show wpAny _ _ (getMethod (Value.ref _) _ _) _ _ _); first | with_reducible ((k_here; (with_reducible show wpAny _ _ (getMethod (Value.ref _) (PySem.Str.ofString "items") _) _ _ _); refine halt ?_)) | ((k_here; (with_reducible show wpAny _ _ (getMethod (Value.ref _) (PySem.Str.ofString "items") _) _ _ _); refine halt ?_))) | ((with_reducible show wpAny _ _ (compareOp CmpOp.NotEq _ _) _ _ _); first | with_reducible ((k_here; refine halt ?_)) | ((k_here; refine halt ?_))) | ((with_reducible show wpAny _ _ (call (Value.ref _) _ _) _ _ _); first | with_reducible ((k_here; (with_reducible show wpAny _ _ (call (Value.ref 287) _ _) _ _ _); refine halt ?_)) | ((k_here; (with_reducible show wpAny _ _ (call (Value.ref 287) _ _) _ _ _); refine halt ?_))) | ((with_reducible show wpAny _ _ (call (Value.ref _) _ _) _ _ _); ((k_here; (with_reducible show wpAny _ _ (call (Value.ref 190) [Value.ref _] _) _ _ _); k_dflt (refine' ctr_use (items_ctr _ _ _ _ _ _ _ _ _ _ _ _ ?zqm1 ?zqm2 ?zqhm ?zqhl) ?zqB ?zqF ?zqX ?zqN ?zqT ?zqhk ?zqhd ?zqhu ?_; (case zqB => k_asm); (case zqF => k_asm); (case zqX => k_asm); (case zqN => k_asm); (case zqT => k_asm); (case zqm1 => k_mem); (case zqm2 => k_mem); (case zqhm => k_mem); (case zqhl => assumption); (case zqhk => first | exact rfl | assumption); (case zqhd => first | exact room (by assumption) (by decide) | exact room0 (by assumption) (by decide) | ktr_room); (case zqhu => first | exact room (by assumption) (by decide) | exact room0 (by assumption) (by decide) | ktr_units); intro v9 n9 h9 tk9 R9 F9 N9; obtain ⟨l29, n39, e8, e9⟩ := R9; subst e9; subst e8; (try dsimp only); (try k_sweep); (try k_fold))))) | ((with_reducible show wpAny _ _ (call (Value.builtin "str.join") _ _) _ _ _); first | with_reducible ((k_here; refine halt ?_)) | ((k_here; refine halt ?_))) | ((with_reducible show wpAny _ _ (call (Value.ref _) _ _) _ _ _); first | with_reducible ((k_here; (with_reducible show wpAny _ _ (call (Value.ref 272) _ _) _ _ _); refine halt ?_)) | ((k_here; (with_reducible show wpAny _ _ (call (Value.ref 272) _ _) _ _ _); refine halt ?_))) | ((with_reducible show wpAny _ _ (call (Value.ref _) _ _) _ _ _); ((k_here; (with_reducible show wpAny _ _ (call (Value.ref 265) [Value.int _ _, Value.int _ _, Value.int _ _] _) _ _ _); k_dflt (refine' use_val (law_page _ _ _ _ _ _ _ _ ?zqh1 ?zqh2 ?zqh3 ?zqh4 ?zqh5 ?zqh6 _ _ _ 0) ?zqB ?zqF ?zqX ?zqN ?zqT ?zqhk ?zqhd ?zqhu ?_; (case zqB => k_asm); (case zqF => k_asm); (case zqX => k_asm); (case zqN => k_asm); (case zqT => k_asm); (case zqh1 => assumption); (case zqh2 => assumption); (case zqh3 => assumption); (case zqh4 => assumption); (case zqh5 => assumption); (case zqh6 => assumption); (case zqhk => first | exact rfl | assumption); (case zqhd => first | exact room (by assumption) (by decide) | exact room0 (by assumption) (by decide) | ktr_room); (case zqhu => first | exact room (by assumption) (by decide) | exact room0 (by assumption) (by decide) | ktr_units); intro h9 tk9 t9 F9 N9; (try dsimp only); (try k_sweep); (try k_fold))))) | ((with_reducible show wpAny _ _ (call (Value.ref _) _ _) _ _ _); ((k_here; (with_reducible show wpAny _ _ (call (Value.ref 258) [Value.int _ _, Value.int _ _, Value.int _ _] _) _ _ _); k_dflt (refine' use_val (law_pattern _ _ _ _ _ _ _ _ ?zqh1 ?zqh2 ?zqh3 ?zqh4 ?zqh5 ?zqh6 _ _ _ 0) ?zqB ?zqF ?zqX ?zqN ?zqT ?zqhk ?zqhd ?zqhu ?_; (case zqB => k_asm); (case zqF => k_asm); (case zqX => k_asm); (case zqN => k_asm); (case zqT => k_asm); (case zqh1 => assumption); (case zqh2 => assumption); (case zqh3 => assumption); (case zqh4 => assumption); (case zqh5 => assumption); (case zqh6 => assumption); (case zqhk => first | exact rfl | assumption); (case zqhd => first | exact room (by assumption) (by decide) | exact room0 (by assumption) (by decide) | ktr_room); (case zqhu => first | exact room (by assumption) (by decide) | exact room0 (by assumption) (by decide) | ktr_units); intro h9 tk9 t9 F9 N9; (try dsimp only); (try k_sweep); (try k_fold))))) | ((with_reducible show wpAny _ _ (call (Value.ref _) _ _) _ _ _); ((k_here; (with_reducible show wpAny _ _ (call (Value.ref 237) [Value.ref _, Value.int _ _] _) _ _ _); k_dflt (refine' ctr_use (rows_ctr _ _ _ _ _ _ _ _ _ _ _ ?zqm1 ?zqm2 ?zqm3 ?zqm4 ?zqm5) ?zqB ?zqF ?zqX ?zqN ?zqT ?zqhk ?zqhd ?zqhu ?_; (case zqB => k_asm); (case zqF => k_asm); (case zqX => k_asm); (case zqN => k_asm); (case zqT => k_asm); (case zqm1 => first | exact .head _ | exact .tail _ (.head _)); (case zqm2 => assumption); (case zqm3 => exact len5); (case zqm4 => exact (fmod2_b _).1); (case zqm5 => exact (fmod2_b _).2); (case zqhk => first | exact rfl | assumption); (case zqhd => first | exact room (by assumption) (by decide) | exact room0 (by assumption) (by decide) | ktr_room); (case zqhu => first | exact room (by assumption) (by decide) | exact room0 (by assumption) (by decide) | ktr_units); intro v9 n9 h9 tk9 R9 F9 N9; obtain ⟨T9, lw9, lg9, ws9, gs9, nw9, ng9, rest9, e8, e9, hs9, hw9, hg9⟩ := R9; subst e9; subst e8; (try dsimp only); (try k_sweep); (try k_fold))))) | ((with_reducible show wpAny _ _ (pyIter (Value.ref _)) _ _ _); ((k_here; (with_reducible show wpAny _ _ (pyIter (Value.ref _)) (fun it s₂ => TurnsAt _ _ _ _ _ (PySem.Expr.Tuple _ _ _) _ _ _ it s₂) _ _); (refine' for_none ?zqh ?zqF ?zqN ?zqm ?_; (case zqh => exact rfl); (case zqF => k_asm); (case zqN => k_asm); (case zqm => (repeat first | with_unfolding_all exact List.Mem.head _ | refine List.Mem.tail _ ?_))); intro h9 tk9 F9 N9))) | ((with_reducible show wpAny _ _ (exec (Stmt.For _ _ _ _ _) _) _ _ _); ((k_here; (with_reducible show wpAny _ _ (exec (Stmt.For (PySem.Expr.Tuple _ _ _) (PySem.Expr.Name _ _) _ _ _) _) _ _ _); (rename Fr _ _ _ _ => lF'); (with_unfolding_all refine' For_turns lF' ?_; k_whole)))) | ((with_reducible show wpAny _ _ (pyIter (Value.ref _)) _ _ _); first | with_reducible ((k_here; (with_reducible show wpAny _ _ (pyIter (Value.ref _)) (fun it s₂ => TurnsAt _ _ _ _ _ (PySem.Expr.Name _ _) _ _ _ it s₂) _ _); refine halt ?_)) | ((k_here; (with_reducible show wpAny _ _ (pyIter (Value.ref _)) (fun it s₂ => TurnsAt _ _ _ _ _ (PySem.Expr.Name _ _) _ _ _ it s₂) _ _); refine halt ?_))) | ((with_reducible show wpAny _ _ (exec (Stmt.For _ _ _ _ _) _) _ _ _); ((k_here; (with_reducible show wpAny _ _ (exec (Stmt.For (PySem.Expr.Name _ _) _ _ _ _) _) _ _ _); (rename Fr _ _ _ _ => lF'); (with_unfolding_all refine' For_turns lF' ?_; k_whole)))) | ((with_reducible show wpAny _ _ (storeName _ _ _) _ _ _); ((k_here; k_dflt ((refine' store_let ?zqF ?zqN ?_ ?zqa ?zqb; (case zqF => k_asm); (case zqN => k_asm); (case zqa => rfl); (case zqb => rfl); k_whole; intro m' h' tk' F' N'; (try k_sweep)))))) | walk1 | ((with_reducible show wpAny _ _ (exec (Stmt.For _ _ _ _ _) _) _ _ _); ((k_here; (with_reducible show wpAny _ _ (exec (Stmt.For (PySem.Expr.Tuple _ _ _) (PySem.Expr.Name _ _) _ _ _) _) _ _ _); (rename Fr _ _ _ _ => lF'); (with_unfolding_all refine' For_turns lF' ?_; k_whole)))) | (dsimp only; walk1) | (leave1; (try dsimp only)) | fail "no step")
        exact LCg.CompEnd.intro (by assumption) (by assumption) _ (fun q hq => hq) off (.inr ⟨_, by k_mem, rfl, _, rfl⟩) ⟨rfl, by rw [List.map_append]; exact hys.append' (.cons _ _ .nil)⟩
    · intro pre k p rem ys I' oI C oC D m₂ h tk E' ta tb hrr hys hC hx hx₂ F N off ne
      have hkp := wok (k, p) (by rw [hrr]; simp)
      obtain ⟨⟨hk0, hk7⟩, hp0, hp12⟩ := hkp
      dsimp only at hk0 hk7 hp0 hp12
      repeat' (first | ((k_unfold); (try dsimp only)) | (k_end; kc_close) | ((with_reducible show wpAny _ _ (getMethod (Value.ref _) _ _) _ _ _); first | with_reducible ((k_here; (with_reducible show wpAny _ _ (getMethod (Value.ref _) (PySem.Str.ofString "items") _) _ _ _); refine halt ?_)) | ((k_here; (with_reducible show wpAny _ _ (getMethod (Value.ref _) (PySem.Str.ofString "items") _) _ _ _); refine halt ?_))) | ((with_reducible show wpAny _ _ (compareOp CmpOp.NotEq _ _) _ _ _); first | with_reducible ((k_here; refine halt ?_)) | ((k_here; refine halt ?_))) | ((with_reducible show wpAny _ _ (call (Value.ref _) _ _) _ _ _); first | with_reducible ((k_here; (with_reducible show wpAny _ _ (call (Value.ref 287) _ _) _ _ _); refine halt ?_)) | ((k_here; (with_reducible show wpAny _ _ (call (Value.ref 287) _ _) _ _ _); refine halt ?_))) | ((with_reducible show wpAny _ _ (call (Value.ref _) _ _) _ _ _); ((k_here; (with_reducible show wpAny _ _ (call (Value.ref 190) [Value.ref _] _) _ _ _); k_dflt (refine' ctr_use (items_ctr _ _ _ _ _ _ _ _ _ _ _ _ ?zqm1 ?zqm2 ?zqhm ?zqhl) ?zqB ?zqF ?zqX ?zqN ?zqT ?zqhk ?zqhd ?zqhu ?_; (case zqB => k_asm); (case zqF => k_asm); (case zqX => k_asm); (case zqN => k_asm); (case zqT => k_asm); (case zqm1 => k_mem); (case zqm2 => k_mem); (case zqhm => k_mem); (case zqhl => assumption); (case zqhk => first | exact rfl | assumption); (case zqhd => first | exact room (by assumption) (by decide) | exact room0 (by assumption) (by decide) | ktr_room); (case zqhu => first | exact room (by assumption) (by decide) | exact room0 (by assumption) (by decide) | ktr_units); intro v9 n9 h9 tk9 R9 F9 N9; obtain ⟨l29, n39, e8, e9⟩ := R9; subst e9; subst e8; (try dsimp only); (try k_sweep); (try k_fold))))) | ((with_reducible show wpAny _ _ (call (Value.builtin "str.join") _ _) _ _ _); first | with_reducible ((k_here; refine halt ?_)) | ((k_here; refine halt ?_))) | ((with_reducible show wpAny _ _ (call (Value.ref _) _ _) _ _ _); first | with_reducible ((k_here; (with_reducible show wpAny _ _ (call (Value.ref 272) _ _) _ _ _); refine halt ?_)) | ((k_here; (with_reducible show wpAny _ _ (call (Value.ref 272) _ _) _ _ _); refine halt ?_))) | ((with_reducible show wpAny _ _ (call (Value.ref _) _ _) _ _ _); ((k_here; (with_reducible show wpAny _ _ (call (Value.ref 265) [Value.int _ _, Value.int _ _, Value.int _ _] _) _ _ _); k_dflt (refine' use_val (law_page _ _ _ _ _ _ _ _ ?zqh1 ?zqh2 ?zqh3 ?zqh4 ?zqh5 ?zqh6 _ _ _ 0) ?zqB ?zqF ?zqX ?zqN ?zqT ?zqhk ?zqhd ?zqhu ?_; (case zqB => k_asm); (case zqF => k_asm); (case zqX => k_asm); (case zqN => k_asm); (case zqT => k_asm); (case zqh1 => assumption); (case zqh2 => assumption); (case zqh3 => assumption); (case zqh4 => assumption); (case zqh5 => assumption); (case zqh6 => assumption); (case zqhk => first | exact rfl | assumption); (case zqhd => first | exact room (by assumption) (by decide) | exact room0 (by assumption) (by decide) | ktr_room); (case zqhu => first | exact room (by assumption) (by decide) | exact room0 (by assumption) (by decide) | ktr_units); intro h9 tk9 t9 F9 N9; (try dsimp only); (try k_sweep); (try k_fold))))) | ((with_reducible show wpAny _ _ (call (Value.ref _) _ _) _ _ _); ((k_here; (with_reducible show wpAny _ _ (call (Value.ref 258) [Value.int _ _, Value.int _ _, Value.int _ _] _) _ _ _); k_dflt (refine' use_val (law_pattern _ _ _ _ _ _ _ _ ?zqh1 ?zqh2 ?zqh3 ?zqh4 ?zqh5 ?zqh6 _ _ _ 0) ?zqB ?zqF ?zqX ?zqN ?zqT ?zqhk ?zqhd ?zqhu ?_; (case zqB => k_asm); (case zqF => k_asm); (case zqX => k_asm); (case zqN => k_asm); (case zqT => k_asm); (case zqh1 => assumption); (case zqh2 => assumption); (case zqh3 => assumption); (case zqh4 => assumption); (case zqh5 => assumption); (case zqh6 => assumption); (case zqhk => first | exact rfl | assumption); (case zqhd => first | exact room (by assumption) (by decide) | exact room0 (by assumption) (by decide) | ktr_room); (case zqhu => first | exact room (by assumption) (by decide) | exact room0 (by assumption) (by decide) | ktr_units); intro h9 tk9 t9 F9 N9; (try dsimp only); (try k_sweep); (try k_fold))))) | ((with_reducible show wpAny _ _ (call (Value.ref _) _ _) _ _ _); ((k_here; (with_reducible show wpAny _ _ (call (Value.ref 237) [Value.ref _, Value.int _ _] _) _ _ _); k_dflt (refine' ctr_use (rows_ctr _ _ _ _ _ _ _ _ _ _ _ ?zqm1 ?zqm2 ?zqm3 ?zqm4 ?zqm5) ?zqB ?zqF ?zqX ?zqN ?zqT ?zqhk ?zqhd ?zqhu ?_; (case zqB => k_asm); (case zqF => k_asm); (case zqX => k_asm); (case zqN => k_asm); (case zqT => k_asm); (case zqm1 => first | exact .head _ | exact .tail _ (.head _)); (case zqm2 => assumption); (case zqm3 => exact len5); (case zqm4 => exact (fmod2_b _).1); (case zqm5 => exact (fmod2_b _).2); (case zqhk => first | exact rfl | assumption); (case zqhd => first | exact room (by assumption) (by decide) | exact room0 (by assumption) (by decide) | ktr_room); (case zqhu => first | exact room (by assumption) (by decide) | exact room0 (by assumption) (by decide) | ktr_units); intro v9 n9 h9 tk9 R9 F9 N9; obtain ⟨T9, lw9, lg9, ws9, gs9, nw9, ng9, rest9, e8, e9, hs9, hw9, hg9⟩ := R9; subst e9; subst e8; (try dsimp only); (try k_sweep); (try k_fold))))) | ((with_reducible show wpAny _ _ (pyIter (Value.ref _)) _ _ _); ((k_here; (with_reducible show wpAny _ _ (pyIter (Value.ref _)) (fun it s₂ => TurnsAt _ _ _ _ _ (PySem.Expr.Tuple _ _ _) _ _ _ it s₂) _ _); (refine' for_none ?zqh ?zqF ?zqN ?zqm ?_; (case zqh => exact rfl); (case zqF => k_asm); (case zqN => k_asm); (case zqm => (repeat first | with_unfolding_all exact List.Mem.head _ | refine List.Mem.tail _ ?_))); intro h9 tk9 F9 N9))) | ((with_reducible show wpAny _ _ (exec (Stmt.For _ _ _ _ _) _) _ _ _); ((k_here; (with_reducible show wpAny _ _ (exec (Stmt.For (PySem.Expr.Tuple _ _ _) (PySem.Expr.Name _ _) _ _ _) _) _ _ _); (rename Fr _ _ _ _ => lF'); (with_unfolding_all refine' For_turns lF' ?_; k_whole)))) | ((with_reducible show wpAny _ _ (pyIter (Value.ref _)) _ _ _); first | with_reducible ((k_here; (with_reducible show wpAny _ _ (pyIter (Value.ref _)) (fun it s₂ => TurnsAt _ _ _ _ _ (PySem.Expr.Name _ _) _ _ _ it s₂) _ _); refine halt ?_)) | ((k_here; (with_reducible show wpAny _ _ (pyIter (Value.ref _)) (fun it s₂ => TurnsAt _ _ _ _ _ (PySem.Expr.Name _ _) _ _ _ it s₂) _ _); refine halt ?_))) | ((with_reducible show wpAny _ _ (exec (Stmt.For _ _ _ _ _) _) _ _ _); ((k_here; (with_reducible show wpAny _ _ (exec (Stmt.For (PySem.Expr.Name _ _) _ _ _ _) _) _ _ _); (rename Fr _ _ _ _ => lF'); (with_unfolding_all refine' For_turns lF' ?_; k_whole)))) | ((with_reducible show wpAny _ _ (storeName _ _ _) _ _ _); ((k_here; k_dflt ((refine' store_let ?zqF ?zqN ?_ ?zqa ?zqb; (case zqF => k_asm); (case zqN => k_asm); (case zqa => rfl); (case zqb => rfl); k_whole; intro m' h' tk' F' N'; (try k_sweep)))))) | walk1 | ((with_reducible show wpAny _ _ (exec (Stmt.For _ _ _ _ _) _) _ _ _); ((k_here; (with_reducible show wpAny _ _ (exec (Stmt.For (PySem.Expr.Tuple _ _ _) (PySem.Expr.Name _ _) _ _ _) _) _ _ _); (rename Fr _ _ _ _ => lF'); (with_unfolding_all refine' For_turns lF' ?_; k_whole)))) | (dsimp only; walk1) | (leave1; (try dsimp only)) | fail "no step")
      exact LCg.CompEnd.intro (by assumption) (by assumption) _ (fun q hq => hq) off (.inr ⟨_, by k_mem, rfl, _, rfl⟩) ⟨rfl, by rw [List.map_append]; exact hys.append' (.cons _ _ .nil)⟩)
end Mine
end PartL1
theorem PySem.Challenge.cw_pg0299_01_holds : PySem.Challenge.rw_pg0299_01.Holds := by
  exact Mine.law_holds
