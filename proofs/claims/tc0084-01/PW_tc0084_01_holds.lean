import PyProof.Rows.All
import Wide.All
import OpenK.AllK
import Wide.FinOn
import Open.Tops
import PyProof.WalksEnum
import Lean
import PySem.Challenge.RW_tc0084_01
section
open PySem PySem.W PyProof.Rows
set_option Elab.async false
set_option maxRecDepth 100000
set_option maxHeartbeats 0
set_option linter.unusedVariables false
namespace Mine
noncomputable abbrev S (x : String) : Str := Str.ofString x
noncomputable def ent (P : Params) (x : String) (t : Nat) (v : Value) : DictEntry := ⟨PyData.keyHash P (S x), .str (S x) t, v⟩
noncomputable abbrev o1 (P : Params) : Obj := PySem.W.boot_o_0 P
noncomputable def o2 (P : Params) : Obj := { cls := Value.type "dict", data := Data.dict #[ent P "builtins" 162 (Value.ref 4), ent P "__main__" 163 (Value.ref 5), ent P "_sre" 244 (Value.ref 12)] 3 }
noncomputable def o3 (P : Params) : Obj := { cls := Value.none, data := Data.dict #[ent P "\x69mport.loaded._sre" 183 (Value.bool true), ent P "class._frozen_\x69mportlib.BuiltinImporter" 185 (Value.ref 14), ent P "watched.\x69mport" 206 (Value.ref 18), ent P "class._frozen_\x69mportlib.ModuleSpec" 216 (Value.ref 22), ent P "sys.modules.booked-epoch" 245 (Value.int 3 0), ent P "\x69mport.later-laid._sre" 270 (Value.bool true), ent P "watched.library" 272 (Value.ref 27), ent P "watched.library-objects" 0 (Value.str (S "\x0c") 0), ent P "watched.library-deep._sre" 273 (Value.str (S "\x04\x00\x00\x0b\x04\x00\x00\x0b\x04\x00\x00\x03\x04\x00\x00\x0b\x08\x04dict\x02") 0)] 9 }
noncomputable def o4 (P : Params) : Obj := { cls := Value.type "dict", data := Data.dict #[ent P "__name__" 165 (Value.str (S "__main__") 164), ent P "__doc__" 166 (Value.none), ent P "__package__" 167 (Value.none), ent P "__loader__" 168 (Value.builtin "__main__.__loader__#opaque"), ent P "__spec__" 169 (Value.none), ent P "__annotations__" 170 (Value.ref 6), ent P "__builtins__" 171 (Value.ref 4), ent P "__file__" 173 (Value.str (S "/claim/cut.py") 172), ent P "__cached__" 174 (Value.none), ent P "_sre" 275 (Value.ref 12)] 10 }
noncomputable abbrev o5 (P : Params) : Obj := PySem.W.boot_o_4 P
noncomputable abbrev o6 (P : Params) : Obj := PySem.W.boot_o_5 P
noncomputable abbrev o7 (P : Params) : Obj := PySem.W.boot_o_6 P
noncomputable abbrev o8 (P : Params) : Obj := PySem.W.boot_o_7 P
noncomputable abbrev o9 (P : Params) : Obj := PySem.W.boot_o_8 P
noncomputable abbrev o10 (P : Params) : Obj := PySem.W.boot_o_9 P
noncomputable abbrev o11 (P : Params) : Obj := PySem.W.boot_o_10 P
noncomputable def o12 (P : Params) : Obj := { cls := Value.type "dict", data := Data.dict #[ent P "__name__" 247 (Value.str (S "_sre") 246), ent P "__doc__" 248 (Value.none), ent P "__package__" 250 (Value.str (S "") 249), ent P "__loader__" 251 (Value.builtin "off-the-table:_sre.__loader__:shared#opaque"), ent P "__spec__" 252 (Value.builtin "off-the-table:_sre.__spec__:shared#opaque"), ent P "compile" 253 (Value.builtin "_sre.compile"), ent P "template" 254 (Value.builtin "off-the-table:_sre.template:shared#opaque"), ent P "getcodesize" 255 (Value.builtin "off-the-table:_sre.getcodesize:shared#opaque"), ent P "ascii_iscased" 256 (Value.builtin "off-the-table:_sre.ascii_iscased:shared#opaque"), ent P "unicode_iscased" 257 (Value.builtin "off-the-table:_sre.unicode_iscased:shared#opaque"), ent P "ascii_tolower" 258 (Value.builtin "off-the-table:_sre.ascii_tolower:shared#opaque"), ent P "unicode_tolower" 259 (Value.builtin "off-the-table:_sre.unicode_tolower:shared#opaque"), ent P "MAGIC" 261 (Value.int 20230612 260), ent P "CODESIZE" 263 (Value.int 4 262), ent P "MAXREPEAT" 265 (Value.int 4294967295 264), ent P "MAXGROUPS" 267 (Value.int 1073741823 266), ent P "copyright" 269 (Value.str (S " SRE 2.2.2 Copyright (c) 1997-2002 by Secret Labs AB ") 268)] 17 }
noncomputable def o13 (P : Params) : Obj := { cls := Value.type "module", dict := some 11 }
noncomputable def o14 (P : Params) : Obj := { cls := Value.type "dict", data := Data.dict #[ent P "__module__" 189 (Value.str (S "_frozen_\x69mportlib") 186), ent P "__firstlineno__" 190 (Value.int 971 187), ent P "__doc__" 191 (Value.builtin "_frozen_\x69mportlib.BuiltinImporter.__doc__:str#opaque"), ent P "_ORIGIN" 192 (Value.str (S "built-in") 188), ent P "find_spec" 193 (Value.builtin "_frozen_\x69mportlib.BuiltinImporter.find_spec#opaque"), ent P "create_module" 194 (Value.builtin "_frozen_\x69mportlib.BuiltinImporter.create_module#opaque"), ent P "exec_module" 195 (Value.builtin "_frozen_\x69mportlib.BuiltinImporter.exec_module#opaque"), ent P "get_code" 196 (Value.builtin "_frozen_\x69mportlib.BuiltinImporter.get_code#opaque"), ent P "get_source" 197 (Value.builtin "_frozen_\x69mportlib.BuiltinImporter.get_source#opaque"), ent P "is_package" 198 (Value.builtin "_frozen_\x69mportlib.BuiltinImporter.is_package#opaque"), ent P "load_module" 199 (Value.builtin "_frozen_\x69mportlib.BuiltinImporter.load_module#opaque"), ent P "__static_attributes__" 200 (Value.ref 15), ent P "__dict__" 202 (Value.ref 16), ent P "__weakref__" 204 (Value.ref 17)] 14 }
noncomputable def o15 (P : Params) : Obj := { cls := Value.type "type", data := Data.cls { name := S "BuiltinImporter", bases := [Value.type "object"], mro := [Value.ref 14, Value.type "object"], ns := 13, qualname := S "BuiltinImporter" } }
noncomputable def o16 (P : Params) : Obj := { cls := Value.type "tuple", data := Data.seq #[] }
noncomputable def o17 (P : Params) : Obj := { cls := Value.type "getset_descriptor", data := Data.fields #[Value.str (S "__dict__") 201, Value.ref 14, Value.builtin "function.__dict__", Value.builtin "function.__dict__#set"] }
noncomputable def o18 (P : Params) : Obj := { cls := Value.type "getset_descriptor", data := Data.fields #[Value.str (S "__weakref__") 203, Value.ref 14, Value.builtin "ExceptionGroup.__weakref__", Value.none] }
noncomputable def o19 (P : Params) : Obj := { cls := Value.none, data := Data.seq #[Value.int 13 0, Value.str { cps := #[6, 189, 10, 95, 95, 109, 111, 100, 117, 108, 101, 95, 95, 6, 186, 17, 95, 102, 114, 111, 122, 101, 110, 95, 105, 109, 112, 111, 114, 116, 108, 105, 98, 6, 190, 15, 95, 95, 102, 105, 114, 115, 116, 108, 105, 110, 101, 110, 111, 95, 95, 4, 187, 0, 971, 6, 191, 7, 95, 95, 100, 111, 99, 95, 95, 9, 52, 95, 102, 114, 111, 122, 101, 110, 95, 105, 109, 112, 111, 114, 116, 108, 105, 98, 46, 66, 117, 105, 108, 116, 105, 110, 73, 109, 112, 111, 114, 116, 101, 114, 46, 95, 95, 100, 111, 99, 95, 95, 58, 115, 116, 114, 35, 111, 112, 97, 113, 117, 101, 6, 192, 7, 95, 79, 82, 73, 71, 73, 78, 6, 188, 8, 98, 117, 105, 108, 116, 45, 105, 110, 6, 193, 9, 102, 105, 110, 100, 95, 115, 112, 101, 99, 9, 50, 95, 102, 114, 111, 122, 101, 110, 95, 105, 109, 112, 111, 114, 116, 108, 105, 98, 46, 66, 117, 105, 108, 116, 105, 110, 73, 109, 112, 111, 114, 116, 101, 114, 46, 102, 105, 110, 100, 95, 115, 112, 101, 99, 35, 111, 112, 97, 113, 117, 101, 6, 194, 13, 99, 114, 101, 97, 116, 101, 95, 109, 111, 100, 117, 108, 101, 9, 54, 95, 102, 114, 111, 122, 101, 110, 95, 105, 109, 112, 111, 114, 116, 108, 105, 98, 46, 66, 117, 105, 108, 116, 105, 110, 73, 109, 112, 111, 114, 116, 101, 114, 46, 99, 114, 101, 97, 116, 101, 95, 109, 111, 100, 117, 108, 101, 35, 111, 112, 97, 113, 117, 101, 6, 195, 11, 101, 120, 101, 99, 95, 109, 111, 100, 117, 108, 101, 9, 52, 95, 102, 114, 111, 122, 101, 110, 95, 105, 109, 112, 111, 114, 116, 108, 105, 98, 46, 66, 117, 105, 108, 116, 105, 110, 73, 109, 112, 111, 114, 116, 101, 114, 46, 101, 120, 101, 99, 95, 109, 111, 100, 117, 108, 101, 35, 111, 112, 97, 113, 117, 101, 6, 196, 8, 103, 101, 116, 95, 99, 111, 100, 101, 9, 49, 95, 102, 114, 111, 122, 101, 110, 95, 105, 109, 112, 111, 114, 116, 108, 105, 98, 46, 66, 117, 105, 108, 116, 105, 110, 73, 109, 112, 111, 114, 116, 101, 114, 46, 103, 101, 116, 95, 99, 111, 100, 101, 35, 111, 112, 97, 113, 117, 101, 6, 197, 10, 103, 101, 116, 95, 115, 111, 117, 114, 99, 101, 9, 51, 95, 102, 114, 111, 122, 101, 110, 95, 105, 109, 112, 111, 114, 116, 108, 105, 98, 46, 66, 117, 105, 108, 116, 105, 110, 73, 109, 112, 111, 114, 116, 101, 114, 46, 103, 101, 116, 95, 115, 111, 117, 114, 99, 101, 35, 111, 112, 97, 113, 117, 101, 6, 198, 10, 105, 115, 95, 112, 97, 99, 107, 97, 103, 101, 9, 51, 95, 102, 114, 111, 122, 101, 110, 95, 105, 109, 112, 111, 114, 116, 108, 105, 98, 46, 66, 117, 105, 108, 116, 105, 110, 73, 109, 112, 111, 114, 116, 101, 114, 46, 105, 115, 95, 112, 97, 99, 107, 97, 103, 101, 35, 111, 112, 97, 113, 117, 101, 6, 199, 11, 108, 111, 97, 100, 95, 109, 111, 100, 117, 108, 101, 9, 52, 95, 102, 114, 111, 122, 101, 110, 95, 105, 109, 112, 111, 114, 116, 108, 105, 98, 46, 66, 117, 105, 108, 116, 105, 110, 73, 109, 112, 111, 114, 116, 101, 114, 46, 108, 111, 97, 100, 95, 109, 111, 100, 117, 108, 101, 35, 111, 112, 97, 113, 117, 101, 6, 200, 21, 95, 95, 115, 116, 97, 116, 105, 99, 95, 97, 116, 116, 114, 105, 98, 117, 116, 101, 115, 95, 95, 4, 0, 0, 15, 6, 202, 8, 95, 95, 100, 105, 99, 116, 95, 95, 4, 0, 0, 16, 6, 204, 11, 95, 95, 119, 101, 97, 107, 114, 101, 102, 95, 95, 4, 0, 0, 17] } 0, Value.bool true, Value.bool true, Value.str (S "") 205, Value.int 21 0, Value.str { cps := #[6, 227, 10, 95, 95, 109, 111, 100, 117, 108, 101, 95, 95, 6, 217, 17, 95, 102, 114, 111, 122, 101, 110, 95, 105, 109, 112, 111, 114, 116, 108, 105, 98, 6, 228, 15, 95, 95, 102, 105, 114, 115, 116, 108, 105, 110, 101, 110, 111, 95, 95, 4, 218, 0, 562, 6, 229, 7, 95, 95, 100, 111, 99, 95, 95, 9, 47, 95, 102, 114, 111, 122, 101, 110, 95, 105, 109, 112, 111, 114, 116, 108, 105, 98, 46, 77, 111, 100, 117, 108, 101, 83, 112, 101, 99, 46, 95, 95, 100, 111, 99, 95, 95, 58, 115, 116, 114, 35, 111, 112, 97, 113, 117, 101, 6, 230, 8, 95, 95, 105, 110, 105, 116, 95, 95, 9, 44, 95, 102, 114, 111, 122, 101, 110, 95, 105, 109, 112, 111, 114, 116, 108, 105, 98, 46, 77, 111, 100, 117, 108, 101, 83, 112, 101, 99, 46, 95, 95, 105, 110, 105, 116, 95, 95, 35, 111, 112, 97, 113, 117, 101, 6, 231, 8, 95, 95, 114, 101, 112, 114, 95, 95, 9, 44, 95, 102, 114, 111, 122, 101, 110, 95, 105, 109, 112, 111, 114, 116, 108, 105, 98, 46, 77, 111, 100, 117, 108, 101, 83, 112, 101, 99, 46, 95, 95, 114, 101, 112, 114, 95, 95, 35, 111, 112, 97, 113, 117, 101, 6, 232, 6, 95, 95, 101, 113, 95, 95, 9, 42, 95, 102, 114, 111, 122, 101, 110, 95, 105, 109, 112, 111, 114, 116, 108, 105, 98, 46, 77, 111, 100, 117, 108, 101, 83, 112, 101, 99, 46, 95, 95, 101, 113, 95, 95, 35, 111, 112, 97, 113, 117, 101, 6, 233, 6, 99, 97, 99, 104, 101, 100, 9, 42, 95, 102, 114, 111, 122, 101, 110, 95, 105, 109, 112, 111, 114, 116, 108, 105, 98, 46, 77, 111, 100, 117, 108, 101, 83, 112, 101, 99, 46, 99, 97, 99, 104, 101, 100, 35, 111, 112, 97, 113, 117, 101, 6, 234, 6, 112, 97, 114, 101, 110, 116, 9, 42, 95, 102, 114, 111, 122, 101, 110, 95, 105, 109, 112, 111, 114, 116, 108, 105, 98, 46, 77, 111, 100, 117, 108, 101, 83, 112, 101, 99, 46, 112, 97, 114, 101, 110, 116, 35, 111, 112, 97, 113, 117, 101, 6, 235, 12, 104, 97, 115, 95, 108, 111, 99, 97, 116, 105, 111, 110, 9, 48, 95, 102, 114, 111, 122, 101, 110, 95, 105, 109, 112, 111, 114, 116, 108, 105, 98, 46, 77, 111, 100, 117, 108, 101, 83, 112, 101, 99, 46, 104, 97, 115, 95, 108, 111, 99, 97, 116, 105, 111, 110, 35, 111, 112, 97, 113, 117, 101, 6, 236, 21, 95, 95, 115, 116, 97, 116, 105, 99, 95, 97, 116, 116, 114, 105, 98, 117, 116, 101, 115, 95, 95, 4, 0, 0, 23, 6, 238, 8, 95, 95, 100, 105, 99, 116, 95, 95, 4, 0, 0, 24, 6, 240, 11, 95, 95, 119, 101, 97, 107, 114, 101, 102, 95, 95, 4, 0, 0, 25, 6, 241, 8, 95, 95, 104, 97, 115, 104, 95, 95, 0] } 0, Value.bool true, Value.bool true, Value.str (S "") 242] 1 }
noncomputable def o20 (P : Params) : Obj := { cls := Value.type "list", data := Data.seq #[] }
noncomputable def o21 (P : Params) : Obj := { cls := Value.type "dict", data := Data.dict #[ent P "name" 208 (Value.str (S "_sre") 207), ent P "loader" 209 (Value.ref 14), ent P "origin" 210 (Value.str (S "built-in") 184), ent P "loader_state" 211 (Value.none), ent P "submodule_search_locations" 212 (Value.none), ent P "_uninitialized_submodules" 213 (Value.ref 19), ent P "_set_fileattr" 214 (Value.bool false), ent P "_cached" 215 (Value.none), ent P "_initializing" 243 (Value.bool false)] 9 }
noncomputable def o22 (P : Params) : Obj := { cls := Value.type "dict", data := Data.dict #[ent P "__module__" 227 (Value.str (S "_frozen_\x69mportlib") 217), ent P "__firstlineno__" 228 (Value.int 562 218), ent P "__doc__" 229 (Value.builtin "_frozen_\x69mportlib.ModuleSpec.__doc__:str#opaque"), ent P "__init__" 230 (Value.builtin "_frozen_\x69mportlib.ModuleSpec.__init__#opaque"), ent P "__repr__" 231 (Value.builtin "_frozen_\x69mportlib.ModuleSpec.__repr__#opaque"), ent P "__eq__" 232 (Value.builtin "_frozen_\x69mportlib.ModuleSpec.__eq__#opaque"), ent P "cached" 233 (Value.builtin "_frozen_\x69mportlib.ModuleSpec.cached#opaque"), ent P "parent" 234 (Value.builtin "_frozen_\x69mportlib.ModuleSpec.parent#opaque"), ent P "has_location" 235 (Value.builtin "_frozen_\x69mportlib.ModuleSpec.has_location#opaque"), ent P "__static_attributes__" 236 (Value.ref 23), ent P "__dict__" 238 (Value.ref 24), ent P "__weakref__" 240 (Value.ref 25), ent P "__hash__" 241 (Value.none)] 13 }
noncomputable def o23 (P : Params) : Obj := { cls := Value.type "type", data := Data.cls { name := S "ModuleSpec", bases := [Value.type "object"], mro := [Value.ref 22, Value.type "object"], ns := 21, qualname := S "ModuleSpec" } }
noncomputable def o24 (P : Params) : Obj := { cls := Value.type "tuple", data := Data.seq #[Value.str (S "_cached") 219, Value.str (S "_set_fileattr") 220, Value.str (S "_uninitialized_submodules") 221, Value.str (S "loader") 222, Value.str (S "loader_state") 223, Value.str (S "name") 224, Value.str (S "origin") 225, Value.str (S "submodule_search_locations") 226] }
noncomputable def o25 (P : Params) : Obj := { cls := Value.type "getset_descriptor", data := Data.fields #[Value.str (S "__dict__") 237, Value.ref 22, Value.builtin "function.__dict__", Value.builtin "function.__dict__#set"] }
noncomputable def o26 (P : Params) : Obj := { cls := Value.type "getset_descriptor", data := Data.fields #[Value.str (S "__weakref__") 239, Value.ref 22, Value.builtin "ExceptionGroup.__weakref__", Value.none] }
noncomputable def o27 (P : Params) : Obj := { cls := Value.ref 22, dict := some 20 }
noncomputable def o28 (P : Params) : Obj := { cls := Value.none, data := Data.seq #[Value.int 11 0, Value.str { cps := #[6, 247, 8, 95, 95, 110, 97, 109, 101, 95, 95, 6, 246, 4, 95, 115, 114, 101, 6, 248, 7, 95, 95, 100, 111, 99, 95, 95, 0, 6, 250, 11, 95, 95, 112, 97, 99, 107, 97, 103, 101, 95, 95, 6, 249, 0, 6, 251, 10, 95, 95, 108, 111, 97, 100, 101, 114, 95, 95, 4, 0, 0, 14, 6, 252, 8, 95, 95, 115, 112, 101, 99, 95, 95, 4, 0, 0, 26, 6, 253, 7, 99, 111, 109, 112, 105, 108, 101, 9, 12, 95, 115, 114, 101, 46, 99, 111, 109, 112, 105, 108, 101, 6, 254, 8, 116, 101, 109, 112, 108, 97, 116, 101, 9, 13, 95, 115, 114, 101, 46, 116, 101, 109, 112, 108, 97, 116, 101, 6, 255, 11, 103, 101, 116, 99, 111, 100, 101, 115, 105, 122, 101, 9, 16, 95, 115, 114, 101, 46, 103, 101, 116, 99, 111, 100, 101, 115, 105, 122, 101, 6, 256, 13, 97, 115, 99, 105, 105, 95, 105, 115, 99, 97, 115, 101, 100, 9, 18, 95, 115, 114, 101, 46, 97, 115, 99, 105, 105, 95, 105, 115, 99, 97, 115, 101, 100, 6, 257, 15, 117, 110, 105, 99, 111, 100, 101, 95, 105, 115, 99, 97, 115, 101, 100, 9, 20, 95, 115, 114, 101, 46, 117, 110, 105, 99, 111, 100, 101, 95, 105, 115, 99, 97, 115, 101, 100, 6, 258, 13, 97, 115, 99, 105, 105, 95, 116, 111, 108, 111, 119, 101, 114, 9, 18, 95, 115, 114, 101, 46, 97, 115, 99, 105, 105, 95, 116, 111, 108, 111, 119, 101, 114, 6, 259, 15, 117, 110, 105, 99, 111, 100, 101, 95, 116, 111, 108, 111, 119, 101, 114, 9, 20, 95, 115, 114, 101, 46, 117, 110, 105, 99, 111, 100, 101, 95, 116, 111, 108, 111, 119, 101, 114, 6, 261, 5, 77, 65, 71, 73, 67, 4, 260, 0, 20230612, 6, 263, 8, 67, 79, 68, 69, 83, 73, 90, 69, 4, 262, 0, 4, 6, 265, 9, 77, 65, 88, 82, 69, 80, 69, 65, 84, 4, 264, 0, 4294967295, 6, 267, 9, 77, 65, 88, 71, 82, 79, 85, 80, 83, 4, 266, 0, 1073741823, 6, 269, 9, 99, 111, 112, 121, 114, 105, 103, 104, 116, 6, 268, 53, 32, 83, 82, 69, 32, 50, 46, 50, 46, 50, 32, 67, 111, 112, 121, 114, 105, 103, 104, 116, 32, 40, 99, 41, 32, 49, 57, 57, 55, 45, 50, 48, 48, 50, 32, 98, 121, 32, 83, 101, 99, 114, 101, 116, 32, 76, 97, 98, 115, 32, 65, 66, 32] } 0, Value.bool true, Value.bool false, Value.str (S "_sre") 271] }
noncomputable def o29 (P : Params) : Obj := { cls := Value.type "tuple", data := Data.seq #[] }
noncomputable def o30 (P : Params) : Obj := { cls := Value.none, data := Data.fields #[] }
noncomputable def o31 (P : Params) : Obj := { cls := Value.type "code", data := Data.fields #[Value.str (S "<module>") 277, Value.str (S "<module>") 278, Value.str (S "/claim/cut.py") 279, Value.int 1 0, Value.int 0 0, Value.int 0 0, Value.int 0 0, Value.int 0 0, Value.ref 28, Value.bool false, Value.int 276 0, Value.ref 29, Value.none, Value.none, Value.none, Value.none, Value.int 280 0, Value.int 1 0, Value.str (S "/claim/cut.py") 281] }
noncomputable def o32 (P : Params) : Obj := { cls := Value.type "frame", slots := #[some (Value.ref 30), some (Value.ref 3), some (Value.ref 3), none, some (Value.str (S "__main__") 164), none, some (Value.ref 0)] }
end Mine
end
section
open PySem PySem.W PyProof.Rows
set_option Elab.async false
namespace Mine
section
variable {p : Program} {w : World} {n₀ : Nat} {ann : Option Value}
noncomputable def Go (p : Program) (w : World) (n₀ : Nat) (ann : Option Value) (n : Nat) (s : Shared) (t : Thread) (s' : Shared) (t' : Thread) : Prop :=
  ∀ N r, topRun treeTable p w n₀ ann N s' t' = some r → topRun treeTable p w n₀ ann (n + N) s t = some r
theorem Go.refl {s : Shared} {t : Thread} : Go p w n₀ ann 0 s t s t := fun N r h => by rw [Nat.zero_add]; exact h
theorem Go.trans {n m : Nat} {s s₁ s₂ : Shared} {t t₁ t₂ : Thread} (a : Go p w n₀ ann n s t s₁ t₁) (b : Go p w n₀ ann m s₁ t₁ s₂ t₂) : Go p w n₀ ann (n + m) s t s₂ t₂ :=
  fun N r h => by rw [Nat.add_assoc]; exact a _ r (b N r h)
theorem Go.more {n m : Nat} {s s₁ : Shared} {t t₁ : Thread} (a : Go p w n₀ ann n s t s₁ t₁) (h : n ≤ m) : Go p w n₀ ann m s t s₁ t₁ := fun N r q => by
  have := topRun_mono (m - n) _ _ _ _ (a N r q)
  rw [show n + N + (m - n) = m + N by omega] at this
  exact this
theorem Go.of {n : Nat} {s s' : Shared} {t t' : Thread} (h : topGo treeTable p w n₀ ann n s t = some (s', t')) : Go p w n₀ ann n s t s' t' := fun _ _ k => go_top h k
theorem Go.one {s s' : Shared} {t t' : Thread} (ht : through t = false) (hk : stepOk n₀ ann t = true) (hs : step (denote treeTable) p w s t = .go s' t') : Go p w n₀ ann 1 s t s' t' := by
  intro N r h
  rw [Nat.add_comm]
  unfold topRun
  rw [ht, hk]
  dsimp only
  rw [hs]
  exact h
noncomputable def Ev (p : Program) (w : World) (n₀ : Nat) (ann : Option Value) (code : Code) (f : Frame) (B : List Frame) {α : Type} (n : Nat) (m : Sem α) (pos : Pos) (s : Shared) (a : α) (pos' : Pos) (s' : Shared) : Prop :=
  ∀ (K : α → Sem Fin) (H : Value → Sem Fin) (gd : Bool → Bool) (lv : List Value → List Value), Go p w n₀ ann n s ⟨m.wrap K H gd lv, code, pos, f :: B⟩ s' ⟨K a, code, pos', f :: B⟩
variable {code : Code} {f : Frame} {B : List Frame} {α β : Type} {n n' : Nat} {pos pos' pos₁ : Pos} {s s' s₁ : Shared} {a : α} {b : β}
theorem Ev.pure : Ev p w n₀ ann code f B 0 (Pure.pure a : Sem α) pos s a pos s := fun _ _ _ _ => Go.refl
theorem Ev.bind {m : Sem α} {k : α → Sem β} (h : Ev p w n₀ ann code f B n m pos s a pos₁ s₁) (h' : Ev p w n₀ ann code f B n' (k a) pos₁ s₁ b pos' s') : Ev p w n₀ ann code f B (n + n') (m >>= k) pos s b pos' s' := by
  intro K H gd lv
  rw [Sem.bind_eq_wrap', Sem.wrap_wrap]
  exact (h _ _ _ _).trans (h' K H gd lv)
theorem Ev.keep {m : Sem α} (vs : List Value) (h : Ev p w n₀ ann code f B n m pos s a pos' s') : Ev p w n₀ ann code f B n (m.keep vs) pos s a pos' s' := by
  intro K H gd lv
  rw [Sem.keep_eq_wrap, Sem.wrap_wrap]
  exact h _ _ _ _
theorem Ev.holding {m : Sem α} {vs : List Value} (h : Ev p w n₀ ann code f B n m pos s a pos' s') : Ev p w n₀ ann code f B n (holding vs m) pos s a pos' s' := by
  unfold PySem.holding
  split
  · exact h
  · exact h.keep _
theorem Ev.onRaise {m : Sem α} {g : Value → Sem Unit} (h : Ev p w n₀ ann code f B n m pos s a pos' s') : Ev p w n₀ ann code f B n (m.onRaise g) pos s a pos' s' := by
  intro K H gd lv
  rw [Sem.onRaise_eq_wrap, Sem.wrap_wrap]
  exact h _ _ _ _
theorem Ev.tryCatch {m : Sem α} {g : Value → Sem α} (h : Ev p w n₀ ann code f B n m pos s a pos' s') : Ev p w n₀ ann code f B n (tryCatch m g) pos s a pos' s' := by
  intro K H gd lv
  show Go p w n₀ ann n s ⟨(m.tryCatch g).wrap K H gd lv, code, pos, f :: B⟩ s' ⟨K a, code, pos', f :: B⟩
  rw [Sem.tryCatch_eq_wrap, Sem.wrap_wrap]
  exact h _ _ _ _
theorem Ev.rule {t : String} {k : Unit → Sem α} (h : Ev p w n₀ ann code f B n (k ()) pos s a pos' s') : Ev p w n₀ ann code f B (1 + n) (.rule t k) pos s a pos' s' := fun K H gd lv =>
  (Go.one rfl rfl rfl).trans (h K H gd lv)
theorem Ev.at {q : Pos} {k : Unit → Sem α} (h : Ev p w n₀ ann code f B n (k ()) q s a pos' s') : Ev p w n₀ ann code f B (1 + n) (.at q k) pos s a pos' s' := fun K H gd lv =>
  (Go.one rfl rfl rfl).trans (h K H gd lv)
theorem Ev.point {l : List Value} {k : Unit → Sem α} (h : Ev p w n₀ ann code f B n (k ()) pos s a pos' s') : Ev p w n₀ ann code f B (1 + n) (.point l k) pos s a pos' s' := fun K H gd lv =>
  (Go.one rfl rfl rfl).trans (h K H gd lv)
theorem Ev.ask {k : Setting → Sem α} (h : Ev p w n₀ ann code f B n (k ⟨p, w.params⟩) pos s a pos' s') : Ev p w n₀ ann code f B (1 + n) (.ask k) pos s a pos' s' := fun K H gd lv =>
  (Go.one rfl rfl rfl).trans (h K H gd lv)
theorem Ev.fresh {k : Tok → Sem α} (h : Ev p w n₀ ann code f B n (k s.toks) pos { s with toks := s.toks + 1 } a pos' s') : Ev p w n₀ ann code f B (1 + n) (.fresh k) pos s a pos' s' := fun K H gd lv =>
  (Go.one rfl rfl (by obtain ⟨_, _, _, _, _⟩ := s; rfl)).trans (h K H gd lv)
theorem Ev.alloc {o : Obj} {k : Addr → Sem α} (h : Ev p w n₀ ann code f B n (k s.heap.objs.size) pos { s with heap := s.heap.push o } a pos' s') : Ev p w n₀ ann code f B (1 + n) (.alloc o k) pos s a pos' s' := fun K H gd lv =>
  (Go.one rfl rfl (by obtain ⟨_, _, _, _, _⟩ := s; rfl)).trans (h K H gd lv)
theorem Ev.load {x : Addr} {q : Option Value} {o : Obj} {k : Obj → Sem α} (ho : s.heap.get? x = some o) (h : Ev p w n₀ ann code f B n (k o) pos s a pos' s') : Ev p w n₀ ann code f B (1 + n) (.load x q k) pos s a pos' s' := fun K H gd lv =>
  (Go.one rfl rfl (by obtain ⟨_, _, _, _, _⟩ := s; dsimp only at ho; simp only [Sem.wrap, step, ho])).trans (h K H gd lv)
theorem Ev.update {x : Addr} {q : Option Value} {o : Obj} {g : Obj → Obj} {k : Unit → Sem α} (ho : s.heap.get? x = some o) (hx : n₀ ≤ x ∨ x = mainNs) (h : Ev p w n₀ ann code f B n (k ()) pos { s with heap := s.heap.update x g } a pos' s') : Ev p w n₀ ann code f B (1 + n) (.update x q g k) pos s a pos' s' := fun K H gd lv =>
  (Go.one rfl (by
    show (_ && (Nat.ble n₀ x || x == mainNs || x == cStatics || ann == some (.ref x))) = true
    rcases hx with hx | hx
    · rw [Nat.ble_eq_true_of_le hx]; rfl
    · subst hx; simp; rfl) (by obtain ⟨_, _, _, _, _⟩ := s; dsimp only at ho; simp only [Sem.wrap, step, ho]; rfl)).trans (h K H gd lv)
end
end Mine
end
section
open PySem PySem.W PyProof.Rows
set_option Elab.async false
set_option maxRecDepth 20000
namespace Mine
section
variable {p : Program} {w : World} {n₀ : Nat} {ann : Option Value}
variable {code : Code} {f : Frame} {B : List Frame} {α β : Type} {n n' : Nat} {pos pos' pos₁ : Pos} {s s' s₁ : Shared} {a : α} {b : β}
theorem den_builtin {id : String} {args : Args} {b : Builtin} (hb : entryFor table id = some b) : denote treeTable (.builtin id args) = b args := by
  rw [← table_eq_tree]
  show (match entryFor table id with | some b => b args | none => unsupported ((withoutEnding? id "#data").getD id)) = _
  rw [hb]
theorem den_hash (args : Args) : denote treeTable (.builtin "int.__hash__" args) = Builtin.«int.__hash__» args := den_builtin entry_int_hash
theorem check_hash (k : Int) (t : Tok) : checkBuiltinCall "int.__hash__" ⟨[.int k t], []⟩ = pure () := by
  have hs : splitId "int.__hash__" = some ("int", "__hash__") := by decide +kernel
  have hk : builtinKind "int.__hash__" = (Manifest.find? "int").bind (·.attrs.lookup "__hash__") := by simp only [builtinKind, hs]
  have hk' : (Manifest.find? "int").bind (·.attrs.lookup "__hash__") = some .slot := by decide +kernel
  have hi : isInstance (.int k t) (.type "int") = pure true := by
    show isSubtype (.type "int") (.type "int") = _
    rw [isSubtype_type]; kernel_rfl
  have ha := args_int_hash (.int k t)
  simp only [checkBuiltinCall, hk, hk', hs]
  rw [hi]
  cases hsig : Manifest.signature? "int.__hash__" with
  | none => rfl
  | some sig =>
    simp only [argsOk, hsig] at ha
    show (Bind.checkArgs "int.__hash__" sig ⟨[.int k t], []⟩ : Sem Unit) = _
    exact ha
theorem den_call (k : Int) (t : Tok) : denote treeTable (.call (.builtin "int.__hash__") ⟨[.int k t], []⟩) = .pure (.again (.builtin "int.__hash__" ⟨[.int k t], []⟩)) := by
  show (do checkBuiltinCall "int.__hash__" ⟨[.int k t], []⟩; again (.builtin "int.__hash__" ⟨[.int k t], []⟩)) = _
  rw [check_hash]; rfl
theorem ev_call_hash {k : Int} {t : Tok} : Ev p w n₀ ann code f B 4 (call (.builtin "int.__hash__") [.int k t]) pos s (.int (rawHash k) s.toks) pos { s with toks := s.toks + 1 } := by
  intro K H gd lv
  obtain ⟨h, g, d, tk, os⟩ := s
  refine Go.trans (n := 1) (m := 3) (Go.one rfl rfl rfl) ?_
  rw [den_call]
  refine Go.trans (n := 1) (m := 2) (Go.one rfl (by
    show ((!("int.__hash__".startsWith "lifetime.") || _) && _ && true && true) = true
    rw [show "int.__hash__".startsWith "lifetime." = false from by decide +kernel]; rfl) rfl) ?_
  rw [den_hash]
  refine Go.trans (n := 1) (m := 1) (Go.one rfl rfl rfl) ?_
  exact Go.one rfl rfl rfl
theorem sp_hash (k : Int) (t : Tok) : specialOf (.int k t) "__hash__" = pure (some (.builtin "int.__hash__")) := by
  show typeLookup (.type "int") "__hash__" = _
  exact slot_int_hash.lookup
theorem ev_special {k : Int} {t : Tok} {R : Sem Value} : Ev p w n₀ ann code f B 5 (callSpecialIfBoundUnlessNone? (.int k t) "__hash__" R) pos s (some (.int (rawHash k) s.toks)) pos { s with toks := s.toks + 1 } := by
  unfold callSpecialIfBoundUnlessNone?
  refine Ev.holding ?_
  refine Ev.bind (n := 1) (n' := 4) (a := some (.builtin "int.__hash__", [.int k t])) (pos₁ := pos) (s₁ := s) ?_ ?_
  · unfold bindSpecialIfBound?
    refine Ev.bind (n := 0) (n' := 1) (a := some (.builtin "int.__hash__")) (pos₁ := pos) (s₁ := s) (by rw [sp_hash]; exact Ev.pure) ?_
    dsimp only
    rw [slot_int_hash.bind]
    refine Ev.ask (n := 0) ?_
    show Ev p w n₀ ann code f B 0 (if w.params.followText "special-get-raises" = true then _ else Sem.tryCatch _ _) pos s _ pos s
    split
    · exact Ev.pure
    · exact Ev.tryCatch Ev.pure
  · dsimp only
    show Ev p w n₀ ann code f B (4 + 0) (if (Value.builtin "int.__hash__" == Value.none) = true then _ else _) pos s _ pos _
    rw [if_neg (by decide)]
    exact Ev.bind ev_call_hash Ev.pure
theorem ev_hash {k : Int} {t : Tok} : Ev p w n₀ ann code f B 5 (pyHash (.int k t)) pos s (hashInt k) pos { s with toks := s.toks + 1 } := by
  have hr := rawHash_range k
  have hv : [Value.int k t].any Value.onHeap = false := rfl
  show Ev p w n₀ ann code f B (0 + (0 + (0 + (5 + 0)))) (pyHashByItsType (.int k t)) pos s _ pos _
  unfold pyHashByItsType
  refine Ev.bind (a := ()) (pos₁ := pos) (s₁ := s) (by rw [cRoomFor, if_neg (by rw [hv]; exact Bool.false_ne_true)]; exact Ev.pure) ?_
  refine Ev.bind (a := some (.builtin "int.__hash__")) (pos₁ := pos) (s₁ := s) (by rw [sp_hash]; exact Ev.pure) ?_
  show Ev p w n₀ ann code f B (0 + (5 + 0)) (if (some (Value.builtin "int.__hash__") == some Value.none) = true then _ else _) pos s _ pos _
  rw [if_neg (by rw [beq_builtin_none]; exact Bool.false_ne_true)]
  refine Ev.bind (a := some (.builtin "int.__hash__")) (pos₁ := pos) (s₁ := s) (by rw [sp_hash]; exact Ev.pure) ?_
  show Ev p w n₀ ann code f B (5 + 0) (callSpecialIfBoundUnlessNone? (.int k t) "__hash__" _ >>= _) pos s _ pos _
  refine Ev.bind ev_special ?_
  show Ev p w n₀ ann code f B 0 (if (decide (-(2 : Int) ^ 63 ≤ rawHash k) && decide (rawHash k < 2 ^ 63)) = true then _ else _) pos _ _ pos _
  rw [if_pos (by rw [decide_eq_true hr.1, decide_eq_true hr.2]; rfl)]
  exact Ev.pure
end
end Mine
end
section
open PySem PySem.W PyProof.Rows
set_option Elab.async false
set_option maxRecDepth 20000
namespace Mine
noncomputable abbrev dObj (es : Array DictEntry) (ep : Nat) : Obj := { cls := .type "dict", data := .dict es ep }
section
variable {p : Program} {w : World} {n₀ : Nat} {ann : Option Value}
variable {code : Code} {f : Frame} {B : List Frame} {α β : Type} {n n' : Nat} {pos pos' pos₁ : Pos} {s s' s₁ : Shared} {a : α} {b : β}
theorem push_update (h : Heap) (o : Obj) (g : Obj → Obj) : (h.push o).update h.objs.size g = h.push (g o) := by
  obtain ⟨objs, life⟩ := h
  simp only [Heap.update, Heap.push, Heap.mk.injEq, and_true]
  apply Array.ext_getElem?
  intro i
  simp only [Array.getElem?_modify, Array.getElem?_push]
  by_cases h : i = objs.size
  · subst h; simp
  · have h' : ¬ objs.size = i := fun e => h e.symm
    simp [h, h']
theorem places_nil {es : Array DictEntry} {h : Int} (hno : ∀ e ∈ es, e.hash ≠ h) : placesWithHash es.size (fun i => es[i]?.map (·.hash)) h = [] := by
  unfold placesWithHash
  rw [List.filter_eq_nil_iff]
  intro i hi
  have hlt : i < es.size := List.mem_range.mp hi
  dsimp only
  rw [Array.getElem?_eq_getElem hlt]
  simp only [Option.map_some, beq_iff_eq, Option.some.injEq]
  exact hno _ (Array.getElem_mem hlt)
theorem ev_entries {d : Addr} {es : Array DictEntry} {ep : Nat} {part : Option Value} (ho : s.heap.get? d = some (dObj es ep)) : Ev p w n₀ ann code f B 1 (dictEntries d part) pos s es pos s :=
  Ev.bind (n := 1) (n' := 0) (Ev.load (n := 0) ho Ev.pure) Ev.pure
theorem ev_epoch {d : Addr} {es : Array DictEntry} {ep : Nat} {part : Option Value} (ho : s.heap.get? d = some (dObj es ep)) : Ev p w n₀ ann code f B 1 (dictEpoch d part) pos s ep pos s :=
  Ev.bind (n := 1) (n' := 0) (Ev.load (n := 0) ho Ev.pure) Ev.pure
theorem ev_find {d : Addr} {es : Array DictEntry} {ep : Nat} {k h : Int} {t : Tok} (ho : s.heap.get? d = some (dObj es ep)) (hno : ∀ e ∈ es, e.hash ≠ h) :
    Ev p w n₀ ann code f B 1 (dictFind d (.int k t) h) pos s none pos s := by
  unfold dictFind
  refine Ev.holding (Ev.bind (n := 1) (n' := 0) (ev_entries ho) ?_)
  dsimp only
  rw [places_nil hno]
  exact Ev.pure
theorem ev_push {d : Addr} {es : Array DictEntry} {ep : Nat} {e : DictEntry} {part : Option Value} (ho : s.heap.get? d = some (dObj es ep)) (hd : n₀ ≤ d) (hz : es.size ≤ 1000) :
    Ev p w n₀ ann code f B 3 (updateDictKeys d (·.push e) part) pos s () pos { s with heap := s.heap.update d (Obj.mapDictKeys (·.push e)) } := by
  unfold updateDictKeys
  refine Ev.bind (n := 1) (n' := 2) (Ev.load (n := 0) ho Ev.pure) ?_
  refine Ev.bind (n := 1) (n' := 1) (Ev.update (n := 0) ho (.inl hd) Ev.pure) ?_
  have hg : (s.heap.update d (Obj.mapDictKeys (·.push e))).get? d = some (dObj (es.push e) (ep + 1)) := Heap.get?_update_self _ ho rfl
  refine Ev.bind (n := 1) (n' := 0) (Ev.load (n := 0) hg Ev.pure) ?_
  dsimp only
  rw [pastItsLine_dict (by rw [Array.size_push]; have := sizeLine_eq; lia)]
  exact Ev.pure
theorem ev_put {d : Addr} {es : Array DictEntry} {ep : Nat} {k h : Int} {t : Tok} {v : Value} (ho : s.heap.get? d = some (dObj es ep)) (hd : n₀ ≤ d) (hz : es.size ≤ 1000) (hno : ∀ e ∈ es, e.hash ≠ h) :
    Ev p w n₀ ann code f B 4 (dictPut d h (.int k t) v) pos s () pos { s with heap := s.heap.update d (Obj.mapDictKeys (·.push ⟨h, .int k t, v⟩)) } := by
  unfold dictPut
  exact Ev.bind (n := 1) (n' := 3) (ev_find ho hno) (ev_push ho hd hz)
theorem ev_set {d : Addr} {es : Array DictEntry} {ep : Nat} {k : Int} {t : Tok} {v : Value} (ho : s.heap.get? d = some (dObj es ep)) (hd : n₀ ≤ d) (hz : es.size ≤ 1000) (hno : ∀ e ∈ es, e.hash ≠ hashInt k) :
    Ev p w n₀ ann code f B 10 (dictSet d (.int k t) v) pos s () pos { s with heap := s.heap.update d (Obj.mapDictKeys (·.push ⟨hashInt k, .int k t, v⟩)), toks := s.toks + 1 } := by
  unfold dictSet dictSetHashed
  refine Ev.holding (Ev.bind (n := 5) (n' := 5) ev_hash (Ev.holding ?_))
  refine Ev.bind (n := 1) (n' := 4) (a := none) (ev_find (s := { s with toks := s.toks + 1 }) ho hno) ?_
  dsimp only
  exact Ev.bind (n := 1) (n' := 3) (Ev.rule (n := 0) Ev.pure) (ev_push (s := { s with toks := s.toks + 1 }) ho hd hz)
/-- a pair of the display: an int, a text; the display's own place -/
noncomputable abbrev kTree (x : Int × Str) : Sem Value := mkInt x.1
noncomputable abbrev vTree (pos : Pos) (x : Int × Str) : Sem Value := do let v ← mkText x.2; standAt pos; pure v
theorem ev_k {x : Int × Str} : Ev p w n₀ ann code f B 1 (kTree x) pos s (.int x.1 s.toks) pos { s with toks := s.toks + 1 } :=
  Ev.bind (n := 1) (n' := 0) (Ev.fresh (n := 0) Ev.pure) Ev.pure
theorem ev_v {x : Int × Str} : Ev p w n₀ ann code f B 2 (vTree pos x) pos s (.str x.2 s.toks) pos { s with toks := s.toks + 1 } :=
  Ev.bind (n := 1) (n' := 1) (Ev.bind (n := 1) (n' := 0) (Ev.fresh (n := 0) Ev.pure) Ev.pure) (Ev.bind (n := 1) (n' := 0) (Ev.at (n := 0) Ev.pure) Ev.pure)
noncomputable def ents : Nat → List (Int × Str) → List DictEntry
  | _, [] => []
  | T, x :: r => ⟨hashInt x.1, .int x.1 T, .str x.2 (T + 1)⟩ :: ents (T + 3) r
theorem get_push (h : Heap) (es : Array DictEntry) (ep : Nat) : (h.push (dObj es ep)).get? h.objs.size = some (dObj es ep) := Heap.get?_push_size _ rfl
noncomputable abbrev subBody (d : Addr) : Sem Value × Sem Value → PUnit → Sem (ForInStep PUnit) := fun x _ =>
  match x with
  | (k, v) => do
    let kv ← k
    let vv ← holding [kv] v
    holding [kv, vv] (dictSet d kv vv)
    pure (ForInStep.yield PUnit.unit)
theorem ev_subLoop {h : Heap} {g : Array GenState} {dr : Drawn} {os : OsState} (hd : n₀ ≤ h.objs.size) : ∀ (L : List (Int × Str)) (es : Array DictEntry) (ep T : Nat), es.size + L.length ≤ 1000 →
    (L.map fun x => hashInt x.1).Nodup → (∀ x ∈ L, ∀ e ∈ es, e.hash ≠ hashInt x.1) →
    Ev p w n₀ ann code f B (13 * L.length) (forIn (L.map fun x => (kTree x, vTree pos x)) PUnit.unit (subBody h.objs.size)) pos ⟨h.push (dObj es ep), g, dr, T, os⟩ PUnit.unit pos
      ⟨h.push (dObj (es ++ (ents T L).toArray) (ep + L.length)), g, dr, T + 3 * L.length, os⟩
  | [], es, ep, T, _, _, _ => by
    have : es ++ (ents T []).toArray = es := by simp [ents]
    rw [this]
    exact Ev.pure
  | x :: L, es, ep, T, hz, hn, hf => by
    rw [List.length_cons] at hz
    rw [List.map_cons, List.nodup_cons] at hn
    have ih := ev_subLoop (h := h) (g := g) (dr := dr) (os := os) hd L (es.push ⟨hashInt x.1, .int x.1 T, .str x.2 (T + 1)⟩) (ep + 1) (T + 3) (by rw [Array.size_push]; lia) hn.2 (fun y hy e he => by
      rcases Array.mem_push.mp he with he | rfl
      · exact hf y (.tail _ hy) e he
      · intro q; exact hn.1 (List.mem_map.mpr ⟨y, hy, q.symm⟩))
    have e1 : es.push ⟨hashInt x.1, .int x.1 T, .str x.2 (T + 1)⟩ ++ (ents (T + 3) L).toArray = es ++ (ents T (x :: L)).toArray := by
      rw [ents]; apply Array.ext'; simp
    have e2 : ep + 1 + L.length = ep + (x :: L).length := by rw [List.length_cons]; lia
    have e3 : T + 3 + 3 * L.length = T + 3 * (x :: L).length := by rw [List.length_cons]; lia
    rw [e1, e2, e3] at ih
    rw [List.map_cons, List.forIn_cons, show 13 * (x :: L).length = (1 + (2 + (10 + 0))) + 13 * L.length by rw [List.length_cons]; lia]
    refine Ev.bind (a := ForInStep.yield PUnit.unit) (pos₁ := pos) (s₁ := ⟨h.push (dObj (es.push ⟨hashInt x.1, .int x.1 T, .str x.2 (T + 1)⟩) (ep + 1)), g, dr, T + 3, os⟩) ?_ ih
    refine Ev.bind ev_k (Ev.bind (Ev.holding ev_v) (Ev.bind (a := ()) (Ev.holding ?_) Ev.pure))
    have := ev_set (p := p) (w := w) (n₀ := n₀) (ann := ann) (code := code) (f := f) (B := B) (pos := pos) (s := ⟨h.push (dObj es ep), g, dr, T + 1 + 1, os⟩) (d := h.objs.size) (k := x.1) (t := T) (v := .str x.2 (T + 1)) (get_push h es ep) hd (by lia) (hf x (.head _))
    rw [push_update] at this
    exact this
end
end Mine
end
section
open PySem PySem.W PyProof.Rows
set_option Elab.async false
set_option maxRecDepth 20000
namespace Mine
section
variable {p : Program} {w : World} {n₀ : Nat} {ann : Option Value}
variable {code : Code} {f : Frame} {B : List Frame} {α β : Type} {n n' : Nat} {pos pos' pos₁ : Pos} {s s' s₁ : Shared} {a : α} {b : β}
variable {h : Heap} {g : Array GenState} {dr : Drawn} {os : OsState}
theorem Ev.cast {m : Sem α} {n n' : Nat} (h : Ev p w n₀ ann code f B n m pos s a pos' s') (e : n = n') : Ev p w n₀ ann code f B n' m pos s a pos' s' := e ▸ h
noncomputable abbrev prs (pos : Pos) (L : List (Int × Str)) : List (Sem Value × Sem Value) := L.map fun x => (kTree x, vTree pos x)
/-- a chunk of more than 15 pairs -/
theorem ev_sub {L : List (Int × Str)} {T : Nat} (hd : n₀ ≤ h.objs.size) (h15 : 15 < L.length) (hz : L.length ≤ 1000) (hn : (L.map fun x => hashInt x.1).Nodup) :
    Ev p w n₀ ann code f B (2 + 13 * L.length) (subDict (prs pos L)) pos ⟨h, g, dr, T, os⟩ h.objs.size pos ⟨h.push (dObj (ents T L).toArray L.length), g, dr, T + 3 * L.length, os⟩ := by
  unfold subDict
  have e := ev_subLoop (p := p) (w := w) (n₀ := n₀) (ann := ann) (code := code) (f := f) (B := B) (pos := pos) (h := h) (g := g) (dr := dr) (os := os) hd L #[] 0 T (by simpa using hz) hn (fun _ _ _ he => by simp at he)
  rw [Nat.zero_add, show (#[] : Array DictEntry) ++ (ents T L).toArray = (ents T L).toArray by simp] at e
  refine Ev.cast (n := 1 + ((1 + (13 * L.length + 0)) + 0)) ?_ (by lia)
  refine Ev.bind (n := 1) (a := h.objs.size) (Ev.alloc (n := 0) Ev.pure) ?_
  refine Ev.bind (a := ()) (Ev.holding ?_) Ev.pure
  rw [if_neg (by rw [List.length_map]; lia)]
  refine Ev.bind (n := 1) (Ev.rule (n := 0) Ev.pure) ?_
  exact Ev.bind e Ev.pure
noncomputable abbrev setBody (d : Addr) : Value × Value → PUnit → Sem (ForInStep PUnit) := fun x _ =>
  match x with
  | (k, v) => do
    dictSet d k v
    pure (ForInStep.yield PUnit.unit)
noncomputable def vals : Nat → List (Int × Str) → List (Value × Value)
  | _, [] => []
  | T, x :: r => (.int x.1 T, .str x.2 (T + 1)) :: vals (T + 2) r
noncomputable def entsV : Nat → List (Int × Str) → List DictEntry
  | _, [] => []
  | T, x :: r => ⟨hashInt x.1, .int x.1 T, .str x.2 (T + 1)⟩ :: entsV (T + 2) r
theorem ev_pairs : ∀ (L : List (Int × Str)) (T : Nat), Ev p w n₀ ann code f B (3 * L.length) (evalPairs (prs pos L)) pos ⟨h, g, dr, T, os⟩ (vals T L) pos ⟨h, g, dr, T + 2 * L.length, os⟩
  | [], T => Ev.pure
  | x :: L, T => by
    have ih := ev_pairs L (T + 2)
    rw [show T + 2 + 2 * L.length = T + 2 * (x :: L).length by rw [List.length_cons]; lia] at ih
    refine Ev.cast (n := 1 + (2 + (3 * L.length + 0))) ?_ (by rw [List.length_cons]; lia)
    unfold evalPairs
    exact Ev.bind ev_k (Ev.bind (Ev.holding ev_v) (Ev.bind (Ev.holding ih) Ev.pure))
theorem ev_setLoop (hd : n₀ ≤ h.objs.size) : ∀ (L : List (Int × Str)) (es : Array DictEntry) (ep T T' : Nat), es.size + L.length ≤ 1000 →
    (L.map fun x => hashInt x.1).Nodup → (∀ x ∈ L, ∀ e ∈ es, e.hash ≠ hashInt x.1) →
    Ev p w n₀ ann code f B (10 * L.length) (forIn (vals T L) PUnit.unit (setBody h.objs.size)) pos ⟨h.push (dObj es ep), g, dr, T', os⟩ PUnit.unit pos
      ⟨h.push (dObj (es ++ (entsV T L).toArray) (ep + L.length)), g, dr, T' + L.length, os⟩
  | [], es, ep, T, T', _, _, _ => by
    have : es ++ (entsV T []).toArray = es := by simp [entsV]
    rw [this]
    exact Ev.pure
  | x :: L, es, ep, T, T', hz, hn, hf => by
    rw [List.length_cons] at hz
    rw [List.map_cons, List.nodup_cons] at hn
    have ih := ev_setLoop hd L (es.push ⟨hashInt x.1, .int x.1 T, .str x.2 (T + 1)⟩) (ep + 1) (T + 2) (T' + 1) (by rw [Array.size_push]; lia) hn.2 (fun y hy e he => by
      rcases Array.mem_push.mp he with he | rfl
      · exact hf y (.tail _ hy) e he
      · intro q; exact hn.1 (List.mem_map.mpr ⟨y, hy, q.symm⟩))
    have e1 : es.push ⟨hashInt x.1, .int x.1 T, .str x.2 (T + 1)⟩ ++ (entsV (T + 2) L).toArray = es ++ (entsV T (x :: L)).toArray := by
      rw [entsV]; apply Array.ext'; simp
    have e2 : ep + 1 + L.length = ep + (x :: L).length := by rw [List.length_cons]; lia
    have e3 : T' + 1 + L.length = T' + (x :: L).length := by rw [List.length_cons]; lia
    rw [e1, e2, e3] at ih
    unfold vals
    rw [List.forIn_cons, show 10 * (x :: L).length = (10 + 0) + 10 * L.length by rw [List.length_cons]; lia]
    refine Ev.bind (a := ForInStep.yield PUnit.unit) (pos₁ := pos) (s₁ := ⟨h.push (dObj (es.push ⟨hashInt x.1, .int x.1 T, .str x.2 (T + 1)⟩) (ep + 1)), g, dr, T' + 1, os⟩) ?_ ih
    refine Ev.bind (a := ()) ?_ Ev.pure
    have := ev_set (p := p) (w := w) (n₀ := n₀) (ann := ann) (code := code) (f := f) (B := B) (pos := pos) (s := ⟨h.push (dObj es ep), g, dr, T', os⟩) (d := h.objs.size) (k := x.1) (t := T) (v := .str x.2 (T + 1)) (get_push h es ep) hd (by lia) (hf x (.head _))
    rw [push_update] at this
    exact this
theorem ev_subS {L : List (Int × Str)} {T : Nat} (hd : n₀ ≤ h.objs.size) (h15 : L.length ≤ 15) (hn : (L.map fun x => hashInt x.1).Nodup) :
    Ev p w n₀ ann code f B (1 + 13 * L.length) (subDict (prs pos L)) pos ⟨h, g, dr, T, os⟩ h.objs.size pos ⟨h.push (dObj (entsV T L).toArray L.length), g, dr, T + 3 * L.length, os⟩ := by
  unfold subDict
  have e := ev_setLoop (p := p) (w := w) (n₀ := n₀) (ann := ann) (code := code) (f := f) (B := B) (pos := pos) (h := h) (g := g) (dr := dr) (os := os) hd L #[] 0 T (T + 2 * L.length) (by simp; lia) hn (fun _ _ _ he => by simp at he)
  rw [Nat.zero_add, show (#[] : Array DictEntry) ++ (entsV T L).toArray = (entsV T L).toArray by simp, show T + 2 * L.length + L.length = T + 3 * L.length by lia] at e
  refine Ev.cast (n := 1 + ((3 * L.length + (10 * L.length + 0)) + 0)) ?_ (by lia)
  refine Ev.bind (n := 1) (a := h.objs.size) (Ev.alloc (n := 0) Ev.pure) ?_
  refine Ev.bind (a := ()) (Ev.holding ?_) Ev.pure
  rw [if_pos (by rw [List.length_map]; lia)]
  refine Ev.bind (ev_pairs L T) (Ev.holding ?_)
  exact Ev.bind e Ev.pure
end
end Mine
end
section
open PySem PySem.W PyProof.Rows
set_option Elab.async false
set_option maxRecDepth 20000
namespace Mine
theorem iter_dict : typeLookup (.type "dict") "__iter__" = pure (some (.builtin "dict.__iter__")) := by rw [typeLookup_type, builtinLookup_eq_fast]; kernel_rfl
theorem sub_dict_dict : isSubtype (.type "dict") (.type "dict") = pure true := by rw [isSubtype_type]; kernel_rfl
noncomputable def hp (h : Heap) (main : Obj) (subs : List Obj) : Heap := subs.foldl Heap.push (h.push main)
theorem hp_snoc (h : Heap) (main : Obj) (subs : List Obj) (o : Obj) : (hp h main subs).push o = hp h main (subs ++ [o]) := by
  unfold hp; rw [List.foldl_append]; rfl
theorem push_size (h : Heap) (o : Obj) : (h.push o).objs.size = h.objs.size + 1 := by
  obtain ⟨objs, l⟩ := h; simp [Heap.push]
theorem hp_size (h : Heap) (main : Obj) : ∀ subs : List Obj, (hp h main subs).objs.size = h.objs.size + 1 + subs.length := by
  intro subs
  unfold hp
  generalize hx : h.push main = X
  have e : X.objs.size = h.objs.size + 1 := by rw [← hx, push_size]
  rw [← e]
  clear e hx
  induction subs generalizing X with
  | nil => rfl
  | cons o r ih => rw [List.foldl_cons, ih, push_size, List.length_cons]; lia
theorem foldl_get {X : Heap} {b : Addr} {o : Obj} (e : X.get? b = some o) : ∀ subs : List Obj, (subs.foldl Heap.push X).get? b = some o := by
  intro subs
  induction subs generalizing X with
  | nil => exact e
  | cons u r ih => exact ih (Heap.get?_push_of_some _ e)
theorem hp_main (h : Heap) (es : Array DictEntry) (ep : Nat) (subs : List Obj) : (hp h (dObj es ep) subs).get? h.objs.size = some (dObj es ep) := foldl_get (get_push h es ep) subs
theorem hp_last (h : Heap) (main : Obj) (subs : List Obj) (es : Array DictEntry) (ep : Nat) : (hp h main (subs ++ [dObj es ep])).get? (h.objs.size + 1 + subs.length) = some (dObj es ep) := by
  rw [← hp_snoc, ← hp_size h main subs]; exact get_push _ es ep
theorem foldl_update (a : Addr) (g : Obj → Obj) : ∀ (subs : List Obj) (X : Heap), a < X.objs.size → (subs.foldl Heap.push X).update a g = subs.foldl Heap.push (X.update a g)
  | [], _, _ => rfl
  | u :: r, X, ha => by
    rw [List.foldl_cons, List.foldl_cons, foldl_update a g r _ (by rw [push_size]; exact Nat.lt_succ_of_lt ha), Heap.update_push X a g u (Nat.ne_of_lt ha)]
theorem hp_upd (h : Heap) (main : Obj) (subs : List Obj) (g : Obj → Obj) : (hp h main subs).update h.objs.size g = hp h (g main) subs := by
  unfold hp
  rw [foldl_update _ _ _ _ (by rw [push_size]; exact Nat.lt_succ_self _), push_update]
section
variable {p : Program} {w : World} {n₀ : Nat} {ann : Option Value}
variable {code : Code} {f : Frame} {B : List Frame} {α β : Type} {n n' : Nat} {pos pos' pos₁ : Pos} {s s' s₁ : Shared} {a : α} {b : β}
variable {h : Heap} {g : Array GenState} {dr : Drawn} {os : OsState}
theorem ev_range {m c : Nat} {S : Nat → Shared} {bd : Nat → PUnit → Sem (ForInStep PUnit)} (st : ∀ i, i < m → Ev p w n₀ ann code f B c (bd i PUnit.unit) pos (S i) (ForInStep.yield PUnit.unit) pos (S (i + 1))) :
    Ev p w n₀ ann code f B (c * m) (forIn (List.range m) PUnit.unit bd) pos (S 0) PUnit.unit pos (S m) := by
  have key : ∀ k i, i + k = m → Ev p w n₀ ann code f B (c * k) (forIn (List.range' i k) PUnit.unit bd) pos (S i) PUnit.unit pos (S m) := by
    intro k
    induction k with
    | zero => intro i hi; rw [show m = i by lia]; exact Ev.pure
    | succ k ih =>
      intro i hi
      rw [List.range'_succ, List.forIn_cons, show c * (k + 1) = c + c * k by rw [Nat.mul_succ]; lia]
      exact Ev.bind (st i (by lia)) (ih (i + 1) (by lia))
  rw [List.range_eq_range']
  exact key m 0 (by lia)
theorem ev_merge {es es' : Array DictEntry} {ep ep' T : Nat} {subs : List Obj} (hd : n₀ ≤ h.objs.size) (hne : es.isEmpty = false) (hsys : h.objs.size + 1 + subs.length ≠ sysModules) (hz : es.size + es'.size ≤ 1000)
    (hk : ∀ e ∈ es', ∃ k t, e.key = .int k t) (hn : (es'.toList.map (·.hash)).Nodup) (hf : ∀ x ∈ es', ∀ e ∈ es, e.hash ≠ x.hash) :
    Ev p w n₀ ann code f B (5 + 6 * es'.size) (mergeMapping h.objs.size (.ref (h.objs.size + 1 + subs.length)) false) pos ⟨hp h (dObj es ep) (subs ++ [dObj es' ep']), g, dr, T, os⟩ () pos
      ⟨hp h (dObj (es ++ es') (ep + es'.size)) (subs ++ [dObj es' ep']), g, dr, T, os⟩ := by
  have ga : ∀ (es₁ : Array DictEntry) (ep₁ : Nat), (⟨hp h (dObj es₁ ep₁) (subs ++ [dObj es' ep']), g, dr, T, os⟩ : Shared).heap.get? (h.objs.size + 1 + subs.length) = some (dObj es' ep') := fun es₁ ep₁ => hp_last h (dObj es₁ ep₁) subs es' ep'
  have gm : ∀ (es₁ : Array DictEntry) (ep₁ : Nat), (⟨hp h (dObj es₁ ep₁) (subs ++ [dObj es' ep']), g, dr, T, os⟩ : Shared).heap.get? h.objs.size = some (dObj es₁ ep₁) := fun es₁ ep₁ => hp_main h es₁ ep₁ _
  have hI : Ev p w n₀ ann code f B 1 (isInstance (.ref (h.objs.size + 1 + subs.length)) (.type "dict")) pos ⟨hp h (dObj es ep) (subs ++ [dObj es' ep']), g, dr, T, os⟩ true pos ⟨hp h (dObj es ep) (subs ++ [dObj es' ep']), g, dr, T, os⟩ := by
    refine Ev.bind (n := 1) (n' := 0) (Ev.bind (n := 1) (n' := 0) (Ev.load (n := 0) (ga es ep) Ev.pure) Ev.pure) ?_
    rw [sub_dict_dict]; exact Ev.pure
  have hS : Ev p w n₀ ann code f B 1 (specialOf (.ref (h.objs.size + 1 + subs.length)) "__iter__") pos ⟨hp h (dObj es ep) (subs ++ [dObj es' ep']), g, dr, T, os⟩ (some (.builtin "dict.__iter__")) pos ⟨hp h (dObj es ep) (subs ++ [dObj es' ep']), g, dr, T, os⟩ := by
    refine Ev.bind (n := 1) (n' := 0) (Ev.bind (n := 1) (n' := 0) (Ev.load (n := 0) (ga es ep) Ev.pure) Ev.pure) ?_
    rw [iter_dict]; exact Ev.pure
  unfold mergeMapping
  refine Ev.cast (n := 1 + (1 + (0 + (1 + (1 + (1 + (6 * es'.size + 0))))))) ?_ (by lia)
  refine Ev.bind hI ?_
  dsimp only
  rw [if_pos rfl]
  refine Ev.bind hS (Ev.bind (a := true) (by
    rw [show (some (Value.builtin "dict.__iter__") == some (Value.builtin "dict.__iter__")) = true from by simp]; exact Ev.pure) ?_)
  dsimp only
  rw [if_neg (by simpa using hsys)]
  refine Ev.bind (ev_entries (gm es ep)) ?_
  rw [if_neg (by rw [hne]; exact Bool.false_ne_true)]
  refine Ev.bind (ev_entries (ga es ep)) (Ev.bind (ev_epoch (ga es ep)) ?_)
  refine Ev.bind (a := PUnit.unit) (s₁ := ⟨hp h (dObj (es ++ es') (ep + es'.size)) (subs ++ [dObj es' ep']), g, dr, T, os⟩) (pos₁ := pos) ?_ Ev.pure
  have e0 : (⟨hp h (dObj es ep) (subs ++ [dObj es' ep']), g, dr, T, os⟩ : Shared) = (fun i => ⟨hp h (dObj (es ++ es'.extract 0 i) (ep + i)) (subs ++ [dObj es' ep']), g, dr, T, os⟩) 0 := by simp
  have e1 : (⟨hp h (dObj (es ++ es') (ep + es'.size)) (subs ++ [dObj es' ep']), g, dr, T, os⟩ : Shared) = (fun i => ⟨hp h (dObj (es ++ es'.extract 0 i) (ep + i)) (subs ++ [dObj es' ep']), g, dr, T, os⟩) es'.size := by simp
  rw [e0, e1]
  refine ev_range (S := fun i => ⟨hp h (dObj (es ++ es'.extract 0 i) (ep + i)) (subs ++ [dObj es' ep']), g, dr, T, os⟩) fun i hi => ?_
  try dsimp only
  obtain ⟨k, t, hkey⟩ := hk es'[i] (Array.getElem_mem hi)
  refine Ev.cast (n := 1 + (4 + (1 + 0))) ?_ rfl
  refine Ev.bind (ev_entries (ga _ _)) ?_
  rw [Array.getElem?_eq_getElem hi]
  dsimp only
  refine Ev.bind (a := ()) (pos₁ := pos) (s₁ := ⟨hp h (dObj (es ++ es'.extract 0 (i + 1)) (ep + (i + 1))) (subs ++ [dObj es' ep']), g, dr, T, os⟩) (Ev.holding ?_) (Ev.bind (ev_epoch (ga _ _)) ?_)
  · rw [if_neg (by exact Bool.false_ne_true), hkey]
    have e := ev_put (p := p) (w := w) (n₀ := n₀) (ann := ann) (code := code) (f := f) (B := B) (pos := pos) (s := ⟨hp h (dObj (es ++ es'.extract 0 i) (ep + i)) (subs ++ [dObj es' ep']), g, dr, T, os⟩) (d := h.objs.size) (k := k) (t := t) (h := es'[i].hash) (v := es'[i].val) (gm _ _) hd
      (by rw [Array.size_append, Array.size_extract]; lia) (fun e he => by
        rcases Array.mem_append.mp he with he | he
        · exact hf _ (Array.getElem_mem hi) e he
        · obtain ⟨j, hj, rfl⟩ := Array.mem_iff_getElem.mp he
          rw [Array.size_extract] at hj
          have hj' : j < i := by lia
          rw [Array.getElem_extract]
          intro q
          have hnn := List.pairwise_iff_getElem.mp hn j i (by simp; lia) (by simpa using hi) hj'
          simp at hnn
          apply hnn
          simpa using q)
    rw [hp_upd] at e
    have e2 : Obj.mapDictKeys (·.push ⟨es'[i].hash, .int k t, es'[i].val⟩) (dObj (es ++ es'.extract 0 i) (ep + i)) = dObj (es ++ es'.extract 0 (i + 1)) (ep + (i + 1)) := by
      show dObj ((es ++ es'.extract 0 i).push ⟨es'[i].hash, .int k t, es'[i].val⟩) (ep + i + 1) = _
      have : (⟨es'[i].hash, .int k t, es'[i].val⟩ : DictEntry) = es'[i] := by rw [← hkey]
      rw [this]
      have hx : (es ++ es'.extract 0 i).push es'[i] = es ++ es'.extract 0 (i + 1) := by
        rw [← Array.append_push, Array.push_extract_getElem hi, Nat.zero_min]
      rw [hx, Nat.add_assoc]
    rw [e2] at e
    exact e
  · rw [if_neg (by simp)]
    exact Ev.pure
end
end Mine
end
section
open PySem PySem.W PyProof.Rows
set_option Elab.async false
set_option maxRecDepth 20000
namespace Mine
noncomputable abbrev PP := Sem Value × Sem Value
noncomputable abbrev its (pos : Pos) (L : List (Int × Str)) : List (Option (Sem Value) × Sem Value) := L.map fun x => (some (kTree x), vTree pos x)
theorem hash_ents : ∀ (L : List (Int × Str)) (T : Nat), (ents T L).map (·.hash) = L.map fun x => hashInt x.1
  | [], _ => rfl
  | x :: L, T => by rw [ents, List.map_cons, List.map_cons, hash_ents L]
theorem hash_entsV : ∀ (L : List (Int × Str)) (T : Nat), (entsV T L).map (·.hash) = L.map fun x => hashInt x.1
  | [], _ => rfl
  | x :: L, T => by rw [entsV, List.map_cons, List.map_cons, hash_entsV L]
theorem key_ents : ∀ (L : List (Int × Str)) (T : Nat), ∀ e ∈ ents T L, ∃ k t, e.key = .int k t
  | [], _, _, he => nomatch he
  | x :: L, T, e, he => by
    rw [ents] at he
    rcases List.mem_cons.mp he with rfl | he
    · exact ⟨_, _, rfl⟩
    · exact key_ents L _ e he
theorem key_entsV : ∀ (L : List (Int × Str)) (T : Nat), ∀ e ∈ entsV T L, ∃ k t, e.key = .int k t
  | [], _, _, he => nomatch he
  | x :: L, T, e, he => by
    rw [entsV] at he
    rcases List.mem_cons.mp he with rfl | he
    · exact ⟨_, _, rfl⟩
    · exact key_entsV L _ e he
theorem len_ents : ∀ (L : List (Int × Str)) (T : Nat), (ents T L).length = L.length
  | [], _ => rfl
  | x :: L, T => by rw [ents, List.length_cons, List.length_cons, len_ents L]
theorem len_entsV : ∀ (L : List (Int × Str)) (T : Nat), (entsV T L).length = L.length
  | [], _ => rfl
  | x :: L, T => by rw [entsV, List.length_cons, List.length_cons, len_entsV L]
section
variable {fl : List PP → Option Addr → Sem (Option Addr)} {bd : Option (Sem Value) × Sem Value → Option Addr × List PP → Sem (ForInStep (Option Addr × List PP))}
  (hb : ∀ k v main run, bd (some k, v) (main, run) = if ((run ++ [(k, v)]).length == 17) = true then (fl (run ++ [(k, v)]) main >>= fun m => pure (ForInStep.yield (m, []))) else pure (ForInStep.yield (main, run ++ [(k, v)])))
include hb
theorem fill {pos : Pos} {main : Option Addr} {rest : List (Option (Sem Value) × Sem Value)} : ∀ (c : List (Int × Str)) (run : List PP), run.length + c.length < 17 →
    forIn (its pos c ++ rest) (main, run) bd = forIn rest (main, run ++ prs pos c) bd
  | [], run, _ => by simp
  | x :: c, run, hl => by
    rw [List.length_cons] at hl
    show forIn ((some (kTree x), vTree pos x) :: (its pos c ++ rest)) (main, run) bd = _
    rw [List.forIn_cons, hb, if_neg (by simp; lia)]
    show (forIn (its pos c ++ rest) (main, run ++ [(kTree x, vTree pos x)]) bd) = _
    rw [fill c _ (by simp; lia)]
    simp
theorem chunk {pos : Pos} {main : Option Addr} {rest : List (Option (Sem Value) × Sem Value)} {c : List (Int × Str)} (hc : c.length = 17) :
    forIn (its pos c ++ rest) (main, []) bd = (fl (prs pos c) main >>= fun m => pure (ForInStep.yield (m, []))) >>= fun r => match r with | .done b => pure b | .yield b => forIn rest b bd := by
  obtain ⟨c', x, rfl⟩ : ∃ c' x, c = c' ++ [x] := by
    rcases List.eq_nil_or_concat c with e | ⟨l, b, e⟩
    · rw [e] at hc; cases hc
    · exact ⟨l, b, by rw [e]; simp⟩
  have hc' : c'.length = 16 := by simpa using hc
  rw [show its pos (c' ++ [x]) ++ rest = its pos c' ++ ((some (kTree x), vTree pos x) :: rest) by simp, fill hb c' [] (by simp [hc']), List.forIn_cons, hb, if_pos (by simp [hc'])]
  simp
end
noncomputable def entC : Nat → List (List (Int × Str)) → List DictEntry
  | _, [] => []
  | T, c :: r => ents T c ++ entC (T + 3 * c.length) r
noncomputable def subC : Nat → List (List (Int × Str)) → List Obj
  | _, [] => []
  | T, c :: r => dObj (ents T c).toArray c.length :: subC (T + 3 * c.length) r
noncomputable def sumC : List (List (Int × Str)) → Nat
  | [] => 0
  | c :: r => c.length + sumC r
section
variable {p : Program} {w : World} {n₀ : Nat} {ann : Option Value}
variable {code : Code} {f : Frame} {B : List Frame} {α β : Type} {n n' : Nat} {pos pos' pos₁ : Pos} {s s' s₁ : Shared} {a : α} {b : β}
variable {h : Heap} {g : Array GenState} {dr : Drawn} {os : OsState}
variable {fl : List PP → Option Addr → Sem (Option Addr)} {bd : Option (Sem Value) × Sem Value → Option Addr × List PP → Sem (ForInStep (Option Addr × List PP))}
  (hb : ∀ k v main run, bd (some k, v) (main, run) = if ((run ++ [(k, v)]).length == 17) = true then (fl (run ++ [(k, v)]) main >>= fun m => pure (ForInStep.yield (m, []))) else pure (ForInStep.yield (main, run ++ [(k, v)])))
  {rz : Addr → Value → Sem Unit} (hfl : ∀ q r d, fl (q :: r) (some d) = do
        let sub ← holding [Value.ref d] (subDict (q :: r))
        (holding [Value.ref d, Value.ref sub] (mergeMapping d (Value.ref sub) false)).onRaise (rz d)
        pure (some d))
/-- one flush into a main dict that stands -/
theorem ev_flush {c : List (Int × Str)} {es : Array DictEntry} {ep T nn : Nat} {subs : List Obj} {es' : List DictEntry} (hfl : ∀ q r d, fl (q :: r) (some d) = do
        let sub ← holding [Value.ref d] (subDict (q :: r))
        (holding [Value.ref d, Value.ref sub] (mergeMapping d (Value.ref sub) false)).onRaise (rz d)
        pure (some d)) (hc : c ≠ []) (hd : n₀ ≤ h.objs.size) (hsys : @LT.lt Nat _ sysModules h.objs.size) (hne : es.isEmpty = false)
    (hl : es'.length = c.length) (hh : es'.map (·.hash) = c.map fun x => hashInt x.1) (hk : ∀ e ∈ es', ∃ k t, e.key = .int k t)
    (hsub : Ev p w n₀ ann code f B nn (subDict (prs pos c)) pos ⟨hp h (dObj es ep) subs, g, dr, T, os⟩ (hp h (dObj es ep) subs).objs.size pos ⟨(hp h (dObj es ep) subs).push (dObj es'.toArray c.length), g, dr, T + 3 * c.length, os⟩)
    (hz : es.size + c.length ≤ 1000) (hn : (es.toList.map (·.hash) ++ c.map fun x => hashInt x.1).Nodup) :
    Ev p w n₀ ann code f B (nn + (5 + 6 * c.length)) (fl (prs pos c) (some h.objs.size)) pos ⟨hp h (dObj es ep) subs, g, dr, T, os⟩ (some h.objs.size) pos
      ⟨hp h (dObj (es ++ es'.toArray) (ep + c.length)) (subs ++ [dObj es'.toArray c.length]), g, dr, T + 3 * c.length, os⟩ := by
  obtain ⟨q, r, hq⟩ : ∃ q r, prs pos c = q :: r := by
    cases c with
    | nil => exact absurd rfl hc
    | cons x c => exact ⟨_, _, rfl⟩
  rw [hq] at hsub ⊢
  rw [hfl]
  rw [hp_snoc, hp_size] at hsub
  refine Ev.bind (Ev.holding hsub) ?_
  refine Ev.cast (n := (5 + 6 * c.length) + 0) ?_ rfl
  refine Ev.bind (a := ()) (Ev.onRaise (Ev.holding ?_)) Ev.pure
  have e := ev_merge (p := p) (w := w) (n₀ := n₀) (ann := ann) (code := code) (f := f) (B := B) (pos := pos) (h := h) (g := g) (dr := dr) (os := os) (es := es) (es' := es'.toArray) (ep := ep) (ep' := c.length) (T := T + 3 * c.length) (subs := subs) hd hne
    (Nat.ne_of_gt (Nat.lt_of_lt_of_le hsys (by lia))) (by simp [hl]; lia)
    (fun e he => hk e (by simpa using he)) (by rw [hh]; exact (List.nodup_append.mp hn).2.1) (fun x hx e he q => by
      have := (List.nodup_append.mp hn).2.2 e.hash (List.mem_map.mpr ⟨e, by simpa using he, rfl⟩) x.hash (by rw [← hh]; exact List.mem_map.mpr ⟨x, by simpa using hx, rfl⟩)
      exact this q)
  simp only [List.size_toArray, hl] at e
  exact e
end
end Mine
end
section
open PySem PySem.W PyProof.Rows
set_option Elab.async false
set_option maxRecDepth 20000
namespace Mine
theorem len_entC : ∀ (Cs : List (List (Int × Str))) (T : Nat), (entC T Cs).length = sumC Cs
  | [], _ => rfl
  | c :: r, T => by rw [entC, List.length_append, len_ents, len_entC r, sumC]
theorem hash_entC : ∀ (Cs : List (List (Int × Str))) (T : Nat), (entC T Cs).map (·.hash) = Cs.flatten.map fun x => hashInt x.1
  | [], _ => rfl
  | c :: r, T => by rw [entC, List.map_append, hash_ents, hash_entC r, List.flatten_cons, List.map_append]
section
variable {p : Program} {w : World} {n₀ : Nat} {ann : Option Value}
variable {code : Code} {f : Frame} {B : List Frame} {α β : Type} {n n' : Nat} {pos pos' pos₁ : Pos} {s s' s₁ : Shared} {a : α} {b : β}
variable {h : Heap} {g : Array GenState} {dr : Drawn} {os : OsState}
variable {fl : List PP → Option Addr → Sem (Option Addr)} {bd : Option (Sem Value) × Sem Value → Option Addr × List PP → Sem (ForInStep (Option Addr × List PP))}
  {rz : Addr → Value → Sem Unit}
theorem ev_chunks (hb : ∀ k v main run, bd (some k, v) (main, run) = if ((run ++ [(k, v)]).length == 17) = true then (fl (run ++ [(k, v)]) main >>= fun m => pure (ForInStep.yield (m, []))) else pure (ForInStep.yield (main, run ++ [(k, v)])))
    (hfl : ∀ q r d, fl (q :: r) (some d) = do
        let sub ← holding [Value.ref d] (subDict (q :: r))
        (holding [Value.ref d, Value.ref sub] (mergeMapping d (Value.ref sub) false)).onRaise (rz d)
        pure (some d)) (hd : n₀ ≤ h.objs.size) (hsys : @LT.lt Nat _ sysModules h.objs.size) {last : List (Int × Str)} (hlast : last.length < 17) :
    ∀ (Cs : List (List (Int × Str))) (es : Array DictEntry) (ep T : Nat) (subs : List Obj), (∀ c ∈ Cs, c.length = 17) → es.isEmpty = false → es.size + sumC Cs ≤ 1000 → (es.toList.map (·.hash) ++ Cs.flatten.map fun x => hashInt x.1).Nodup →
    Ev p w n₀ ann code f B (330 * Cs.length) (forIn (its pos Cs.flatten ++ its pos last) (some h.objs.size, []) bd) pos ⟨hp h (dObj es ep) subs, g, dr, T, os⟩ (some h.objs.size, prs pos last) pos
      ⟨hp h (dObj (es ++ (entC T Cs).toArray) (ep + sumC Cs)) (subs ++ subC T Cs), g, dr, T + 3 * sumC Cs, os⟩
  | [], es, ep, T, subs, _, _, _, _ => by
    have e1 : es ++ (entC T []).toArray = es := by simp [entC]
    have e2 : subs ++ subC T [] = subs := by simp [subC]
    rw [e1, e2]
    have := fill hb (pos := pos) (main := some h.objs.size) (rest := []) last [] (by simpa using hlast)
    rw [List.append_nil] at this
    show Ev p w n₀ ann code f B 0 (forIn (its pos last) (some h.objs.size, []) bd) pos _ _ pos _
    rw [this]
    exact Ev.pure
  | c :: Cs, es, ep, T, subs, hC, hne, hz, hn => by
    have hc := hC c (.head _)
    rw [sumC] at hz
    rw [List.flatten_cons, List.map_append, ← List.append_assoc] at hn
    have hn1 := (List.nodup_append.mp hn).1
    have e0 : its pos (c :: Cs).flatten ++ its pos last = its pos c ++ (its pos Cs.flatten ++ its pos last) := by simp
    rw [e0, chunk hb hc]
    have ih := ev_chunks hb hfl hd hsys hlast Cs (es ++ (ents T c).toArray) (ep + c.length) (T + 3 * c.length) (subs ++ [dObj (ents T c).toArray c.length]) (fun c' hc' => hC c' (.tail _ hc'))
      (by have : es.size ≠ 0 := by simpa [Array.isEmpty] using hne
          simp [Array.isEmpty, this])
      (by simp [len_ents]; lia) (by simpa [hash_ents, List.append_assoc] using hn)
    have e1 : es ++ (ents T c).toArray ++ (entC (T + 3 * c.length) Cs).toArray = es ++ (entC T (c :: Cs)).toArray := by rw [entC]; simp
    have e2 : ep + c.length + sumC Cs = ep + sumC (c :: Cs) := by rw [sumC]; lia
    have e3 : T + 3 * c.length + 3 * sumC Cs = T + 3 * sumC (c :: Cs) := by rw [sumC]; lia
    have e4 : subs ++ [dObj (ents T c).toArray c.length] ++ subC (T + 3 * c.length) Cs = subs ++ subC T (c :: Cs) := by rw [subC]; simp
    rw [e1, e2, e3, e4] at ih
    have hsz : 330 * (c :: Cs).length = (((2 + 13 * c.length) + (5 + 6 * c.length)) + 0) + 330 * Cs.length := by rw [List.length_cons, hc]; lia
    rw [hsz]
    refine Ev.bind (a := ForInStep.yield (some h.objs.size, [])) (Ev.bind (ev_flush (es' := ents T c) hfl (by intro q; rw [q] at hc; cases hc) hd hsys hne (len_ents c T) (hash_ents c T) (key_ents c T) (ev_sub (by rw [hp_size]; lia) (by lia) (by lia) ((List.nodup_append.mp hn1).2.1)) (by lia) hn1) Ev.pure) ?_
    exact ih
theorem ev_displayL (hb : ∀ k v main run, bd (some k, v) (main, run) = if ((run ++ [(k, v)]).length == 17) = true then (fl (run ++ [(k, v)]) main >>= fun m => pure (ForInStep.yield (m, []))) else pure (ForInStep.yield (main, run ++ [(k, v)])))
    (hfl : ∀ q r d, fl (q :: r) (some d) = do
        let sub ← holding [Value.ref d] (subDict (q :: r))
        (holding [Value.ref d, Value.ref sub] (mergeMapping d (Value.ref sub) false)).onRaise (rz d)
        pure (some d)) (hf0 : ∀ q r, fl (q :: r) none = do
        let d ← subDict (q :: r)
        pure (some d)) {C0 : List (Int × Str)} {Cs : List (List (Int × Str))} {last : List (Int × Str)} {T : Nat} {E : Sem Value} (h0 : C0.length = 17) (hC : ∀ c ∈ Cs, c.length = 17) (hl0 : last ≠ []) (hl : last.length ≤ 15)
    (hn : ((C0 ++ (Cs.flatten ++ last)).map fun x => hashInt x.1).Nodup) (hz : 17 + sumC Cs + last.length ≤ 1000) (hd : n₀ ≤ h.objs.size) (hsys : @LT.lt Nat _ sysModules h.objs.size) :
    Ev p w n₀ ann code f B (223 + 330 * Cs.length + (1 + 13 * last.length + (5 + 6 * last.length))) (forIn (its pos (C0 ++ (Cs.flatten ++ last))) (none, []) bd >>= fun s => fl s.2 s.1 >>= fun m => match m with | some d => pure (Value.ref d) | none => E) pos ⟨h, g, dr, T, os⟩ (.ref h.objs.size) pos
      ⟨hp h (dObj ((ents T C0).toArray ++ (entC (T + 51) Cs).toArray ++ (entsV (T + 51 + 3 * sumC Cs) last).toArray) (17 + sumC Cs + last.length)) (subC (T + 51) Cs ++ [dObj (entsV (T + 51 + 3 * sumC Cs) last).toArray last.length]), g, dr, T + 51 + 3 * sumC Cs + 3 * last.length, os⟩ := by
  rw [List.map_append, List.map_append] at hn
  have hn0 : (C0.map fun x => hashInt x.1).Nodup := (List.nodup_append.mp hn).1
  have hnl : (last.map fun x => hashInt x.1).Nodup := (List.nodup_append.mp (List.nodup_append.mp hn).2.1).2.1
  have e0 : its pos (C0 ++ (Cs.flatten ++ last)) = its pos C0 ++ (its pos Cs.flatten ++ its pos last) := by simp
  obtain ⟨q, r, hq⟩ : ∃ q r, prs pos C0 = q :: r := by
    cases C0 with
    | nil => cases h0
    | cons x c => exact ⟨_, _, rfl⟩
  rw [e0, chunk hb h0]
  have s1 := ev_sub (p := p) (w := w) (n₀ := n₀) (ann := ann) (code := code) (f := f) (B := B) (pos := pos) (h := h) (g := g) (dr := dr) (os := os) (L := C0) (T := T) hd (by lia) (by lia) hn0
  rw [h0] at s1
  have eA : (ents T C0).toArray.isEmpty = false := by
    have := len_ents C0 T
    rw [h0] at this
    simp [Array.isEmpty, this]
  have s2 := ev_chunks (p := p) (w := w) (n₀ := n₀) (ann := ann) (code := code) (f := f) (B := B) (pos := pos) (h := h) (g := g) (dr := dr) (os := os) hb hfl hd hsys (last := last) (by lia) Cs (ents T C0).toArray 17 (T + 51) [] hC eA (by simp [len_ents, h0]; lia)
    (by rw [← List.append_assoc] at hn; simpa [hash_ents] using (List.nodup_append.mp hn).1)
  rw [List.nil_append] at s2
  have s3 := ev_flush (p := p) (w := w) (n₀ := n₀) (ann := ann) (code := code) (f := f) (B := B) (pos := pos) (h := h) (g := g) (dr := dr) (os := os) (T := T + 51 + 3 * sumC Cs) (es := (ents T C0).toArray ++ (entC (T + 51) Cs).toArray) (ep := 17 + sumC Cs) (subs := subC (T + 51) Cs) (es' := entsV (T + 51 + 3 * sumC Cs) last) hfl hl0 hd hsys
    (by simp [Array.isEmpty, len_ents, h0]) (len_entsV _ _) (hash_entsV _ _) (key_entsV _ _) (ev_subS (by rw [hp_size]; lia) hl hnl) (by simp [len_ents, len_entC, h0]; lia)
    (by simpa [hash_ents, hash_entC] using hn)
  refine Ev.cast (n := (((223 + 0) + 0) + 330 * Cs.length) + ((1 + 13 * last.length + (5 + 6 * last.length)) + 0)) ?_ (by lia)
  refine Ev.bind (a := (some h.objs.size, prs pos last)) (Ev.bind (a := ForInStep.yield (some h.objs.size, [])) (Ev.bind (a := some h.objs.size) ?_ Ev.pure) s2) (Ev.bind s3 Ev.pure)
  rw [hq] at s1 ⊢
  rw [hf0]
  exact Ev.bind s1 Ev.pure
theorem ev_display {C0 : List (Int × Str)} {Cs : List (List (Int × Str))} {last : List (Int × Str)} {T : Nat} (h0 : C0.length = 17) (hC : ∀ c ∈ Cs, c.length = 17) (hl0 : last ≠ []) (hl : last.length ≤ 15)
    (hn : ((C0 ++ (Cs.flatten ++ last)).map fun x => hashInt x.1).Nodup) (hz : 17 + sumC Cs + last.length ≤ 1000) (hd : n₀ ≤ h.objs.size) (hsys : @LT.lt Nat _ sysModules h.objs.size) :
    Ev p w n₀ ann code f B (223 + 330 * Cs.length + (1 + 13 * last.length + (5 + 6 * last.length))) (dictDisplay (its pos (C0 ++ (Cs.flatten ++ last)))) pos ⟨h, g, dr, T, os⟩ (.ref h.objs.size) pos
      ⟨hp h (dObj ((ents T C0).toArray ++ (entC (T + 51) Cs).toArray ++ (entsV (T + 51 + 3 * sumC Cs) last).toArray) (17 + sumC Cs + last.length)) (subC (T + 51) Cs ++ [dObj (entsV (T + 51 + 3 * sumC Cs) last).toArray last.length]), g, dr, T + 51 + 3 * sumC Cs + 3 * last.length, os⟩ := by
  delta dictDisplay
  extract_lets flush main run
  exact ev_displayL (fun _ _ _ _ => rfl) (rz := fun d x => do let _ ← holding [.ref d, x] (runValue (.builtin "proto.let_go" {}))) (fl := flush) (fun _ _ _ => rfl) (fun _ _ => rfl) h0 hC hl0 hl hn hz hd hsys
end
end Mine
end
section
open PySem PySem.W PyProof.Rows
set_option Elab.async false
set_option maxRecDepth 100000
set_option maxHeartbeats 0
namespace Mine
noncomputable abbrev pw : Program := PySem.Challenge.pw_tc0084_01
noncomputable def insAll : BT → Nat → List Obj → BT
  | T, _, [] => T
  | T, n, o :: r => insAll (T.ins n o) (n + 1) r
noncomputable abbrev fq : Frame := topFrame ⟨0, 0, 0, 0⟩
noncomputable def posK : Pos := ⟨165, 0, 165, 8⟩
noncomputable def objs28 (P : Params) : List Obj := [o1 P, o2 P, o3 P, o4 P, o5 P, o6 P, o7 P, o8 P, o9 P, o10 P, o11 P, o12 P, o13 P, o14 P, o15 P, o16 P, o17 P, o18 P, o19 P, o20 P, o21 P, o22 P, o23 P, o24 P, o25 P, o26 P, o27 P, o28 P]
noncomputable def H0 (P : Params) : Heap := ⟨(objs28 P).toArray, {}⟩
noncomputable def B32 (P : Params) : BT := insAll .nil 0 (objs28 P ++ [o29 P, o30 P, o31 P, o32 P])
noncomputable def env1 : Env := { scope := pw.main.scope, locals := mainNs, globals := mainNs, cells := [], code := .ref 30, frame := some 31 }
noncomputable def stA (i : Nat) : Stmt := (behindTheImports pw).getD i default
noncomputable def defA : Stmt → Arguments × List Stmt × Scope
  | .FunctionDef _ a b _ _ _ sc .. => (a, b, sc)
  | .ClassDef _ _ _ b .. => (default, b, default)
  | _ => (default, [], default)
noncomputable def mtA (i j : Nat) : Stmt := (defA (stA i)).2.1.getD j default
noncomputable def fnA (st : Stmt) (nm qn : Str) (g : Addr) (cl : List (Str × Addr)) (ds kd dc pm : Value) (an : Option Addr) (cd ct : Value) (bi : Addr) : FuncData :=
  { name := nm, qualname := qn, params := (defA st).1, body := .stmts (defA st).2.1, scope := (defA st).2.2, globals := g, closure := cl, defaults := ds, kwdefaults := kd, doc := dc, pyModule := pm, annotations := an, code := cd, closureTuple := ct, builtins := bi }
noncomputable def mnA (P : Params) : Obj := ⟨(.type "dict"), .none, (.dict #[ent P "__name__" 165 (.str (S "cpy313.email.header") 325), ent P "__doc__" 166 .none, ent P "__package__" 167 .none, ent P "__loader__" 168 (.builtin "__main__.__loader__#opaque"), ent P "__spec__" 169 .none, ent P "__annotations__" 170 (.ref 6), ent P "__builtins__" 171 (.ref 4), ent P "__file__" 173 (.str (S "/claim/cut.py") 172), ent P "__cached__" 174 .none, ent P "_sre" 275 (.ref 12), ent P "_wall" 288 (.ref 38), ent P "_MAX_STRING_SIZE" 292 (.int 40 291), ent P "_MOVE_COST" 294 (.int 2 293), ent P "_CASE_COST" 296 (.int 1 295), ent P "_substitution_cost" 304 (.ref 45), ent P "_levenshtein_distance" 324 (.ref 52), ent P "_twin_re_1" 354 (.ref 57), ent P "NL" 356 (.str (S "\n") 355), ent P "EMPTYSTRING" 358 (.str (S "") 357)] 19), #[]⟩
noncomputable def csA : Obj := ⟨.none, .none, (.fields #[(.int 2 0), (.int 0 0), (.ref 37), (.int 9 0), (.int 0 0), (.ref 44), (.int 15 0), (.int 0 0), (.ref 51)]), #[]⟩
noncomputable def nwA0 (P : Params) : List Obj := [
  ⟨(.type "tuple"), .none, (.seq #[] 0), #[]⟩,
  ⟨.none, .none, (.fields #[]), #[]⟩,
  ⟨(.type "tuple"), .none, (.seq #[(.str (S "k") 285)] 0), #[]⟩,
  ⟨(.type "tuple"), .none, (.seq #[] 0), #[]⟩,
  ⟨.none, .none, (.func (fnA (stA 0) (S "_wall") (S "_wall") 0 [] .none .none .none .none .none .none .none 0)), #[]⟩,
  ⟨(.type "code"), .none, (.fields #[(.str (S "_wall") 282), (.str (S "_wall") 283), (.str (S "/claim/cut.py") 284), (.int 2 0), (.int 1 0), (.int 0 0), (.int 0 0), (.int 3 0), (.ref 32), (.bool true), (.int 276 0), (.ref 33), .none, (.ref 34), (.ref 35), (.ref 36), (.int 286 0), (.int 2 0), (.str (S "/claim/cut.py") 287)]), #[]⟩,
  ⟨(.type "function"), .none, (.func (fnA (stA 0) (S "_wall") (S "_wall") 3 [] .none .none .none (.str (S "__main__") 164) .none (.ref 37) .none 0)), #[]⟩,
  ⟨(.type "tuple"), .none, (.seq #[] 0), #[]⟩,
  ⟨.none, .none, (.fields #[]), #[]⟩,
  ⟨(.type "tuple"), .none, (.seq #[(.str (S "ch_a") 300), (.str (S "ch_b") 301)] 0), #[]⟩,
  ⟨(.type "tuple"), .none, (.seq #[] 0), #[]⟩,
  ⟨.none, .none, (.func (fnA (stA 5) (S "_substitution_cost") (S "_substitution_cost") 0 [] .none .none .none .none .none .none .none 0)), #[]⟩,
  ⟨(.type "code"), .none, (.fields #[(.str (S "_substitution_cost") 297), (.str (S "_substitution_cost") 298), (.str (S "/claim/cut.py") 299), (.int 9 0), (.int 2 0), (.int 0 0), (.int 0 0), (.int 3 0), (.ref 39), (.bool true), (.int 276 0), (.ref 40), .none, (.ref 41), (.ref 42), (.ref 43), (.int 302 0), (.int 9 0), (.str (S "/claim/cut.py") 303)]), #[]⟩,
  ⟨(.type "function"), .none, (.func (fnA (stA 5) (S "_substitution_cost") (S "_substitution_cost") 3 [] .none .none .none (.str (S "cpy313.traceback") 289) .none (.ref 44) .none 0)), #[]⟩,
  ⟨(.type "tuple"), .none, (.seq #[] 0), #[]⟩,
  ⟨.none, .none, (.fields #[]), #[]⟩,
  ⟨(.type "tuple"), .none, (.seq #[(.str (S "a") 308), (.str (S "b") 309), (.str (S "max_cost") 310), (.str (S "pre") 311), (.str (S "post") 312), (.str (S "row") 313), (.str (S "result") 314), (.str (S "bindex") 315), (.str (S "bchar") 316), (.str (S "distance") 317), (.str (S "minimum") 318), (.str (S "index") 319), (.str (S "substitute") 320), (.str (S "insert_delete") 321)] 0), #[]⟩,
  ⟨(.type "tuple"), .none, (.seq #[] 0), #[]⟩,
  ⟨.none, .none, (.func (fnA (stA 6) (S "_levenshtein_distance") (S "_levenshtein_distance") 0 [] .none .none .none .none .none .none .none 0)), #[]⟩,
  ⟨(.type "code"), .none, (.fields #[(.str (S "_levenshtein_distance") 305), (.str (S "_levenshtein_distance") 306), (.str (S "/claim/cut.py") 307), (.int 15 0), (.int 3 0), (.int 0 0), (.int 0 0), (.int 3 0), (.ref 46), (.bool true), (.int 276 0), (.ref 47), .none, (.ref 48), (.ref 49), (.ref 50), (.int 322 0), (.int 15 0), (.str (S "/claim/cut.py") 323)]), #[]⟩,
  ⟨(.type "function"), .none, (.func (fnA (stA 6) (S "_levenshtein_distance") (S "_levenshtein_distance") 3 [] .none .none .none (.str (S "cpy313.traceback") 289) .none (.ref 51) .none 0)), #[]⟩,
  ⟨(.type "list"), .none, (.seq #[(.int 14 330), (.int 4 331), (.int 0 332), (.int 1 333), (.int 4294967295 334), (.int 17 335), (.int 0 336), (.int 24 337), (.int 11 338), (.int 1 339), (.int 4294967295 340), (.int 13 341), (.int 6 342), (.int 16 343), (.int 32 344), (.int 16 345), (.int 9 346), (.int 0 347), (.int 1 348), (.int 17 349), (.int 1 350), (.int 1 351)] 0), #[]⟩,
  ⟨(.type "dict"), .none, (.dict #[] 0), #[]⟩,
  ⟨(.type "tuple"), .none, (.seq #[.none, .none] 0), #[]⟩,
  ⟨(.type "tuple"), .none, (.seq #[(.int 14 0), (.int 4 0), (.int 0 0), (.int 1 0), (.int 4294967295 0), (.int 17 0), (.int 0 0), (.int 24 0), (.int 11 0), (.int 1 0), (.int 4294967295 0), (.int 13 0), (.int 6 0), (.int 16 0), (.int 32 0), (.int 16 0), (.int 9 0), (.int 0 0), (.int 1 0), (.int 17 0), (.int 1 0), (.int 1 0)] 0), #[]⟩,
  ⟨(.type "re.Pattern"), .none, (.fields #[(.str (S "([ \x09]+)") 328), (.int 32 353), (.int 1 0), .none, .none, (.ref 56), (.int 0 0)]), #[]⟩]
noncomputable def ZA (P : Params) : BT := insAll (((B32 P).set 3 fun _ => mnA P).set 29 fun _ => csA) 32 (nwA0 P)
noncomputable def mnB (P : Params) : Obj := ⟨(.type "dict"), .none, (.dict #[ent P "__name__" 165 (.str (S "cpy313.email.header") 325), ent P "__doc__" 166 .none, ent P "__package__" 167 .none, ent P "__loader__" 168 (.builtin "__main__.__loader__#opaque"), ent P "__spec__" 169 .none, ent P "__annotations__" 170 (.ref 6), ent P "__builtins__" 171 (.ref 4), ent P "__file__" 173 (.str (S "/claim/cut.py") 172), ent P "__cached__" 174 .none, ent P "_sre" 275 (.ref 12), ent P "_wall" 288 (.ref 38), ent P "_MAX_STRING_SIZE" 292 (.int 40 291), ent P "_MOVE_COST" 294 (.int 2 293), ent P "_CASE_COST" 296 (.int 1 295), ent P "_substitution_cost" 304 (.ref 45), ent P "_levenshtein_distance" 324 (.ref 52), ent P "_twin_re_1" 354 (.ref 57), ent P "NL" 356 (.str (S "\n") 355), ent P "EMPTYSTRING" 358 (.str (S "") 357), ent P "_ValueFormatter" 468 (.ref 130)] 20), #[]⟩
noncomputable def csB : Obj := ⟨.none, .none, (.fields #[(.int 2 0), (.int 0 0), (.ref 37), (.int 9 0), (.int 0 0), (.ref 44), (.int 15 0), (.int 0 0), (.ref 51), (.int 57 0), (.int 0 0), (.ref 63)]), #[]⟩
noncomputable def nwB0 (P : Params) : List Obj := [
  ⟨(.type "tuple"), .none, (.seq #[] 0), #[]⟩,
  ⟨(.type "builtin_function_or_method"), .none, (.fields #[(.builtin "type.__prepare__"), (.type "type")]), #[]⟩,
  ⟨(.type "dict"), .none, (.dict #[ent P "__module__" 366 (.str (S "cpy313.email.header") 325), ent P "__qualname__" 368 (.str (S "_ValueFormatter") 367), ent P "__firstlineno__" 370 (.int 57 369), ent P "__init__" 381 (.ref 71), ent P "_str" 389 (.ref 78), ent P "__str__" 396 (.ref 85), ent P "newline" 404 (.ref 92), ent P "add_transition" 411 (.ref 99), ent P "feed" 421 (.ref 106), ent P "_maxlengths" 428 (.ref 113), ent P "_ascii_split" 440 (.ref 120), ent P "_append_chunk" 454 (.ref 127), ent P "__static_attributes__" 461 (.ref 128)] 13), #[]⟩,
  ⟨(.type "tuple"), .none, (.seq #[] 0), #[]⟩,
  ⟨.none, .none, (.fields #[(.int 59 0), (.int 4 0), (.ref 70), (.int 67 0), (.int 4 0), (.ref 77), (.int 71 0), (.int 4 0), (.ref 84), (.int 74 0), (.int 4 0), (.ref 91), (.int 85 0), (.int 4 0), (.ref 98), (.int 88 0), (.int 4 0), (.ref 105), (.int 91 0), (.int 4 0), (.ref 112), (.int 94 0), (.int 4 0), (.ref 119), (.int 103 0), (.int 4 0), (.ref 126)]), #[]⟩,
  ⟨(.type "code"), .none, (.fields #[(.str (S "_ValueFormatter") 361), (.str (S "_ValueFormatter") 362), (.str (S "/claim/cut.py") 363), (.int 57 0), (.int 0 0), (.int 0 0), (.int 0 0), (.int 0 0), (.ref 61), (.bool false), (.int 276 0), (.ref 62), .none, .none, .none, .none, (.int 364 0), (.int 57 0), (.str (S "/claim/cut.py") 365)]), #[]⟩,
  ⟨(.type "frame"), .none, .plain, #[(.some (.ref 63)), (.some (.ref 3)), (.some (.ref 60)), .none, (.some (.str (S "cpy313.email.header") 325)), .none, (.some (.ref 0))]⟩,
  ⟨(.type "tuple"), .none, (.seq #[] 0), #[]⟩,
  ⟨.none, .none, (.fields #[]), #[]⟩,
  ⟨(.type "tuple"), .none, (.seq #[(.str (S "self") 374), (.str (S "headerlen") 375), (.str (S "maxlen") 376), (.str (S "continuation_ws") 377), (.str (S "splitchars") 378)] 0), #[]⟩,
  ⟨(.type "tuple"), .none, (.seq #[] 0), #[]⟩,
  ⟨.none, .none, (.func (fnA (mtA 11 0) (S "__init__") (S "_ValueFormatter.__init__") 0 [] .none .none .none .none .none .none .none 0)), #[]⟩,
  ⟨(.type "code"), .none, (.fields #[(.str (S "__init__") 371), (.str (S "_ValueFormatter.__init__") 372), (.str (S "/claim/cut.py") 373), (.int 59 0), (.int 5 0), (.int 0 0), (.int 0 0), (.int 3 0), (.ref 65), (.bool true), (.int 276 0), (.ref 66), .none, (.ref 67), (.ref 68), (.ref 69), (.int 379 0), (.int 59 0), (.str (S "/claim/cut.py") 380)]), #[]⟩,
  ⟨(.type "function"), .none, (.func (fnA (mtA 11 0) (S "__init__") (S "_ValueFormatter.__init__") 3 [] .none .none .none (.str (S "cpy313.email.header") 325) .none (.ref 70) .none 0)), #[]⟩,
  ⟨(.type "tuple"), .none, (.seq #[] 0), #[]⟩,
  ⟨.none, .none, (.fields #[]), #[]⟩,
  ⟨(.type "tuple"), .none, (.seq #[(.str (S "self") 385), (.str (S "linesep") 386)] 0), #[]⟩,
  ⟨(.type "tuple"), .none, (.seq #[] 0), #[]⟩,
  ⟨.none, .none, (.func (fnA (mtA 11 1) (S "_str") (S "_ValueFormatter._str") 0 [] .none .none .none .none .none .none .none 0)), #[]⟩,
  ⟨(.type "code"), .none, (.fields #[(.str (S "_str") 382), (.str (S "_ValueFormatter._str") 383), (.str (S "/claim/cut.py") 384), (.int 67 0), (.int 2 0), (.int 0 0), (.int 0 0), (.int 3 0), (.ref 72), (.bool true), (.int 276 0), (.ref 73), .none, (.ref 74), (.ref 75), (.ref 76), (.int 387 0), (.int 67 0), (.str (S "/claim/cut.py") 388)]), #[]⟩,
  ⟨(.type "function"), .none, (.func (fnA (mtA 11 1) (S "_str") (S "_ValueFormatter._str") 3 [] .none .none .none (.str (S "cpy313.email.header") 325) .none (.ref 77) .none 0)), #[]⟩,
  ⟨(.type "tuple"), .none, (.seq #[] 0), #[]⟩,
  ⟨.none, .none, (.fields #[]), #[]⟩,
  ⟨(.type "tuple"), .none, (.seq #[(.str (S "self") 393)] 0), #[]⟩,
  ⟨(.type "tuple"), .none, (.seq #[] 0), #[]⟩,
  ⟨.none, .none, (.func (fnA (mtA 11 2) (S "__str__") (S "_ValueFormatter.__str__") 0 [] .none .none .none .none .none .none .none 0)), #[]⟩,
  ⟨(.type "code"), .none, (.fields #[(.str (S "__str__") 390), (.str (S "_ValueFormatter.__str__") 391), (.str (S "/claim/cut.py") 392), (.int 71 0), (.int 1 0), (.int 0 0), (.int 0 0), (.int 3 0), (.ref 79), (.bool true), (.int 276 0), (.ref 80), .none, (.ref 81), (.ref 82), (.ref 83), (.int 394 0), (.int 71 0), (.str (S "/claim/cut.py") 395)]), #[]⟩,
  ⟨(.type "function"), .none, (.func (fnA (mtA 11 2) (S "__str__") (S "_ValueFormatter.__str__") 3 [] .none .none .none (.str (S "cpy313.email.header") 325) .none (.ref 84) .none 0)), #[]⟩,
  ⟨(.type "tuple"), .none, (.seq #[] 0), #[]⟩,
  ⟨.none, .none, (.fields #[]), #[]⟩]
noncomputable def nwB1 (P : Params) : List Obj := [
  ⟨(.type "tuple"), .none, (.seq #[(.str (S "self") 400), (.str (S "end_of_line") 401)] 0), #[]⟩,
  ⟨(.type "tuple"), .none, (.seq #[] 0), #[]⟩,
  ⟨.none, .none, (.func (fnA (mtA 11 3) (S "newline") (S "_ValueFormatter.newline") 0 [] .none .none .none .none .none .none .none 0)), #[]⟩,
  ⟨(.type "code"), .none, (.fields #[(.str (S "newline") 397), (.str (S "_ValueFormatter.newline") 398), (.str (S "/claim/cut.py") 399), (.int 74 0), (.int 1 0), (.int 0 0), (.int 0 0), (.int 3 0), (.ref 86), (.bool true), (.int 276 0), (.ref 87), .none, (.ref 88), (.ref 89), (.ref 90), (.int 402 0), (.int 74 0), (.str (S "/claim/cut.py") 403)]), #[]⟩,
  ⟨(.type "function"), .none, (.func (fnA (mtA 11 3) (S "newline") (S "_ValueFormatter.newline") 3 [] .none .none .none (.str (S "cpy313.email.header") 325) .none (.ref 91) .none 0)), #[]⟩,
  ⟨(.type "tuple"), .none, (.seq #[] 0), #[]⟩,
  ⟨.none, .none, (.fields #[]), #[]⟩,
  ⟨(.type "tuple"), .none, (.seq #[(.str (S "self") 408)] 0), #[]⟩,
  ⟨(.type "tuple"), .none, (.seq #[] 0), #[]⟩,
  ⟨.none, .none, (.func (fnA (mtA 11 4) (S "add_transition") (S "_ValueFormatter.add_transition") 0 [] .none .none .none .none .none .none .none 0)), #[]⟩,
  ⟨(.type "code"), .none, (.fields #[(.str (S "add_transition") 405), (.str (S "_ValueFormatter.add_transition") 406), (.str (S "/claim/cut.py") 407), (.int 85 0), (.int 1 0), (.int 0 0), (.int 0 0), (.int 3 0), (.ref 93), (.bool true), (.int 276 0), (.ref 94), .none, (.ref 95), (.ref 96), (.ref 97), (.int 409 0), (.int 85 0), (.str (S "/claim/cut.py") 410)]), #[]⟩,
  ⟨(.type "function"), .none, (.func (fnA (mtA 11 4) (S "add_transition") (S "_ValueFormatter.add_transition") 3 [] .none .none .none (.str (S "cpy313.email.header") 325) .none (.ref 98) .none 0)), #[]⟩,
  ⟨(.type "tuple"), .none, (.seq #[] 0), #[]⟩,
  ⟨.none, .none, (.fields #[]), #[]⟩,
  ⟨(.type "tuple"), .none, (.seq #[(.str (S "self") 415), (.str (S "fws") 416), (.str (S "string") 417), (.str (S "charset") 418)] 0), #[]⟩,
  ⟨(.type "tuple"), .none, (.seq #[] 0), #[]⟩,
  ⟨.none, .none, (.func (fnA (mtA 11 5) (S "feed") (S "_ValueFormatter.feed") 0 [] .none .none .none .none .none .none .none 0)), #[]⟩,
  ⟨(.type "code"), .none, (.fields #[(.str (S "feed") 412), (.str (S "_ValueFormatter.feed") 413), (.str (S "/claim/cut.py") 414), (.int 88 0), (.int 4 0), (.int 0 0), (.int 0 0), (.int 3 0), (.ref 100), (.bool true), (.int 276 0), (.ref 101), .none, (.ref 102), (.ref 103), (.ref 104), (.int 419 0), (.int 88 0), (.str (S "/claim/cut.py") 420)]), #[]⟩,
  ⟨(.type "function"), .none, (.func (fnA (mtA 11 5) (S "feed") (S "_ValueFormatter.feed") 3 [] .none .none .none (.str (S "cpy313.email.header") 325) .none (.ref 105) .none 0)), #[]⟩,
  ⟨(.type "tuple"), .none, (.seq #[] 0), #[]⟩,
  ⟨.none, .none, (.fields #[]), #[]⟩,
  ⟨(.type "tuple"), .none, (.seq #[(.str (S "self") 425)] 0), #[]⟩,
  ⟨(.type "tuple"), .none, (.seq #[] 0), #[]⟩,
  ⟨.none, .none, (.func (fnA (mtA 11 6) (S "_maxlengths") (S "_ValueFormatter._maxlengths") 0 [] .none .none .none .none .none .none .none 0)), #[]⟩,
  ⟨(.type "code"), .none, (.fields #[(.str (S "_maxlengths") 422), (.str (S "_ValueFormatter._maxlengths") 423), (.str (S "/claim/cut.py") 424), (.int 91 0), (.int 1 0), (.int 0 0), (.int 0 0), (.int 3 0), (.ref 107), (.bool true), (.int 276 0), (.ref 108), .none, (.ref 109), (.ref 110), (.ref 111), (.int 426 0), (.int 91 0), (.str (S "/claim/cut.py") 427)]), #[]⟩,
  ⟨(.type "function"), .none, (.func (fnA (mtA 11 6) (S "_maxlengths") (S "_ValueFormatter._maxlengths") 3 [] .none .none .none (.str (S "cpy313.email.header") 325) .none (.ref 112) .none 0)), #[]⟩,
  ⟨(.type "tuple"), .none, (.seq #[] 0), #[]⟩,
  ⟨.none, .none, (.fields #[]), #[]⟩,
  ⟨(.type "tuple"), .none, (.seq #[(.str (S "self") 432), (.str (S "fws") 433), (.str (S "string") 434), (.str (S "splitchars") 435), (.str (S "parts") 436), (.str (S "part") 437)] 0), #[]⟩,
  ⟨(.type "tuple"), .none, (.seq #[] 0), #[]⟩]
noncomputable def nwB2 (P : Params) : List Obj := [
  ⟨.none, .none, (.func (fnA (mtA 11 7) (S "_ascii_split") (S "_ValueFormatter._ascii_split") 0 [] .none .none .none .none .none .none .none 0)), #[]⟩,
  ⟨(.type "code"), .none, (.fields #[(.str (S "_ascii_split") 429), (.str (S "_ValueFormatter._ascii_split") 430), (.str (S "/claim/cut.py") 431), (.int 94 0), (.int 4 0), (.int 0 0), (.int 0 0), (.int 3 0), (.ref 114), (.bool true), (.int 276 0), (.ref 115), .none, (.ref 116), (.ref 117), (.ref 118), (.int 438 0), (.int 94 0), (.str (S "/claim/cut.py") 439)]), #[]⟩,
  ⟨(.type "function"), .none, (.func (fnA (mtA 11 7) (S "_ascii_split") (S "_ValueFormatter._ascii_split") 3 [] .none .none .none (.str (S "cpy313.email.header") 325) .none (.ref 119) .none 0)), #[]⟩,
  ⟨(.type "tuple"), .none, (.seq #[] 0), #[]⟩,
  ⟨.none, .none, (.fields #[]), #[]⟩,
  ⟨(.type "tuple"), .none, (.seq #[(.str (S "self") 444), (.str (S "fws") 445), (.str (S "string") 446), (.str (S "ch") 447), (.str (S "i") 448), (.str (S "prevpart") 449), (.str (S "part") 450), (.str (S "remainder") 451)] 0), #[]⟩,
  ⟨(.type "tuple"), .none, (.seq #[] 0), #[]⟩,
  ⟨.none, .none, (.func (fnA (mtA 11 8) (S "_append_chunk") (S "_ValueFormatter._append_chunk") 0 [] .none .none .none .none .none .none .none 0)), #[]⟩,
  ⟨(.type "code"), .none, (.fields #[(.str (S "_append_chunk") 441), (.str (S "_ValueFormatter._append_chunk") 442), (.str (S "/claim/cut.py") 443), (.int 103 0), (.int 3 0), (.int 0 0), (.int 0 0), (.int 3 0), (.ref 121), (.bool true), (.int 276 0), (.ref 122), .none, (.ref 123), (.ref 124), (.ref 125), (.int 452 0), (.int 103 0), (.str (S "/claim/cut.py") 453)]), #[]⟩,
  ⟨(.type "function"), .none, (.func (fnA (mtA 11 8) (S "_append_chunk") (S "_ValueFormatter._append_chunk") 3 [] .none .none .none (.str (S "cpy313.email.header") 325) .none (.ref 126) .none 0)), #[]⟩,
  ⟨(.type "tuple"), .none, (.seq #[(.str (S "_continuation_ws") 455), (.str (S "_continuation_ws_len") 456), (.str (S "_current_line") 457), (.str (S "_lines") 458), (.str (S "_maxlen") 459), (.str (S "_splitchars") 460)] 0), #[]⟩,
  ⟨(.type "dict"), .none, (.dict #[ent P "__module__" 366 (.str (S "cpy313.email.header") 325), ent P "__firstlineno__" 370 (.int 57 369), ent P "__init__" 381 (.ref 71), ent P "_str" 389 (.ref 78), ent P "__str__" 396 (.ref 85), ent P "newline" 404 (.ref 92), ent P "add_transition" 411 (.ref 99), ent P "feed" 421 (.ref 106), ent P "_maxlengths" 428 (.ref 113), ent P "_ascii_split" 440 (.ref 120), ent P "_append_chunk" 454 (.ref 127), ent P "__static_attributes__" 461 (.ref 128), ent P "__dict__" 463 (.ref 131), ent P "__weakref__" 465 (.ref 132), ent P "__doc__" 466 .none] 4), #[]⟩,
  ⟨(.type "type"), .none, (.cls { name := (S "_ValueFormatter"), bases := [(.type "object")], mro := [(.ref 130), (.type "object")], ns := 129, qualname := (S "_ValueFormatter"), hasDict := true, slotNames := [], subclasses := [], abstract := false, collection := .none, hasDel := false }), #[.none, .none, (.some (.str (S "_ValueFormatter") 359)), (.some (.str (S "_ValueFormatter") 367)), (.some (.builtin "object.__new__")), (.some (.bool true))]⟩,
  ⟨(.type "getset_descriptor"), .none, (.fields #[(.str (S "__dict__") 462), (.ref 130), (.builtin "function.__dict__"), (.builtin "function.__dict__#set")]), #[]⟩,
  ⟨(.type "getset_descriptor"), .none, (.fields #[(.str (S "__weakref__") 464), (.ref 130), (.builtin "ExceptionGroup.__weakref__"), .none]), #[]⟩,
  ⟨(.type "super"), .none, (.fields #[(.ref 130), (.ref 130), (.ref 130)]), #[]⟩,
  ⟨(.type "builtin_function_or_method"), .none, (.fields #[(.builtin "object.__init_subclass__"), (.ref 130)]), #[]⟩]
noncomputable def ZB (P : Params) : BT := insAll (((ZA P).set 3 fun _ => mnB P).set 29 fun _ => csB) 58 (nwB0 P ++ nwB1 P ++ nwB2 P)
noncomputable def mnC (P : Params) : Obj := ⟨(.type "dict"), .none, (.dict #[ent P "__name__" 165 (.str (S "cpy313.stringprep") 565), ent P "__doc__" 166 .none, ent P "__package__" 167 .none, ent P "__loader__" 168 (.builtin "__main__.__loader__#opaque"), ent P "__spec__" 169 .none, ent P "__annotations__" 170 (.ref 6), ent P "__builtins__" 171 (.ref 4), ent P "__file__" 173 (.str (S "/claim/cut.py") 172), ent P "__cached__" 174 .none, ent P "_sre" 275 (.ref 12), ent P "_wall" 288 (.ref 38), ent P "_MAX_STRING_SIZE" 292 (.int 40 291), ent P "_MOVE_COST" 294 (.int 2 293), ent P "_CASE_COST" 296 (.int 1 295), ent P "_substitution_cost" 304 (.ref 45), ent P "_levenshtein_distance" 324 (.ref 52), ent P "_twin_re_1" 354 (.ref 57), ent P "NL" 356 (.str (S "\n") 355), ent P "EMPTYSTRING" 358 (.str (S "") 357), ent P "_ValueFormatter" 468 (.ref 130), ent P "_Accumulator" 564 (.ref 214)] 21), #[]⟩
noncomputable def csC : Obj := ⟨.none, .none, (.fields #[(.int 2 0), (.int 0 0), (.ref 37), (.int 9 0), (.int 0 0), (.ref 44), (.int 15 0), (.int 0 0), (.ref 51), (.int 57 0), (.int 0 0), (.ref 63), (.int 129 0), (.int 0 0), (.ref 141)]), #[]⟩
noncomputable def nwC0 (P : Params) : List Obj := [
  ⟨(.type "tuple"), .none, (.seq #[(.type "list")] 0), #[]⟩,
  ⟨(.type "builtin_function_or_method"), .none, (.fields #[(.builtin "type.__prepare__"), (.type "type")]), #[]⟩,
  ⟨(.type "dict"), .none, (.dict #[ent P "__module__" 476 (.str (S "cpy313.email.header") 325), ent P "__qualname__" 478 (.str (S "_Accumulator") 477), ent P "__firstlineno__" 480 (.int 129 479), ent P "__init__" 490 (.ref 151), ent P "push" 499 (.ref 158), ent P "pop_from" 509 (.ref 166), ent P "pop" 517 (.ref 174), ent P "__len__" 524 (.ref 181), ent P "__str__" 531 (.ref 188), ent P "reset" 539 (.ref 196), ent P "is_onlyws" 546 (.ref 203), ent P "part_count" 554 (.ref 211), ent P "__static_attributes__" 556 (.ref 212), ent P "__classcell__" 557 (.ref 138)] 14), #[]⟩,
  ⟨(.type "cell"), .none, (.cell (.some (.ref 214))), #[]⟩,
  ⟨(.type "tuple"), .none, (.seq #[] 0), #[]⟩,
  ⟨.none, .none, (.fields #[(.int 131 0), (.int 4 0), (.ref 150), (.int 135 0), (.int 4 0), (.ref 157), (.int 138 0), (.int 4 0), (.ref 165), (.int 143 0), (.int 4 0), (.ref 173), (.int 148 0), (.int 4 0), (.ref 180), (.int 151 0), (.int 4 0), (.ref 187), (.int 154 0), (.int 4 0), (.ref 195), (.int 160 0), (.int 4 0), (.ref 202), (.int 163 0), (.int 4 0), (.ref 210)]), #[]⟩,
  ⟨(.type "code"), .none, (.fields #[(.str (S "_Accumulator") 471), (.str (S "_Accumulator") 472), (.str (S "/claim/cut.py") 473), (.int 129 0), (.int 0 0), (.int 0 0), (.int 0 0), (.int 0 0), (.ref 139), (.bool false), (.int 276 0), (.ref 140), .none, .none, .none, .none, (.int 474 0), (.int 129 0), (.str (S "/claim/cut.py") 475)]), #[]⟩,
  ⟨(.type "frame"), .none, .plain, #[(.some (.ref 141)), (.some (.ref 3)), (.some (.ref 137)), .none, (.some (.str (S "cpy313.email.header") 325)), .none, (.some (.ref 0))]⟩,
  ⟨(.type "tuple"), .none, (.seq #[(.int 0 481)] 0), #[]⟩,
  ⟨(.type "tuple"), .none, (.seq #[(.ref 138)] 0), #[]⟩,
  ⟨(.type "tuple"), .none, (.seq #[(.str (S "__class__") 485)] 0), #[]⟩,
  ⟨.none, .none, (.fields #[]), #[]⟩,
  ⟨(.type "tuple"), .none, (.seq #[(.str (S "self") 486), (.str (S "initial_size") 487)] 0), #[]⟩,
  ⟨(.type "tuple"), .none, (.seq #[] 0), #[]⟩,
  ⟨.none, .none, (.func (fnA (mtA 12 0) (S "__init__") (S "_Accumulator.__init__") 0 [] .none .none .none .none .none .none .none 0)), #[]⟩,
  ⟨(.type "code"), .none, (.fields #[(.str (S "__init__") 482), (.str (S "_Accumulator.__init__") 483), (.str (S "/claim/cut.py") 484), (.int 131 0), (.int 2 0), (.int 0 0), (.int 0 0), (.int 3 0), (.ref 145), (.bool true), (.int 276 0), (.ref 146), .none, (.ref 147), (.ref 148), (.ref 149), (.int 488 0), (.int 131 0), (.str (S "/claim/cut.py") 489)]), #[]⟩,
  ⟨(.type "function"), .none, (.func (fnA (mtA 12 0) (S "__init__") (S "_Accumulator.__init__") 3 [((S "__class__"), 138)] (.ref 143) .none .none (.str (S "cpy313.email.header") 325) .none (.ref 150) (.ref 144) 0)), #[]⟩,
  ⟨(.type "tuple"), .none, (.seq #[] 0), #[]⟩,
  ⟨.none, .none, (.fields #[]), #[]⟩,
  ⟨(.type "tuple"), .none, (.seq #[(.str (S "self") 494), (.str (S "fws") 495), (.str (S "string") 496)] 0), #[]⟩,
  ⟨(.type "tuple"), .none, (.seq #[] 0), #[]⟩,
  ⟨.none, .none, (.func (fnA (mtA 12 1) (S "push") (S "_Accumulator.push") 0 [] .none .none .none .none .none .none .none 0)), #[]⟩,
  ⟨(.type "code"), .none, (.fields #[(.str (S "push") 491), (.str (S "_Accumulator.push") 492), (.str (S "/claim/cut.py") 493), (.int 135 0), (.int 3 0), (.int 0 0), (.int 0 0), (.int 3 0), (.ref 152), (.bool true), (.int 276 0), (.ref 153), .none, (.ref 154), (.ref 155), (.ref 156), (.int 497 0), (.int 135 0), (.str (S "/claim/cut.py") 498)]), #[]⟩,
  ⟨(.type "function"), .none, (.func (fnA (mtA 12 1) (S "push") (S "_Accumulator.push") 3 [] .none .none .none (.str (S "cpy313.email.header") 325) .none (.ref 157) .none 0)), #[]⟩,
  ⟨(.type "tuple"), .none, (.seq #[(.int 0 500)] 0), #[]⟩,
  ⟨(.type "tuple"), .none, (.seq #[] 0), #[]⟩,
  ⟨.none, .none, (.fields #[]), #[]⟩,
  ⟨(.type "tuple"), .none, (.seq #[(.str (S "self") 504), (.str (S "i") 505), (.str (S "popped") 506)] 0), #[]⟩,
  ⟨(.type "tuple"), .none, (.seq #[] 0), #[]⟩,
  ⟨.none, .none, (.func (fnA (mtA 12 2) (S "pop_from") (S "_Accumulator.pop_from") 0 [] .none .none .none .none .none .none .none 0)), #[]⟩]
noncomputable def nwC1 (P : Params) : List Obj := [
  ⟨(.type "code"), .none, (.fields #[(.str (S "pop_from") 501), (.str (S "_Accumulator.pop_from") 502), (.str (S "/claim/cut.py") 503), (.int 138 0), (.int 2 0), (.int 0 0), (.int 0 0), (.int 3 0), (.ref 160), (.bool true), (.int 276 0), (.ref 161), .none, (.ref 162), (.ref 163), (.ref 164), (.int 507 0), (.int 138 0), (.str (S "/claim/cut.py") 508)]), #[]⟩,
  ⟨(.type "function"), .none, (.func (fnA (mtA 12 2) (S "pop_from") (S "_Accumulator.pop_from") 3 [] (.ref 159) .none .none (.str (S "cpy313.email.header") 325) .none (.ref 165) .none 0)), #[]⟩,
  ⟨(.type "tuple"), .none, (.seq #[(.ref 138)] 0), #[]⟩,
  ⟨(.type "tuple"), .none, (.seq #[(.str (S "__class__") 513)] 0), #[]⟩,
  ⟨.none, .none, (.fields #[]), #[]⟩,
  ⟨(.type "tuple"), .none, (.seq #[(.str (S "self") 514)] 0), #[]⟩,
  ⟨(.type "tuple"), .none, (.seq #[] 0), #[]⟩,
  ⟨.none, .none, (.func (fnA (mtA 12 3) (S "pop") (S "_Accumulator.pop") 0 [] .none .none .none .none .none .none .none 0)), #[]⟩,
  ⟨(.type "code"), .none, (.fields #[(.str (S "pop") 510), (.str (S "_Accumulator.pop") 511), (.str (S "/claim/cut.py") 512), (.int 143 0), (.int 1 0), (.int 0 0), (.int 0 0), (.int 3 0), (.ref 168), (.bool true), (.int 276 0), (.ref 169), .none, (.ref 170), (.ref 171), (.ref 172), (.int 515 0), (.int 143 0), (.str (S "/claim/cut.py") 516)]), #[]⟩,
  ⟨(.type "function"), .none, (.func (fnA (mtA 12 3) (S "pop") (S "_Accumulator.pop") 3 [((S "__class__"), 138)] .none .none .none (.str (S "cpy313.email.header") 325) .none (.ref 173) (.ref 167) 0)), #[]⟩,
  ⟨(.type "tuple"), .none, (.seq #[] 0), #[]⟩,
  ⟨.none, .none, (.fields #[]), #[]⟩,
  ⟨(.type "tuple"), .none, (.seq #[(.str (S "self") 521)] 0), #[]⟩,
  ⟨(.type "tuple"), .none, (.seq #[] 0), #[]⟩,
  ⟨.none, .none, (.func (fnA (mtA 12 4) (S "__len__") (S "_Accumulator.__len__") 0 [] .none .none .none .none .none .none .none 0)), #[]⟩,
  ⟨(.type "code"), .none, (.fields #[(.str (S "__len__") 518), (.str (S "_Accumulator.__len__") 519), (.str (S "/claim/cut.py") 520), (.int 148 0), (.int 1 0), (.int 0 0), (.int 0 0), (.int 3 0), (.ref 175), (.bool true), (.int 276 0), (.ref 176), .none, (.ref 177), (.ref 178), (.ref 179), (.int 522 0), (.int 148 0), (.str (S "/claim/cut.py") 523)]), #[]⟩,
  ⟨(.type "function"), .none, (.func (fnA (mtA 12 4) (S "__len__") (S "_Accumulator.__len__") 3 [] .none .none .none (.str (S "cpy313.email.header") 325) .none (.ref 180) .none 0)), #[]⟩,
  ⟨(.type "tuple"), .none, (.seq #[] 0), #[]⟩,
  ⟨.none, .none, (.fields #[]), #[]⟩,
  ⟨(.type "tuple"), .none, (.seq #[(.str (S "self") 528)] 0), #[]⟩,
  ⟨(.type "tuple"), .none, (.seq #[] 0), #[]⟩,
  ⟨.none, .none, (.func (fnA (mtA 12 5) (S "__str__") (S "_Accumulator.__str__") 0 [] .none .none .none .none .none .none .none 0)), #[]⟩,
  ⟨(.type "code"), .none, (.fields #[(.str (S "__str__") 525), (.str (S "_Accumulator.__str__") 526), (.str (S "/claim/cut.py") 527), (.int 151 0), (.int 1 0), (.int 0 0), (.int 0 0), (.int 3 0), (.ref 182), (.bool true), (.int 276 0), (.ref 183), .none, (.ref 184), (.ref 185), (.ref 186), (.int 529 0), (.int 151 0), (.str (S "/claim/cut.py") 530)]), #[]⟩,
  ⟨(.type "function"), .none, (.func (fnA (mtA 12 5) (S "__str__") (S "_Accumulator.__str__") 3 [] .none .none .none (.str (S "cpy313.email.header") 325) .none (.ref 187) .none 0)), #[]⟩,
  ⟨(.type "tuple"), .none, (.seq #[.none] 0), #[]⟩,
  ⟨(.type "tuple"), .none, (.seq #[] 0), #[]⟩,
  ⟨.none, .none, (.fields #[]), #[]⟩,
  ⟨(.type "tuple"), .none, (.seq #[(.str (S "self") 535), (.str (S "startval") 536)] 0), #[]⟩,
  ⟨(.type "tuple"), .none, (.seq #[] 0), #[]⟩,
  ⟨.none, .none, (.func (fnA (mtA 12 6) (S "reset") (S "_Accumulator.reset") 0 [] .none .none .none .none .none .none .none 0)), #[]⟩]
noncomputable def nwC2 (P : Params) : List Obj := [
  ⟨(.type "code"), .none, (.fields #[(.str (S "reset") 532), (.str (S "_Accumulator.reset") 533), (.str (S "/claim/cut.py") 534), (.int 154 0), (.int 2 0), (.int 0 0), (.int 0 0), (.int 3 0), (.ref 190), (.bool true), (.int 276 0), (.ref 191), .none, (.ref 192), (.ref 193), (.ref 194), (.int 537 0), (.int 154 0), (.str (S "/claim/cut.py") 538)]), #[]⟩,
  ⟨(.type "function"), .none, (.func (fnA (mtA 12 6) (S "reset") (S "_Accumulator.reset") 3 [] (.ref 189) .none .none (.str (S "cpy313.email.header") 325) .none (.ref 195) .none 0)), #[]⟩,
  ⟨(.type "tuple"), .none, (.seq #[] 0), #[]⟩,
  ⟨.none, .none, (.fields #[]), #[]⟩,
  ⟨(.type "tuple"), .none, (.seq #[(.str (S "self") 543)] 0), #[]⟩,
  ⟨(.type "tuple"), .none, (.seq #[] 0), #[]⟩,
  ⟨.none, .none, (.func (fnA (mtA 12 7) (S "is_onlyws") (S "_Accumulator.is_onlyws") 0 [] .none .none .none .none .none .none .none 0)), #[]⟩,
  ⟨(.type "code"), .none, (.fields #[(.str (S "is_onlyws") 540), (.str (S "_Accumulator.is_onlyws") 541), (.str (S "/claim/cut.py") 542), (.int 160 0), (.int 1 0), (.int 0 0), (.int 0 0), (.int 3 0), (.ref 197), (.bool true), (.int 276 0), (.ref 198), .none, (.ref 199), (.ref 200), (.ref 201), (.int 544 0), (.int 160 0), (.str (S "/claim/cut.py") 545)]), #[]⟩,
  ⟨(.type "function"), .none, (.func (fnA (mtA 12 7) (S "is_onlyws") (S "_Accumulator.is_onlyws") 3 [] .none .none .none (.str (S "cpy313.email.header") 325) .none (.ref 202) .none 0)), #[]⟩,
  ⟨(.type "tuple"), .none, (.seq #[(.ref 138)] 0), #[]⟩,
  ⟨(.type "tuple"), .none, (.seq #[(.str (S "__class__") 550)] 0), #[]⟩,
  ⟨.none, .none, (.fields #[]), #[]⟩,
  ⟨(.type "tuple"), .none, (.seq #[(.str (S "self") 551)] 0), #[]⟩,
  ⟨(.type "tuple"), .none, (.seq #[] 0), #[]⟩,
  ⟨.none, .none, (.func (fnA (mtA 12 8) (S "part_count") (S "_Accumulator.part_count") 0 [] .none .none .none .none .none .none .none 0)), #[]⟩,
  ⟨(.type "code"), .none, (.fields #[(.str (S "part_count") 547), (.str (S "_Accumulator.part_count") 548), (.str (S "/claim/cut.py") 549), (.int 163 0), (.int 1 0), (.int 0 0), (.int 0 0), (.int 3 0), (.ref 205), (.bool true), (.int 276 0), (.ref 206), .none, (.ref 207), (.ref 208), (.ref 209), (.int 552 0), (.int 163 0), (.str (S "/claim/cut.py") 553)]), #[]⟩,
  ⟨(.type "function"), .none, (.func (fnA (mtA 12 8) (S "part_count") (S "_Accumulator.part_count") 3 [((S "__class__"), 138)] .none .none .none (.str (S "cpy313.email.header") 325) .none (.ref 210) (.ref 204) 0)), #[]⟩,
  ⟨(.type "tuple"), .none, (.seq #[(.str (S "_initial_size") 555)] 0), #[]⟩,
  ⟨(.type "dict"), .none, (.dict #[ent P "__module__" 476 (.str (S "cpy313.email.header") 325), ent P "__firstlineno__" 480 (.int 129 479), ent P "__init__" 490 (.ref 151), ent P "push" 499 (.ref 158), ent P "pop_from" 509 (.ref 166), ent P "pop" 517 (.ref 174), ent P "__len__" 524 (.ref 181), ent P "__str__" 531 (.ref 188), ent P "reset" 539 (.ref 196), ent P "is_onlyws" 546 (.ref 203), ent P "part_count" 554 (.ref 211), ent P "__static_attributes__" 556 (.ref 212), ent P "__dict__" 559 (.ref 215), ent P "__weakref__" 561 (.ref 216), ent P "__doc__" 562 .none] 5), #[]⟩,
  ⟨(.type "type"), .none, (.cls { name := (S "_Accumulator"), bases := [(.type "list")], mro := [(.ref 214), (.type "list"), (.type "object")], ns := 213, qualname := (S "_Accumulator"), hasDict := true, slotNames := [], subclasses := [], abstract := false, collection := .none, hasDel := false }), #[(.some (.ref 135)), .none, (.some (.str (S "_Accumulator") 469)), (.some (.str (S "_Accumulator") 477)), (.some (.builtin "list.__new__")), (.some (.bool true))]⟩,
  ⟨(.type "getset_descriptor"), .none, (.fields #[(.str (S "__dict__") 558), (.ref 214), (.builtin "function.__dict__"), (.builtin "function.__dict__#set")]), #[]⟩,
  ⟨(.type "getset_descriptor"), .none, (.fields #[(.str (S "__weakref__") 560), (.ref 214), (.builtin "ExceptionGroup.__weakref__"), .none]), #[]⟩,
  ⟨(.type "super"), .none, (.fields #[(.ref 214), (.ref 214), (.ref 214)]), #[]⟩,
  ⟨(.type "builtin_function_or_method"), .none, (.fields #[(.builtin "object.__init_subclass__"), (.ref 214)]), #[]⟩]
noncomputable def U14 (P : Params) : BT := insAll (((ZB P).set 3 fun _ => mnC P).set 29 fun _ => csC) 135 (nwC0 P ++ nwC1 P ++ nwC2 P)
noncomputable def stsA : List Stmt := (behindTheImports pw).take 11
noncomputable def stsB : List Stmt := ((behindTheImports pw).drop 11).take 1
noncomputable def stsC : List Stmt := ((behindTheImports pw).drop 12).take 2
noncomputable def posA : Pos := ⟨56, 0, 56, 11⟩
noncomputable def posB : Pos := ⟨57, 0, 128, 47⟩
/-- the run of a few statements of the top, from a tree that is written out -/
noncomputable abbrev RG (p : Program) (w : World) (os : OsState) (b : List Stmt) (N : Nat) (T : BT) (n tk : Nat) (l : List Stmt) (q : Pos) := PySem.W.Fast.tw10110043849684766642 treeTable p w 28 (some (.ref 6)) 1 N (⟨T, n, {}, #[], {}, tk, os⟩ : SharedT) (piecesOf l env1 (Code.body b env1) q [fq])
theorem runA (p : Program) (f : Source → Nat → Nat) (P : Params) (os : OsState) (b : List Stmt) : RG p ⟨f, P⟩ os b 250 (B32 P) 32 282 stsA ⟨0, 0, 0, 0⟩ = some (.next, (⟨ZA P, 58, {}, #[], {}, 359, os⟩ : SharedT), Code.body b env1, posA) := by kernel_rfl
theorem runB (p : Program) (f : Source → Nat → Nat) (P : Params) (os : OsState) (b : List Stmt) : RG p ⟨f, P⟩ os b 510 (ZA P) 58 359 stsB posA = some (.next, (⟨ZB P, 135, {}, #[], {}, 469, os⟩ : SharedT), Code.body b env1, posB) := by kernel_rfl
theorem runC (p : Program) (f : Source → Nat → Nat) (P : Params) (os : OsState) (b : List Stmt) : RG p ⟨f, P⟩ os b 540 (ZB P) 135 469 stsC posB = some (.next, (⟨U14 P, 219, {}, #[], {}, 567, os⟩ : SharedT), Code.body b env1, posK) := by kernel_rfl
end Mine
end
section
open PySem PySem.W PyProof.Rows
set_option Elab.async false
set_option maxRecDepth 100000
namespace Mine
noncomputable def tail14 : List Stmt := (behindTheImports pw).drop 14
noncomputable def st14 : Stmt := tail14.headD (.Pass default)
noncomputable def tail15 : List Stmt := tail14.drop 1
noncomputable def constOf : Option Expr → Const
  | some (.Constant c _ _) => c
  | _ => .none
noncomputable def intOf : Const → Int
  | .int i => i
  | _ => 0
noncomputable def strOf : Const → Str
  | .str x => x
  | _ => Str.empty
/-- the one statement that binds a name to a dict's display: name, its place, keys, values, the display's place, the statement's -/
noncomputable def dictSt : Stmt → Option (Str × Pos × List (Option Expr) × List Expr × Pos × Pos)
  | .Assign [.Name x q] (.Dict ks vs dq) p => some (x, q, ks, vs, dq, p)
  | _ => none
noncomputable def dS (s : Stmt) : Str × Pos × List (Option Expr) × List Expr × Pos × Pos := (dictSt s).getD (Str.empty, default, [], [], default, default)
noncomputable def nmOf (s : Stmt) : Str := (dS s).1
noncomputable def nmPos (s : Stmt) : Pos := (dS s).2.1
noncomputable def keysE (s : Stmt) : List (Option Expr) := (dS s).2.2.1
noncomputable def valsE (s : Stmt) : List Expr := (dS s).2.2.2.1
noncomputable def dispPos (s : Stmt) : Pos := (dS s).2.2.2.2.1
noncomputable def asgPos (s : Stmt) : Pos := (dS s).2.2.2.2.2
noncomputable def pairsL (s : Stmt) : List (Int × Str) := ((keysE s).map fun k => intOf (constOf k)).zip ((valsE s).map fun v => strOf (constOf (some v)))
noncomputable def thePairs : List (Int × Str) := pairsL st14
noncomputable def chunks17 : Nat → List (Int × Str) → List (List (Int × Str))
  | 0, _ => []
  | n + 1, L => if L.length < 17 then [] else L.take 17 :: chunks17 n (L.drop 17)
noncomputable def theC0 : List (Int × Str) := thePairs.take 17
noncomputable def theCs : List (List (Int × Str)) := chunks17 50 (thePairs.drop 17)
noncomputable def theLast : List (Int × Str) := thePairs.drop 646
theorem body_is : stsA ++ (stsB ++ (stsC ++ (st14 :: tail15))) = behindTheImports pw := by kernel_rfl
theorem pairs_split : thePairs = theC0 ++ (theCs.flatten ++ theLast) := by kernel_rfl
theorem c0_len : theC0.length = 17 := by kernel_rfl
theorem cs_len : (theCs.all fun c => c.length == 17) = true := by kernel_rfl
theorem cs_sum : sumC theCs = 629 := by kernel_rfl
theorem cs_n : theCs.length = 37 := by kernel_rfl
theorem last_len : theLast.length = 4 := by kernel_rfl
noncomputable def ascending : List Int → Bool
  | [] => true
  | [_] => true
  | a :: b :: r => decide (a < b) && ascending (b :: r)
theorem keys_asc : ascending (thePairs.map (·.1)) = true := by kernel_rfl
theorem keys_lo : (thePairs.all fun x => decide (0 ≤ x.1) && decide (x.1 < 2 ^ 60)) = true := by kernel_rfl
end Mine
end
section
open PySem PySem.W PyProof.Rows
set_option Elab.async false
set_option maxRecDepth 100000
namespace Mine
theorem st14_is : st14 = .Assign [.Name (nmOf st14) (nmPos st14)] (.Dict (keysE st14) (valsE st14) (dispPos st14)) (asgPos st14) := by kernel_rfl
theorem items_is (env : Env) : (evalEachOpt (keysE st14) env).zip ((evalEach (valsE st14) env).map fun v => do let x ← v; standAt (dispPos st14); pure x) = its (dispPos st14) thePairs := by kernel_rfl
theorem store_is (v : Value) : storeName env1 (nmOf st14) v = nsSet mainNs (nmOf st14) v := by kernel_rfl
theorem swap_is (env : Env) : swapsWithSole [.Name (nmOf st14) (nmPos st14)] (.Dict (keysE st14) (valsE st14) (dispPos st14)) (asgPos st14).line env = pure false := rfl
theorem swapped_is (env : Env) : swappedStores [.Name (nmOf st14) (nmPos st14)] (.Dict (keysE st14) (valsE st14) (dispPos st14)) env = pure none := rfl
theorem exec_is (env : Env) : exec (.Assign [.Name (nmOf st14) (nmPos st14)] (.Dict (keysE st14) (valsE st14) (dispPos st14)) (asgPos st14)) env = (do
    standAt (asgPos st14)
    standAt (dispPos st14)
    let v ← dictDisplay (its (dispPos st14) thePairs)
    (standAt (nmPos st14) >>= fun _ => bindName env (nmOf st14) v) >>= fun _ => pure .next) := by
  rw [← items_is env]
  kernel_rfl
end Mine
end
section
open PySem PySem.W PyProof.Rows
set_option Elab.async false
set_option maxRecDepth 100000
namespace Mine
noncomputable def hshOf (P : Params) (nm : Str) : Int := if nm.cps.isEmpty then 0 else reduceHash (P.strHash nm.cps)
noncomputable def putMain (P : Params) (tok : Tok) (v : Value) : Obj → Obj := Obj.putName (nmOf st14) (hshOf P (nmOf st14)) (.str (nmOf st14) tok) v
noncomputable def mainD0 : Obj := dObj ((ents 567 theC0).toArray ++ (entC (567 + 51) theCs).toArray ++ (entsV (567 + 51 + 3 * 629) theLast).toArray) 650
noncomputable def mainL : List DictEntry := ents 567 theC0 ++ (entC (567 + 51) theCs ++ entsV (567 + 51 + 3 * 629) theLast)
noncomputable def mainD : Obj := dObj mainL.toArray 650
theorem mainD_is : mainD0 = mainD := by unfold mainD0 mainD mainL; rw [List.append_toArray, List.append_toArray, List.append_assoc]
noncomputable def subsD : List Obj := subC (567 + 51) theCs ++ [dObj (entsV (567 + 51 + 3 * 629) theLast).toArray 4]
section
variable {p : Program} {w : World} {n₀ : Nat} {ann : Option Value}
variable {code : Code} {f : Frame} {B : List Frame} {pos : Pos} {s : Shared}
theorem ev_nsSet {nm : Str} {v c : Value} {d : Option Addr} {es : Array DictEntry} {n : Nat} {sl : Array (Option Value)} (ho : s.heap.get? mainNs = some ⟨c, d, .dict es n, sl⟩) (hr : aRefKeyMayBeTheName nm es = false) :
    Ev p w n₀ ann code f B 4 (nsSet mainNs nm v) pos s () pos { s with heap := s.heap.update mainNs (Obj.putName nm (hshOf w.params nm) (.str nm s.toks) v), toks := s.toks + 1 } := by
  unfold nsSet
  refine Ev.bind (n := 1) (n' := 3) (a := hshOf w.params nm) (s₁ := s) (pos₁ := pos) (Ev.bind (n := 1) (n' := 0) (Ev.ask (n := 0) Ev.pure) Ev.pure) ?_
  refine Ev.bind (n := 1) (n' := 2) (a := .str nm s.toks) (s₁ := { s with toks := s.toks + 1 }) (pos₁ := pos) (Ev.bind (n := 1) (n' := 0) (Ev.fresh (n := 0) Ev.pure) Ev.pure) ?_
  refine Ev.bind (n := 1) (n' := 1) (Ev.load (s := { s with toks := s.toks + 1 }) (n := 0) ho Ev.pure) ?_
  dsimp only
  rw [if_neg (by rw [hr]; exact Bool.false_ne_true)]
  exact Ev.update (s := { s with toks := s.toks + 1 }) (n := 0) ho (.inr rfl) Ev.pure
end
theorem asc_nodup : ∀ (l : List Int), ascending l = true → l.Pairwise (· < ·)
  | [], _ => .nil
  | [_], _ => List.pairwise_singleton _ _
  | a :: b :: r, h => by
    unfold ascending at h
    obtain ⟨h1, h2⟩ := Bool.and_eq_true_iff.mp h
    have ih := asc_nodup (b :: r) h2
    refine List.pairwise_cons.mpr ⟨fun x hx => ?_, ih⟩
    have hab := of_decide_eq_true h1
    rcases List.mem_cons.mp hx with rfl | hx
    · exact hab
    · have := (List.pairwise_cons.mp ih).1 x hx
      lia
theorem hash_id {k : Int} (h0 : 0 ≤ k) (h1 : k < 2 ^ 60) : hashInt k = k := by
  have hr : rawHash k = k := by
    unfold rawHash
    have e0 : ((2 ^ 61 - 1 : Nat) : Int) = 2305843009213693951 := by decide
    have e : ((k.natAbs : Int) % ((2 ^ 61 - 1 : Nat) : Int)) = k := by
      rw [Int.natAbs_of_nonneg h0, e0]; exact Int.emod_eq_of_lt h0 (by lia)
    dsimp only
    rw [e, if_neg (show ¬ k < 0 by lia), if_neg (show ¬ (k == -1) = true by simp; lia)]
  unfold hashInt
  rw [hr, if_neg (show ¬ (k == -1) = true by simp; lia)]
theorem keys_nodup : (thePairs.map fun x => hashInt x.1).Nodup := by
  have e : (thePairs.map fun x => hashInt x.1) = thePairs.map (·.1) := by
    apply List.map_congr_left
    intro x hx
    have := List.all_eq_true.mp keys_lo x hx
    obtain ⟨a, b⟩ := Bool.and_eq_true_iff.mp this
    exact hash_id (of_decide_eq_true a) (of_decide_eq_true b)
  rw [e]
  exact (asc_nodup _ keys_asc).imp fun h => Int.ne_of_lt h
section
variable {p : Program} {w : World} {code : Code} {f : Frame} {B : List Frame} {pos : Pos} {h : Heap} {g : Array GenState} {dr : Drawn} {os : OsState}
theorem ev_st14_0 {c : Value} {d : Option Addr} {es : Array DictEntry} {n : Nat} {sl : Array (Option Value)} (ho : h.get? mainNs = some ⟨c, d, .dict es n, sl⟩) (hr : aRefKeyMayBeTheName (nmOf st14) es = false)
    (hd : 28 ≤ h.objs.size) :
    Ev p w 28 (some (.ref 6)) code f B 12524 (exec st14 env1) pos ⟨h, g, dr, 567, os⟩ .next (nmPos st14) ⟨hp (h.update mainNs (putMain w.params 2517 (.ref h.objs.size))) mainD0 subsD, g, dr, 2518, os⟩ := by
  rw [st14_is, exec_is]
  have hD := ev_display (p := p) (w := w) (n₀ := 28) (ann := some (.ref 6)) (code := code) (f := f) (B := B) (pos := dispPos st14) (h := h) (g := g) (dr := dr) (os := os) (T := 567) c0_len
    (fun c hc => by have := List.all_eq_true.mp cs_len c hc; simpa using this) (last := theLast) (by intro q; have := last_len; rw [q] at this; cases this) (by rw [last_len]; lia)
    (by rw [← pairs_split]; exact keys_nodup) (by rw [cs_sum, last_len]; lia) hd (Nat.lt_of_lt_of_le (by decide : (sysModules : Nat) < 28) hd)
  rw [← pairs_split, cs_n, cs_sum, last_len] at hD
  refine Ev.cast (n := 1 + (1 + ((223 + 330 * 37 + (1 + 13 * 4 + (5 + 6 * 4))) + ((1 + (1 + (4 + 1))) + 0)))) ?_ rfl
  refine Ev.bind (Ev.at (n := 0) Ev.pure) (Ev.bind (Ev.at (n := 0) Ev.pure) (Ev.bind hD (Ev.bind (a := ()) (Ev.bind (Ev.at (n := 0) Ev.pure) ?_) Ev.pure)))
  unfold bindName
  refine Ev.bind (n := 1) (n' := 4 + 1) (Ev.holding (Ev.point (n := 0) Ev.pure)) ?_
  rw [store_is]
  have hm : (hp h mainD0 subsD).get? mainNs = some ⟨c, d, .dict es n, sl⟩ := foldl_get (Heap.get?_push_of_some _ ho) _
  have e := ev_nsSet (p := p) (w := w) (n₀ := 28) (ann := some (.ref 6)) (code := code) (f := f) (B := B) (pos := nmPos st14) (s := ⟨hp h mainD0 subsD, g, dr, 2517, os⟩) (nm := nmOf st14) (v := .ref h.objs.size) hm hr
  have e2 : (hp h mainD0 subsD).update mainNs (putMain w.params 2517 (.ref h.objs.size)) = hp (h.update mainNs (putMain w.params 2517 (.ref h.objs.size))) mainD0 subsD := by
    unfold hp
    have hlt : mainNs < h.objs.size := Heap.lt_size ho
    rw [foldl_update _ _ _ _ (by rw [push_size]; exact Nat.lt_succ_of_lt hlt), Heap.update_push _ _ _ _ (Nat.ne_of_lt hlt)]
  rw [← e2]
  exact Ev.bind e (Ev.point (n := 0) Ev.pure)
theorem ev_st14 {c : Value} {d : Option Addr} {es : Array DictEntry} {n : Nat} {sl : Array (Option Value)} (ho : h.get? mainNs = some ⟨c, d, .dict es n, sl⟩) (hr : aRefKeyMayBeTheName (nmOf st14) es = false)
    (hd : 28 ≤ h.objs.size) :
    Ev p w 28 (some (.ref 6)) code f B 12524 (exec st14 env1) pos ⟨h, g, dr, 567, os⟩ .next (nmPos st14) ⟨hp (h.update mainNs (putMain w.params 2517 (.ref h.objs.size))) mainD subsD, g, dr, 2518, os⟩ := by
  rw [← mainD_is]; exact ev_st14_0 ho hr hd
end
end Mine
end
section
open PySem PySem.W PyProof.Rows
set_option Elab.async false
set_option maxRecDepth 100000
namespace Mine
noncomputable def insOk : BT → Nat → List Obj → Bool
  | _, _, [] => true
  | T, n, o :: r => ((T.ins n o).get n).isSome && insOk (T.ins n o) (n + 1) r
theorem insAll_abs {life : Life} : ∀ (l : List Obj) (T : BT) (n : Nat), insOk T n l = true → l.foldl Heap.push (absHeap T n life) = absHeap (insAll T n l) (n + l.length) life
  | [], _, _, _ => rfl
  | o :: r, T, n, h => by
    unfold insOk at h
    obtain ⟨h1, h2⟩ := Bool.and_eq_true_iff.mp h
    rw [List.foldl_cons, ← absHeap_ins h1, insAll_abs r _ _ h2, insAll, List.length_cons, show n + 1 + r.length = n + (r.length + 1) by lia]
noncomputable def T14 (P : Params) : BT := (U14 P).set 3 (putMain P 2517 (.ref 219))
noncomputable def T15 (P : Params) : BT := insAll (T14 P) 219 (mainD :: subsD)
theorem len15 : (mainD :: subsD).length = 39 := by kernel_rfl
noncomputable def mnObj (P : Params) : Obj := ((U14 P).get 3).getD default
noncomputable def mnEs (P : Params) : Array DictEntry := match (mnObj P).data with
  | .dict es _ => es
  | _ => #[]
noncomputable def mnEp (P : Params) : Nat := match (mnObj P).data with
  | .dict _ n => n
  | _ => 0
theorem looks14 (P : Params) : (U14 P).get 3 = some ⟨.type "dict", none, .dict (mnEs P) (mnEp P), #[]⟩ ∧ aRefKeyMayBeTheName (nmOf st14) (mnEs P) = false ∧ insOk (T14 P) 219 (mainD :: subsD) = true := ⟨by kernel_rfl, by kernel_rfl, by kernel_rfl⟩
theorem mn_is (P : Params) : (U14 P).get 3 = some ⟨.type "dict", none, .dict (mnEs P) (mnEp P), #[]⟩ := (looks14 P).1
theorem mn_ref (P : Params) : aRefKeyMayBeTheName (nmOf st14) (mnEs P) = false := (looks14 P).2.1
theorem ok15 (P : Params) : insOk (T14 P) 219 (mainD :: subsD) = true := (looks14 P).2.2
theorem go_stmt {p : Program} {w : World} {n₀ : Nat} {ann : Option Value} {code : Code} {f : Frame} {B : List Frame} {env : Env} {st : Stmt} {rest : List Stmt} {S S' r : Shared} {pos pos' : Pos} {n N : Nat} (e : Ev p w n₀ ann code f B n (exec st env) pos S .next pos' S')
    (k : topRun treeTable p w n₀ ann N S' (restOf rest env code pos' (f :: B)) = some r) : topRun treeTable p w n₀ ann (n + N) S (restOf (st :: rest) env code pos (f :: B)) = some r := by
  unfold restOf at k ⊢
  rw [execs_cons_wrap]
  exact e _ _ _ _ N r k
theorem ho14 (P : Params) : (absHeap (U14 P) 219 {}).get? mainNs = some ⟨.type "dict", none, .dict (mnEs P) (mnEp P), #[]⟩ :=
  (abs_get (a := 3) (n := 219) (by decide) (mn_is P)).trans rfl
theorem heap15 (P : Params) : hp ((absHeap (U14 P) 219 {}).update mainNs (putMain P 2517 (.ref 219))) mainD subsD = absHeap (T15 P) 258 {} := by
  have e3 : (absHeap (U14 P) 219 {}).update mainNs (putMain P 2517 (.ref 219)) = absHeap (T14 P) 219 {} := (absHeap_set (mn_is P)).symm
  rw [e3]
  have e4 := insAll_abs (life := {}) (mainD :: subsD) (T14 P) 219 (ok15 P)
  rw [len15, List.foldl_cons] at e4
  unfold hp T15
  exact e4
theorem size14 (P : Params) : (absHeap (U14 P) 219 {}).objs.size = 219 := absHeap_size _ _ _
theorem abs_mk (T : BT) (n : Nat) (life : Life) (g : Array GenState) (d : Drawn) (t : Nat) (os : OsState) : SharedT.abs ⟨T, n, life, g, d, t, os⟩ = ⟨absHeap T n life, g, d, t, os⟩ := rfl
theorem dict_ev {p : Program} {w : World} {os : OsState} {b : List Stmt} : Ev p w 28 (some (.ref 6)) (Code.body b env1) fq [] 12524 (exec st14 env1) posK ⟨absHeap (U14 w.params) 219 {}, #[], {}, 567, os⟩ .next (nmPos st14) ⟨absHeap (T15 w.params) 258 {}, #[], {}, 2518, os⟩ := by
  have hs : 28 ≤ (absHeap (U14 w.params) 219 {}).objs.size := Nat.le_trans (by decide) (Nat.le_of_eq (size14 w.params).symm)
  have e := ev_st14 (p := p) (w := w) (code := Code.body b env1) (f := fq) (B := []) (pos := posK) (h := absHeap (U14 w.params) 219 {}) (g := #[]) (dr := {}) (os := os) (ho14 w.params) (mn_ref w.params) hs
  rw [size14, heap15] at e
  exact e
theorem dict_go {p : Program} {w : World} {os : OsState} {b : List Stmt} {N : Nat} {r : Shared}
    (k : topRun treeTable p w 28 (some (.ref 6)) N (SharedT.abs ⟨T15 w.params, 258, {}, #[], {}, 2518, os⟩) (restOf tail15 env1 (Code.body b env1) (nmPos st14) [fq]) = some r) :
    topRun treeTable p w 28 (some (.ref 6)) (12524 + N) (SharedT.abs ⟨U14 w.params, 219, {}, #[], {}, 567, os⟩) (restOf (st14 :: tail15) env1 (Code.body b env1) posK [fq]) = some r := by
  rw [abs_mk] at k ⊢
  exact go_stmt dict_ev k
end Mine
end
section
open PySem PySem.W PyProof.Rows
set_option Elab.async false
set_option maxRecDepth 100000
set_option maxHeartbeats 0
namespace Mine
noncomputable def posE : Pos := ⟨197, 0, 217, 51⟩
noncomputable def mnT (P : Params) : Obj := ⟨(.type "dict"), .none, (.dict #[ent P "__name__" 165 (.str (S "law_tc0084_01") 2533), ent P "__doc__" 166 .none, ent P "__package__" 167 .none, ent P "__loader__" 168 (.builtin "__main__.__loader__#opaque"), ent P "__spec__" 169 .none, ent P "__annotations__" 170 (.ref 6), ent P "__builtins__" 171 (.ref 4), ent P "__file__" 173 (.str (S "/claim/cut.py") 172), ent P "__cached__" 174 .none, ent P "_sre" 275 (.ref 12), ent P "_wall" 288 (.ref 38), ent P "_MAX_STRING_SIZE" 292 (.int 40 291), ent P "_MOVE_COST" 294 (.int 2 293), ent P "_CASE_COST" 296 (.int 1 295), ent P "_substitution_cost" 304 (.ref 45), ent P "_levenshtein_distance" 324 (.ref 52), ent P "_twin_re_1" 354 (.ref 57), ent P "NL" 356 (.str (S "\n") 355), ent P "EMPTYSTRING" 358 (.str (S "") 357), ent P "_ValueFormatter" 468 (.ref 130), ent P "_Accumulator" 564 (.ref 214), ent P "b3_exceptions" 2517 (.ref 219), ent P "map_table_b3" 2525 (.ref 264), ent P "in_table_c11" 2532 (.ref 271), ent P "_law_typed" 2544 (.ref 278), ent P "_law_rows" 2550 (.ref 283), ent P "_law_told" 2556 (.ref 288), ent P "_law_fewest" 2565 (.ref 295), ent P "_law_rests" 2574 (.ref 302), ent P "law" 2580 (.ref 307)] 30), #[]⟩
noncomputable def csT : Obj := ⟨.none, .none, (.fields #[(.int 2 0), (.int 0 0), (.ref 37), (.int 9 0), (.int 0 0), (.ref 44), (.int 15 0), (.int 0 0), (.ref 51), (.int 57 0), (.int 0 0), (.ref 63), (.int 129 0), (.int 0 0), (.ref 141), (.int 167 0), (.int 0 0), (.ref 263), (.int 172 0), (.int 0 0), (.ref 270), (.int 175 0), (.int 0 0), (.ref 277), (.int 178 0), (.int 0 0), (.ref 282), (.int 183 0), (.int 0 0), (.ref 287), (.int 186 0), (.int 0 0), (.ref 294), (.int 191 0), (.int 0 0), (.ref 301), (.int 197 0), (.int 0 0), (.ref 306)]), #[]⟩
noncomputable def nwT0 (P : Params) : List Obj := [
  ⟨(.type "tuple"), .none, (.seq #[] 0), #[]⟩,
  ⟨.none, .none, (.fields #[]), #[]⟩,
  ⟨(.type "tuple"), .none, (.seq #[(.str (S "code") 2521), (.str (S "r") 2522)] 0), #[]⟩,
  ⟨(.type "tuple"), .none, (.seq #[] 0), #[]⟩,
  ⟨.none, .none, (.func (fnA (stA 15) (S "map_table_b3") (S "map_table_b3") 0 [] .none .none .none .none .none .none .none 0)), #[]⟩,
  ⟨(.type "code"), .none, (.fields #[(.str (S "map_table_b3") 2518), (.str (S "map_table_b3") 2519), (.str (S "/claim/cut.py") 2520), (.int 167 0), (.int 1 0), (.int 0 0), (.int 0 0), (.int 3 0), (.ref 258), (.bool true), (.int 276 0), (.ref 259), .none, (.ref 260), (.ref 261), (.ref 262), (.int 2523 0), (.int 167 0), (.str (S "/claim/cut.py") 2524)]), #[]⟩,
  ⟨(.type "function"), .none, (.func (fnA (stA 15) (S "map_table_b3") (S "map_table_b3") 3 [] .none .none .none (.str (S "cpy313.stringprep") 565) .none (.ref 263) .none 0)), #[]⟩,
  ⟨(.type "tuple"), .none, (.seq #[] 0), #[]⟩,
  ⟨.none, .none, (.fields #[]), #[]⟩,
  ⟨(.type "tuple"), .none, (.seq #[(.str (S "code") 2529)] 0), #[]⟩,
  ⟨(.type "tuple"), .none, (.seq #[] 0), #[]⟩,
  ⟨.none, .none, (.func (fnA (stA 16) (S "in_table_c11") (S "in_table_c11") 0 [] .none .none .none .none .none .none .none 0)), #[]⟩,
  ⟨(.type "code"), .none, (.fields #[(.str (S "in_table_c11") 2526), (.str (S "in_table_c11") 2527), (.str (S "/claim/cut.py") 2528), (.int 172 0), (.int 1 0), (.int 0 0), (.int 0 0), (.int 3 0), (.ref 265), (.bool true), (.int 276 0), (.ref 266), .none, (.ref 267), (.ref 268), (.ref 269), (.int 2530 0), (.int 172 0), (.str (S "/claim/cut.py") 2531)]), #[]⟩,
  ⟨(.type "function"), .none, (.func (fnA (stA 16) (S "in_table_c11") (S "in_table_c11") 3 [] .none .none .none (.str (S "cpy313.stringprep") 565) .none (.ref 270) .none 0)), #[]⟩,
  ⟨(.type "tuple"), .none, (.seq #[] 0), #[]⟩,
  ⟨.none, .none, (.fields #[]), #[]⟩,
  ⟨(.type "tuple"), .none, (.seq #[(.str (S "spot") 2538), (.str (S "ring") 2539), (.str (S "numbers") 2540), (.str (S "form") 2541)] 0), #[]⟩,
  ⟨(.type "tuple"), .none, (.seq #[] 0), #[]⟩,
  ⟨.none, .none, (.func (fnA (stA 18) (S "_law_typed") (S "_law_typed") 0 [] .none .none .none .none .none .none .none 0)), #[]⟩,
  ⟨(.type "code"), .none, (.fields #[(.str (S "_law_typed") 2535), (.str (S "_law_typed") 2536), (.str (S "/claim/cut.py") 2537), (.int 175 0), (.int 3 0), (.int 0 0), (.int 0 0), (.int 3 0), (.ref 272), (.bool true), (.int 276 0), (.ref 273), .none, (.ref 274), (.ref 275), (.ref 276), (.int 2542 0), (.int 175 0), (.str (S "/claim/cut.py") 2543)]), #[]⟩,
  ⟨(.type "function"), .none, (.func (fnA (stA 18) (S "_law_typed") (S "_law_typed") 3 [] .none .none .none (.str (S "law_tc0084_01") 2533) .none (.ref 277) .none 0)), #[]⟩,
  ⟨(.type "tuple"), .none, (.seq #[] 0), #[]⟩,
  ⟨.none, .none, (.fields #[]), #[]⟩,
  ⟨.none, .none, (.func (fnA (stA 19) (S "_law_rows") (S "_law_rows") 0 [] .none .none .none .none .none .none .none 0)), #[]⟩,
  ⟨(.type "code"), .none, (.fields #[(.str (S "_law_rows") 2545), (.str (S "_law_rows") 2546), (.str (S "/claim/cut.py") 2547), (.int 178 0), (.int 5 0), (.int 0 0), (.int 0 0), (.int 3 0), (.ref 279), (.bool true), (.int 276 0), (.ref 280), .none, .none, .none, (.ref 281), (.int 2548 0), (.int 178 0), (.str (S "/claim/cut.py") 2549)]), #[]⟩,
  ⟨(.type "function"), .none, (.func (fnA (stA 19) (S "_law_rows") (S "_law_rows") 3 [] .none .none .none (.str (S "law_tc0084_01") 2533) .none (.ref 282) .none 0)), #[]⟩,
  ⟨(.type "tuple"), .none, (.seq #[] 0), #[]⟩,
  ⟨.none, .none, (.fields #[]), #[]⟩,
  ⟨.none, .none, (.func (fnA (stA 20) (S "_law_told") (S "_law_told") 0 [] .none .none .none .none .none .none .none 0)), #[]⟩,
  ⟨(.type "code"), .none, (.fields #[(.str (S "_law_told") 2551), (.str (S "_law_told") 2552), (.str (S "/claim/cut.py") 2553), (.int 183 0), (.int 4 0), (.int 0 0), (.int 0 0), (.int 3 0), (.ref 284), (.bool true), (.int 276 0), (.ref 285), .none, .none, .none, (.ref 286), (.int 2554 0), (.int 183 0), (.str (S "/claim/cut.py") 2555)]), #[]⟩]
noncomputable def nwT1 (P : Params) : List Obj := [
  ⟨(.type "function"), .none, (.func (fnA (stA 20) (S "_law_told") (S "_law_told") 3 [] .none .none .none (.str (S "law_tc0084_01") 2533) .none (.ref 287) .none 0)), #[]⟩,
  ⟨(.type "tuple"), .none, (.seq #[] 0), #[]⟩,
  ⟨.none, .none, (.fields #[]), #[]⟩,
  ⟨(.type "tuple"), .none, (.seq #[(.str (S "size") 2560), (.str (S "ring") 2561), (.str (S "rest") 2562)] 0), #[]⟩,
  ⟨(.type "tuple"), .none, (.seq #[] 0), #[]⟩,
  ⟨.none, .none, (.func (fnA (stA 21) (S "_law_fewest") (S "_law_fewest") 0 [] .none .none .none .none .none .none .none 0)), #[]⟩,
  ⟨(.type "code"), .none, (.fields #[(.str (S "_law_fewest") 2557), (.str (S "_law_fewest") 2558), (.str (S "/claim/cut.py") 2559), (.int 186 0), (.int 2 0), (.int 0 0), (.int 0 0), (.int 3 0), (.ref 289), (.bool true), (.int 276 0), (.ref 290), .none, (.ref 291), (.ref 292), (.ref 293), (.int 2563 0), (.int 186 0), (.str (S "/claim/cut.py") 2564)]), #[]⟩,
  ⟨(.type "function"), .none, (.func (fnA (stA 21) (S "_law_fewest") (S "_law_fewest") 3 [] .none .none .none (.str (S "law_tc0084_01") 2533) .none (.ref 294) .none 0)), #[]⟩,
  ⟨(.type "tuple"), .none, (.seq #[] 0), #[]⟩,
  ⟨.none, .none, (.fields #[]), #[]⟩,
  ⟨(.type "tuple"), .none, (.seq #[(.str (S "size") 2569), (.str (S "ring") 2570), (.str (S "found") 2571)] 0), #[]⟩,
  ⟨(.type "tuple"), .none, (.seq #[] 0), #[]⟩,
  ⟨.none, .none, (.func (fnA (stA 22) (S "_law_rests") (S "_law_rests") 0 [] .none .none .none .none .none .none .none 0)), #[]⟩,
  ⟨(.type "code"), .none, (.fields #[(.str (S "_law_rests") 2566), (.str (S "_law_rests") 2567), (.str (S "/claim/cut.py") 2568), (.int 191 0), (.int 2 0), (.int 0 0), (.int 0 0), (.int 3 0), (.ref 296), (.bool true), (.int 276 0), (.ref 297), .none, (.ref 298), (.ref 299), (.ref 300), (.int 2572 0), (.int 191 0), (.str (S "/claim/cut.py") 2573)]), #[]⟩,
  ⟨(.type "function"), .none, (.func (fnA (stA 22) (S "_law_rests") (S "_law_rests") 3 [] .none .none .none (.str (S "law_tc0084_01") 2533) .none (.ref 301) .none 0)), #[]⟩,
  ⟨(.type "tuple"), .none, (.seq #[] 0), #[]⟩,
  ⟨.none, .none, (.fields #[]), #[]⟩,
  ⟨.none, .none, (.func (fnA (stA 23) (S "law") (S "law") 0 [] .none .none .none .none .none .none .none 0)), #[]⟩,
  ⟨(.type "code"), .none, (.fields #[(.str (S "law") 2575), (.str (S "law") 2576), (.str (S "/claim/cut.py") 2577), (.int 197 0), (.int 1 0), (.int 0 0), (.int 0 0), (.int 3 0), (.ref 303), (.bool true), (.int 276 0), (.ref 304), .none, .none, .none, (.ref 305), (.int 2578 0), (.int 197 0), (.str (S "/claim/cut.py") 2579)]), #[]⟩,
  ⟨(.type "function"), .none, (.func (fnA (stA 23) (S "law") (S "law") 3 [] .none .none .none (.str (S "law_tc0084_01") 2533) .none (.ref 306) .none 0)), #[]⟩]
noncomputable def T25 (P : Params) : BT := insAll (((T15 P).set 3 fun _ => mnT P).set 29 fun _ => csT) 258 (nwT0 P ++ nwT1 P)
theorem run25 (p : Program) (f : Source → Nat → Nat) (P : Params) (os : OsState) (b : List Stmt) (q : Pos) : RG p ⟨f, P⟩ os b 300 (T15 P) 258 2518 tail15 q = some (.next, (⟨T25 P, 308, {}, #[], {}, 2581, os⟩ : SharedT), Code.body b env1, posE) := by kernel_rfl
theorem run_of {f f' : (String → Option Builtin) → Program → World → Nat → Option Value → Nat → Nat → SharedT → Thread → Option (Flow × SharedT × Code × Pos)} (ef : f = f') {p : Program} {w : World} {v : Option Value} {n m : Nat} {S S' : SharedT} {t : Thread} {c : Code} {q : Pos}
    (e : f' treeTable p w 28 v 1 n S t = some (.next, S', c, q)) : f treeTable p w 28 v 1 n S t = some (.next, S', c, q) := by
  subst ef; exact e
theorem segA (p : Program) (w : World) (os : OsState) (b : List Stmt) : segRunT treeTable p w 28 (some (.ref 6)) 1 250 (⟨B32 w.params, 32, {}, #[], {}, 282, os⟩ : SharedT) (piecesOf stsA env1 (Code.body b env1) ⟨0, 0, 0, 0⟩ [fq]) = some (.next, ⟨ZA w.params, 58, {}, #[], {}, 359, os⟩, Code.body b env1, posA) := by
  obtain ⟨f, P⟩ := w
  exact run_of PySem.W.Fast.te10110043849684766642 (m := 0) (runA p f P os b)
theorem segB (p : Program) (w : World) (os : OsState) (b : List Stmt) : segRunT treeTable p w 28 (some (.ref 6)) 1 510 (⟨ZA w.params, 58, {}, #[], {}, 359, os⟩ : SharedT) (piecesOf stsB env1 (Code.body b env1) posA [fq]) = some (.next, ⟨ZB w.params, 135, {}, #[], {}, 469, os⟩, Code.body b env1, posB) := by
  obtain ⟨f, P⟩ := w
  exact run_of PySem.W.Fast.te10110043849684766642 (m := 0) (runB p f P os b)
theorem segC (p : Program) (w : World) (os : OsState) (b : List Stmt) : segRunT treeTable p w 28 (some (.ref 6)) 1 540 (⟨ZB w.params, 135, {}, #[], {}, 469, os⟩ : SharedT) (piecesOf stsC env1 (Code.body b env1) posB [fq]) = some (.next, ⟨U14 w.params, 219, {}, #[], {}, 567, os⟩, Code.body b env1, posK) := by
  obtain ⟨f, P⟩ := w
  exact run_of PySem.W.Fast.te10110043849684766642 (m := 0) (runC p f P os b)
theorem seg25 (p : Program) (w : World) (os : OsState) (b : List Stmt) (q : Pos) : segRunT treeTable p w 28 (some (.ref 6)) 1 300 (⟨T15 w.params, 258, {}, #[], {}, 2518, os⟩ : SharedT) (piecesOf tail15 env1 (Code.body b env1) q [fq]) = some (.next, ⟨T25 w.params, 308, {}, #[], {}, 2581, os⟩, Code.body b env1, posE) := by
  obtain ⟨f, P⟩ := w
  exact run_of PySem.W.Fast.te10110043849684766642 (m := 0) (run25 p f P os b q)
end Mine
end
section
open PySem PySem.W PyProof.Rows
set_option Elab.async false
set_option maxRecDepth 100000
set_option maxHeartbeats 0
namespace Mine
noncomputable def H1 (P : Params) : Heap := absHeap (T25 P) 308 {}
theorem tail_abs {p : Program} {w : World} {tl rs : List Stmt} {en : Env} {c : Code} {q q' : Pos} {S S' r : Shared} {n N : Nat} (e : segRun treeTable p w 28 (some (.ref 6)) 1 n S (piecesOf tl en c q [fq]) = some (.next, S', c, q'))
    (k : topRun treeTable p w 28 (some (.ref 6)) N S' (restOf rs en c q' [fq]) = some r) : topRun treeTable p w 28 (some (.ref 6)) (n + N) S (restOf (tl ++ rs) en c q [fq]) = some r := piece_app e k
theorem fin_abs {p : Program} {w : World} {S : Shared} {c : Code} {q : Pos} : topRun treeTable p w 28 (some (.ref 6)) 2 S ⟨doneF .next, c, q, [fq]⟩ = some S := by
  obtain ⟨h, g, d, t, os⟩ := S
  rfl
theorem tail_go {p : Program} {w : World} {os : OsState} {b : List Stmt} {q : Pos} : topRun treeTable p w 28 (some (.ref 6)) (300 + 2) (SharedT.abs ⟨T15 w.params, 258, {}, #[], {}, 2518, os⟩) (restOf tail15 env1 (Code.body b env1) q [fq]) = some (SharedT.abs ⟨T25 w.params, 308, {}, #[], {}, 2581, os⟩) := by
  have e := tail_abs (rs := []) (segRun_of (seg25 p w os b q)) (piece_nil fin_abs)
  rw [List.append_nil] at e
  exact e
/-- from Sb to the end -/
theorem all_go {p : Program} {w : World} {os : OsState} {b bd : List Stmt} (hb : stsA ++ (stsB ++ (stsC ++ (st14 :: tail15))) = bd) : topRun treeTable p w 28 (some (.ref 6)) (250 + (510 + (540 + (12524 + (300 + 2)))))
    (SharedT.abs ⟨B32 w.params, 32, {}, #[], {}, 282, os⟩) (restOf bd env1 (Code.body b env1) ⟨0, 0, 0, 0⟩ [fq]) = some (SharedT.abs ⟨T25 w.params, 308, {}, #[], {}, 2581, os⟩) :=
  hb ▸ tail_abs (segRun_of (segA p w os b)) (tail_abs (segRun_of (segB p w os b)) (tail_abs (segRun_of (segC p w os b)) (dict_go tail_go)))
theorem block_is (p : Program) (w : World) (S : Shared) : segRun treeTable p w 28 (some (.ref 6)) 1 1 S (blockOf (behindTheImports pw) env1 (Code.body (behindTheImports pw) env1) ⟨0, 0, 0, 0⟩ [fq]) = some (.next, S, Code.body (behindTheImports pw) env1, ⟨0, 0, 0, 0⟩) := by
  kernel_rfl
theorem pre_is (w : World) (os : OsState) : topGo treeTable pw w 28 (some (.ref 6)) 12 ⟨H0 w.params, #[], {}, 276, os⟩ (topStub pw) = some (SharedT.abs ⟨B32 w.params, 32, {}, #[], {}, 282, os⟩, ⟨denote treeTable (.body (behindTheImports pw) env1), Code.body (behindTheImports pw) env1, ⟨0, 0, 0, 0⟩, [fq]⟩) := by
  kernel_rfl
theorem comp {p : Program} {w : World} {S0 Sb Se : Shared} {t0 : Thread} {b : List Stmt} {en : Env} {m : Nat} (h1 : topGo treeTable p w 28 (some (.ref 6)) 12 S0 t0 = some (Sb, ⟨denote treeTable (.body b en), Code.body b en, ⟨0, 0, 0, 0⟩, [fq]⟩))
    (h2 : segRun treeTable p w 28 (some (.ref 6)) 1 1 Sb (blockOf b en (Code.body b en) ⟨0, 0, 0, 0⟩ [fq]) = some (.next, Sb, Code.body b en, ⟨0, 0, 0, 0⟩))
    (h3 : topRun treeTable p w 28 (some (.ref 6)) m Sb (restOf b en (Code.body b en) ⟨0, 0, 0, 0⟩ [fq]) = some Se) : topRun treeTable p w 28 (some (.ref 6)) (12 + (1 + m)) S0 t0 = some Se :=
  go_top h1 (piece_block h2 h3)
noncomputable abbrev mAll : Nat := 250 + (510 + (540 + (12524 + (300 + 2))))
theorem run_T (w : World) (os : OsState) : topRun treeTable pw w 28 (some (.ref 6)) (12 + (1 + mAll)) ⟨H0 w.params, #[], {}, 276, os⟩ (topStub pw) = some (SharedT.abs ⟨T25 w.params, 308, {}, #[], {}, 2581, os⟩) :=
  comp (Sb := SharedT.abs ⟨B32 w.params, 32, {}, #[], {}, 282, os⟩) (b := behindTheImports pw) (en := env1) (m := mAll) (pre_is w os) (block_is pw w (SharedT.abs ⟨B32 w.params, 32, {}, #[], {}, 282, os⟩)) (all_go (p := pw) (w := w) (os := os) (b := behindTheImports pw) body_is)
theorem run_all (w : World) (os : OsState) : topRun treeTable pw w 28 (some (.ref 6)) (12 + (1 + mAll)) ⟨H0 w.params, #[], {}, 276, os⟩ (topStub pw) = some ⟨H1 w.params, #[], {}, 2581, os⟩ := by
  have e := run_T w os
  rw [abs_mk] at e
  exact e
theorem size_is (w : World) : ((H0 w.params).isNs mainGlobals && (#[] : Array GenState).size == 0, (H0 w.params).objs.size, (H0 w.params).nsMap mainGlobals "__annotations__") = (true, 28, some (.ref 6)) := by
  kernel_rfl
theorem open_is (w : World) : (fencedOpening treeTable pw w 28140).map (fun s => (s.heap, s.gens, s.drawn, s.toks)) = some (H0 w.params, #[], {}, 276) := by
  unfold fencedOpening
  rw [PySem.W.Fast.te10274390034422433532, PySem.W.Fast.te14289696077712309145, PySem.W.Fast.te1435165496053646825]
  kernel_rfl
end Mine
end
section
open PySem PySem.W PyProof.Rows
set_option Elab.async false
set_option maxRecDepth 100000
set_option maxHeartbeats 0
namespace Mine
/-- the keys of an int table go up -/
noncomputable def keysUp : Int → List (PyData × PyData) → Bool
  | _, [] => true
  | j, (.int k, _) :: D => decide (j < k) && keysUp k D
  | _, _ => false
noncomputable def keysUp0 : List (PyData × PyData) → Bool
  | [] => true
  | (.int k, _) :: D => keysUp k D
  | _ => false
theorem hasIntKey_up : ∀ {D : List (PyData × PyData)} {j k : Int}, k ≤ j → keysUp j D = true → hasIntKey k D = false
  | [], _, _, _, _ => rfl
  | (.int i, _) :: D, j, k, h, e => by
    simp only [keysUp, Bool.and_eq_true, decide_eq_true_eq] at e
    simp only [hasIntKey, Bool.or_eq_false_iff, beq_eq_false_iff_ne]
    exact ⟨by lia, hasIntKey_up (by lia) e.2⟩
  | (.none, _) :: _, _, _, _, e | (.bool _, _) :: _, _, _, _, e | (.str _, _) :: _, _, _, _, e | (.list _, _) :: _, _, _, _, e | (.tuple _, _) :: _, _, _, _, e | (.dict _, _) :: _, _, _, _, e => by simp [keysUp] at e
theorem apart_up : ∀ {D : List (PyData × PyData)} {j : Int}, keysUp j D = true → keysApartInt D = true
  | [], _, _ => rfl
  | (.int i, _) :: D, j, e => by
    simp only [keysUp, Bool.and_eq_true, decide_eq_true_eq] at e
    simp only [keysApartInt, Bool.and_eq_true, Bool.not_eq_true']
    exact ⟨hasIntKey_up (Int.le_refl _) e.2, apart_up e.2⟩
  | (.none, _) :: _, _, e | (.bool _, _) :: _, _, e | (.str _, _) :: _, _, e | (.list _, _) :: _, _, e | (.tuple _, _) :: _, _, e | (.dict _, _) :: _, _, e => by simp [keysUp] at e
theorem apart_up0 : ∀ {D : List (PyData × PyData)}, keysUp0 D = true → keysApartInt D = true
  | [], _ => rfl
  | (.int i, _) :: D, e => by
    simp only [keysApartInt, Bool.and_eq_true, Bool.not_eq_true']
    exact ⟨hasIntKey_up (Int.le_refl _) e, apart_up e⟩
  | (.none, _) :: _, e | (.bool _, _) :: _, e | (.str _, _) :: _, e | (.list _, _) :: _, e | (.tuple _, _) :: _, e | (.dict _, _) :: _, e => by simp [keysUp0] at e
end Mine
end
section
open PySem PySem.W PyProof.Rows
set_option Elab.async false
set_option maxRecDepth 100000
set_option maxHeartbeats 0
namespace Mine
noncomputable def tabPs (L : List (Int × Str)) : List (PyData × PyData) := L.map fun x => (.int x.1, .str x.2)
theorem flat_self (x : Str) (t : Nat) : flatIs (.str x t) (.str x) = true := by simp [flatIs]
theorem ents_ok : ∀ (L : List (Int × Str)) (T : Nat) (es : List DictEntry) (D : List (PyData × PyData)), entriesAreInt es D = true → entriesAreInt (ents T L ++ es) (tabPs L ++ D) = true
  | [], _, _, _, h => h
  | x :: L, T, es, D, h => by
    have ih := ents_ok L (T + 3) es D h
    show entriesAreInt (⟨hashInt x.1, .int x.1 T, .str x.2 (T + 1)⟩ :: (ents (T + 3) L ++ es)) ((.int x.1, .str x.2) :: (tabPs L ++ D)) = true
    simp only [entriesAreInt, ih, flat_self, beq_self_eq_true, Bool.and_self]
theorem entsV_ok : ∀ (L : List (Int × Str)) (T : Nat), entriesAreInt (entsV T L) (tabPs L) = true
  | [], _ => rfl
  | x :: L, T => by
    have ih := entsV_ok L (T + 2)
    show entriesAreInt (⟨hashInt x.1, .int x.1 T, .str x.2 (T + 1)⟩ :: entsV (T + 2) L) ((.int x.1, .str x.2) :: tabPs L) = true
    simp only [entriesAreInt, ih, flat_self, beq_self_eq_true, Bool.and_self]
theorem entC_ok : ∀ (Cs : List (List (Int × Str))) (T : Nat) (es : List DictEntry) (D : List (PyData × PyData)), entriesAreInt es D = true → entriesAreInt (entC T Cs ++ es) (tabPs Cs.flatten ++ D) = true
  | [], _, _, _, h => h
  | c :: r, T, es, D, h => by
    rw [entC, List.flatten_cons, tabPs, List.map_append, List.append_assoc, List.append_assoc]
    exact ents_ok c T _ _ (entC_ok r _ es D h)
noncomputable def mainEs : Array DictEntry := mainL.toArray
theorem main_ok : entriesAreInt mainEs.toList (tabPs thePairs) = true := by
  rw [pairs_split, mainEs, mainL, tabPs, List.map_append]
  refine ents_ok _ _ _ _ ?_
  rw [List.map_append]
  exact entC_ok _ _ _ _ (entsV_ok _ _)
theorem keys_up : keysUp0 (tabPs thePairs) = true := by kernel_rfl
theorem tab_is : topPairs? (keysE st14) (valsE st14) = some (tabPs thePairs) := by kernel_rfl
noncomputable def isTab (s : Stmt) : Bool := (dictSt s).isSome
theorem no_some {α : Type} {x : α} {p : Prop} (e : none = some x) : p := nomatch e
theorem tab_of {x : Str} {st : Stmt} {D : List (PyData × PyData)} (e : tabIntAt x st = some D) : isTab st = true := by
  cases st with
  | Assign ts v p =>
    cases ts with
    | nil => exact no_some e
    | cons a r => cases a with
      | Name y q => cases r with
        | cons _ _ => exact no_some e
        | nil => cases v with
          | Dict ks vs dq => rfl
          | _ => exact no_some e
      | _ => exact no_some e
  | _ => exact no_some e
theorem tab_at {x : Str} {D : List (PyData × PyData)} (e : tabIntAt x st14 = some D) : D = tabPs thePairs := by
  rw [st14_is] at e
  unfold tabIntAt at e
  dsimp only at e
  split at e
  · rw [tab_is] at e; exact (Option.some.inj e).symm
  · cases e
noncomputable def tablesQ (p : Program) (h : Heap) : Bool := (valNames p).all fun x =>
  (match tupIntsOf p x with | some ns => h.tupIntsOk x ns | none => true) &&
  (match tupStrsOf p x with | some ss => h.tupStrsOk x ss | none => true) &&
  (match tabIntOf p x with | some _ => (match h.nsMap mainGlobals x with | some (.ref a) => Nat.beq a 219 | _ => false) | none => true)
theorem tab219 {h : Heap} {x : Str} (e : (match h.nsMap mainGlobals x with | some (.ref a) => Nat.beq a 219 | _ => false) = true) : h.nsMap mainGlobals x = some (.ref 219) := by
  split at e
  · rename_i a ha; rw [ha, Nat.eq_of_beq_eq_true e]
  · cases e
theorem tablesQ_ok {p : Program} {h : Heap} (e : tablesQ p h = true) (hg : h.get? 219 = some mainD) (hf : p.main.body.filter isTab = [st14]) : tablesOk p h = true := by
  unfold tablesQ at e
  unfold tablesOk
  rw [List.all_eq_true] at e ⊢
  intro x hx
  have := e x hx
  simp only [Bool.and_eq_true] at this ⊢
  refine ⟨this.1, ?_⟩
  have t := this.2
  split
  · rename_i D hD
    rw [hD] at t
    have hr := tab219 t
    obtain ⟨st, hst, hs⟩ := List.exists_of_findSome?_eq_some hD
    have hm : st ∈ p.main.body.filter isTab := List.mem_filter.mpr ⟨hst, tab_of hs⟩
    rw [hf] at hm
    rw [List.mem_singleton.mp hm] at hs
    rw [tab_at hs]
    unfold Heap.tabIntOk
    rw [hr]
    simp only [hg]
    show (("dict" == "dict") && (_ == 0) && entriesAreInt mainEs.toList (tabPs thePairs) && keysApartInt (tabPs thePairs) && _) = true
    rw [main_ok, apart_up0 keys_up]
    rfl
  · rfl
end Mine
end
section
open PySem PySem.W PyProof.Rows
set_option Elab.async false
set_option maxRecDepth 100000
set_option maxHeartbeats 0
namespace Mine
noncomputable def blk.tw4375675374256712416 : Program := PySem.Challenge.pw_tc0084_01
theorem blk.te4375675374256712416 : PySem.Challenge.pw_tc0084_01 = blk.tw4375675374256712416 := rfl
set_option Elab.async true in
theorem blk : (fun (_ : Program) => true) PySem.Challenge.pw_tc0084_01 = true := by k_qdec
end Mine
namespace Mine
structure Marker : Prop where
theorem trick {G : Prop} {p q : Program} {lo : List Str} {xt : Shared → Bool} {α : Type} {yf : Shared → α} {ya : World → α} {n : Nat} (mn : Marker → G) (hl : LeftO p q lo xt yf ya n) : G := let _ := hl; mn ⟨⟩
structure Marker2 : Prop where
end Mine
namespace Mine
theorem lines_HbP : True := by
  k_with "m9:oh" => (fail_if_success (have : Mine.Marker2 := by assumption)); (have mk8 : Mine.Marker2 := ⟨⟩)
  k_with "m9:head" => ((fail_if_success (have : Mine.Marker := by assumption)); apply Mine.trick; (case' mn => (intro mk9; k_head)); (case hl => (refine LeftO.of_pieces (H₀ := Mine.H0) (H₁ := Mine.H1) (M := 12 + (1 + Mine.mAll)) Mine.open_is Mine.size_is Mine.run_all (by decide +kernel) ?lk; (intro w; funext os; refine looks_pair ?z1 (looks_pair ?z2 ?z3); (case z1 => kernel_rfl); (case z3 => kernel_rfl); (case z2 => (unfold openSeen openGood; refine looks_pair ?y1 (looks_pair ?y2 (looks_pair ?y3 (looks_pair ?y4 (looks_pair ?y5 (looks_pair ?y6 (looks_pair ?y7 (looks_pair ?y8 ?y9))))))); (case y1 => kernel_rfl); (case y2 => kernel_rfl); (case y4 => kernel_rfl); (case y5 => kernel_rfl); (case y6 => kernel_rfl); (case y7 => kernel_rfl); (case y8 => kernel_rfl); (case y9 => kernel_rfl); (case y3 => (refine look_both (look_both (look_both (look_both (look_both (look_both ?x1 ?x2) ?x3) ?x4) ?x5) ?x6) ?x7; (case x1 => ( (rw [PySem.W.Fast.te10880121769531294198]; kernel_rfl))); (case x2 => ( (rw [PySem.W.Fast.te14722251495701143533]; kernel_rfl))); (case x5 => exact Mine.tablesQ_ok (by kernel_rfl) (by kernel_rfl) (by kernel_rfl)); (case x3 => kernel_rfl); (case x4 => kernel_rfl); (case x6 => kernel_rfl); (case x7 => kernel_rfl)))))))))
  trivial
end Mine
local macro_rules | `(tactic| o_head ($_:ident $k $a $e)) => `(tactic| (k_extra "m9:oh"; o_head (kmHook $k $a $e [176, 183])))
local macro_rules | `(tactic| k_head) => `(tactic| k_extra "m9:head")
open_top Mine.hd for PySem.Challenge.rw_tc0084_01
end
section
open PySem PySem.W PyProof.Rows PySem.Calls
set_option Elab.async false
set_option maxRecDepth 100000
set_option maxHeartbeats 0
namespace Mine
noncomputable abbrev pr : Program := PySem.Challenge.rw_tc0084_01.row.prog
noncomputable abbrev ls0 : List Str := looseW Mine.hd.view_39 [Str.ofString "_twin_re_1", Str.ofString "_Accumulator", Str.ofString "b3_exceptions"]
noncomputable abbrev lsV : List Str := ls0 ++ (recsOf Mine.hd.view_39).map (·.name) ++ (litsOf Mine.hd.view_39).map (·.1) ++ (clssOf Mine.hd.view_39 ls0).map (·.name)
/-- the contract of a def of the text (f): called upon vs with the ledger news, what it needs behind it (K: of a new state) -/
noncomputable abbrev Con (d u : Nat) (w : World) (mean : ExcName → Option Value) (mg mb : Str → Option Value) (f : Addr) (news : List (Addr × Obj)) (vs : List Value) (R : Heap → Addr → (Str → Option Value) → Shared → (Value → Shared → Prop) → Prop) : Prop :=
  ∀ (dp un : Nat) (gd : Option (List Code)) (cn : Str) (cs : Scope) (a : Addr) (ccd : Value) (cl : List (Str × Addr)) (outer : List Env) (A₀ : Around) (base h₀ : Heap) (L : Addr) (m : Str → Option Value) (s : Shared) (Q E : Value → Shared → Prop),
    Below A₀ base outer h₀ → Fr h₀ L s.heap m → (Mine.hd.heap_39 w.params).In h₀ → News h₀ L s.heap news → Top topProg lsV mean mg mb h₀ → cs.kind = .function →
      dp + d < recursionLimit → un + u < cLine → R h₀ L m s Q →
      wpAny (model pr w) (ktrTop dp un gd cn cs L a ccd cl outer) (call (.ref f) vs) Q E s
/-- what comes back is one flat value, the ledger is news' -/
noncomputable abbrev Gives (news : List (Addr × Obj)) (V : Tok → Value) (h₀ : Heap) (L : Addr) (m : Str → Option Value) (s : Shared) (Q : Value → Shared → Prop) : Prop :=
  ∀ (t : Tok) (h' : Heap) (tk' : Nat), Fr h₀ L h' m → News h₀ L h' news → Q (V t) { s with heap := h', toks := tk' }
end Mine
end
section
open PySem PySem.W PyProof.Rows PySem.Calls PySem.Spec
set_option Elab.async false
set_option maxRecDepth 100000
set_option maxHeartbeats 0
namespace Mine
/-- the law's end: True, the base kept, the two tables grown -/
noncomputable def EndG (tabs : List (Addr × Addr)) (s₁ : Shared) (r : Result) (s' : Shared) : Prop :=
  r = .ok (.ret (.bool true)) ∧ (∀ b o, (ghostOf s₁.heap tabs).get? b = some o → s'.heap.get? b = some o) ∧ s'.os = s₁.os ∧ AllBare s'.gens ∧ GrownAll tabs s'.heap
theorem end_post {M : Model} {A : Around} {cd : Code} {s s₁ : Shared} {cw : ClaimW} {cl : Str → Option Addr} {mean : ExcName → Option Value} {args : List WData} {tabs : List (Addr × Addr)} (hT : TabsAt tabs s₁.heap) (hr : ∀ a x, cw.raises a x = false) (hp : cw.post args (.bool true) args = true)
    (h : codeAny M A cd (fun r s' => EndG tabs s₁ r s') s) : codeAny M A cd (GoodWG cw cl mean args s₁) s :=
  codeAny_mono h fun r s' ⟨hc, hk, hos, hg, hgr⟩ => by
    have keep : ∀ b o, b ∉ tabs.map (·.2) → s₁.heap.get? b = some o → s'.heap.get? b = some o := fun b o hb e => hk b o (ghost_ne e hb)
    have grown : ∀ b o, b ∈ tabs.map (·.2) → s₁.heap.get? b = some o → isCodeTable s₁.heap b ∧ o = tabObj #[] ∧ ∃ ps, s'.heap.get? b = some (tabObj ps) := fun b o hb e => by
      obtain ⟨q, hq, rfl⟩ := List.mem_map.mp hb
      have e2 := (hT q hq).2
      rw [e] at e2
      exact ⟨((hT q hq).1.tab (hT q hq).2).isCodeTable, Option.some.inj e2, hgr.get q hq⟩
    refine ⟨.inl ⟨.bool true, .bool true, [], hc, hr _, .bool true, hp, fun _ => ⟨.nil, fun _ h => nomatch h⟩⟩, ⟨fun b o e => ?_, fun b o e => ?_⟩, hos, hg⟩
    · by_cases hb : b ∈ tabs.map (·.2)
      · obtain ⟨ht, rfl, ps, hP⟩ := grown b o hb e
        exact .inr (.inl ⟨ht, rfl, #[], ps, rfl, by rw [Array.empty_append]; exact hP⟩)
      · exact .inl (keep b o hb e)
    · by_cases hb : b ∈ tabs.map (·.2)
      · obtain ⟨_, _, ps, hP⟩ := grown b o hb e
        exact ⟨_, hP⟩
      · exact ⟨o, keep b o hb e⟩
structure Halt (p : Prop) : Prop where
  out : p
end Mine
end
local macro_rules | `(tactic| walk_at $s:str) => `(tactic| k_extra $(Lean.Syntax.mkStrLit ("m:" ++ s.getString)))
local macro_rules | `(tactic| k_room) => `(tactic| k_extra "m9:room")
local macro_rules | `(tactic| k_mem) => `(tactic| k_extra "m9:mem")
local macro_rules | `(tactic| k_inst) => `(tactic| k_extra "m9:inst")
local macro_rules | `(tactic| k_all) => `(tactic| k_extra "m9:all")
section
open PySem PySem.W PyProof.Rows PySem.Calls PySem.Spec
set_option Elab.async false
set_option maxRecDepth 100000
set_option maxHeartbeats 0
namespace Mine
theorem lines_SubA_1 : True := by
  w_top off
  k_with_none
  k_with "m9:room" => ktr_room
  k_with "m:eval Name" => dsimp only
  k_with "m:spliced" => dsimp only
  k_with "m:execs cons" => dsimp only
  k_with "m:eval Constant int" => dsimp only
  k_with "m:eval BinOp" => dsimp only
  k_with "m:execs nil" => dsimp only
  k_with "m:eval Call" => dsimp only
  k_with "m:storeName" => dsimp only
  k_with "m:exec Assign" => dsimp only
  k_with "m:callWith" => dsimp only
  k_with "m:eval Subscript" => dsimp only
  k_with "m:eval Call Attribute" => dsimp only
  k_with "m:evalPart none" => dsimp only
  k_with "m:truthy bool" => dsimp only
  k_with "m:callWith ref" => dsimp only
  k_with "m:call ref" => dsimp only
  k_with "m:isTrue Compare" => dsimp only
  k_with "m:getMethod ref" => dsimp only
  k_with "m:exec If" => dsimp only
  k_with "m:exec Return some" => dsimp only
  k_with "m:getAttr ref" => dsimp only
  k_with "m:eval Attribute Name" => dsimp only
  k_with "m:binaryOp Add int int" => dsimp only
  k_with "m:isTrue BoolOp" => dsimp only
  k_with "m:binaryOp Mod int int" => dsimp only
  k_with "m:subscriptTail Name Constant ref int" => dsimp only
  k_with "m:evalPart some" => dsimp only
  k_with "m:eval Slice" => dsimp only
  k_with "m:exec Expr" => dsimp only
  k_with "m:isTrue" => dsimp only
  k_with "m:eval Constant str" => dsimp only
  k_with "m:assignInOrder" => dsimp only
  k_with "m:call builtin:len" => dsimp only
  k_with "m:newTuple" => dsimp only
  k_with "m:eval Tuple" => dsimp only
  k_with "m:eval BoolOp" => dsimp only
  k_with "m:subscriptTail Name Slice str ref" => dsimp only
  k_with "m:getMethod str" => dsimp only
  k_with "m:setAttr ref" => dsimp only
  k_with "m:newList" => dsimp only
  k_with "m:eval List" => dsimp only
  k_with "m:binaryOp Mult int int" => dsimp only
  k_with "m:con_enter" => (refine wpAny_call ?_; k_dflt (first | cell_enter | (refine' code_defC ?k1Q8 ?k2Q8 ?k3Q8 ?k4Q8 ?k5Q8 ?kAQ8 ?kFQ8 ?kKQ8 ?k6Q8 ?k7Q8 ?k8Q8 ?k9Q8 ?kBQ8 ?kDQ8 ?_ ?c2Q8 ?c3Q8 ?c4Q8; (case kAQ8 => exact rfl); (case kFQ8 => exact rfl); (case kKQ8 => assumption); (case k1Q8 => k_asm); (case k2Q8 => k_asm); (case k3Q8 => k_asm); (case k4Q8 => k_asm); (case k5Q8 => k_asm); (case k6Q8 => k_is); (case k7Q8 => k_is); (case k8Q8 => ktr_room); (case k9Q8 => first | exact BindsTo.of_eq rfl | exact binds_K (by k_in) rfl (by k_is) rfl rfl rfl | fail "k_enter: no rule for these arguments"); (case kBQ8 => exact rfl); (case kDQ8 => decide +kernel); (case c2Q8 => exact rfl); (case c3Q8 => exact rfl); (case c4Q8 => exact rfl); k_whole; intro g'Q9 L'Q9 h'Q9 tk'Q9 cells'Q9 FG'Q9 F'Q9 N'Q9 Y'Q9 B'Q9 X'Q9 T'Q9 l1Q9; (try k_lt l1Q9); k_cells Y'Q9; (try simp only [List.cons_append, List.nil_append] at N'Q9); (try dsimp only); (try k_lift B'Q9); (try k_fold))))
  k_with "m:con_enterS" => (refine wpAny_call ?_; k_dflt (refine' code_defS ?k1Q8 ?k2Q8 ?k3Q8 ?k4Q8 ?k5Q8 ?kAQ8 ?kFQ8 ?kKQ8 ?k6Q8 ?k7Q8 ?k8Q8 ?k9Q8 ?kBQ8 ?_ ?c2Q8 ?c3Q8 ?c4Q8 ?c5Q8; (case kAQ8 => exact rfl); (case kFQ8 => exact rfl); (case kKQ8 => first | assumption | exact rfl); (case k1Q8 => k_asm); (case k2Q8 => k_asm); (case k3Q8 => k_asm); (case k4Q8 => k_asm); (case k5Q8 => k_asm); (case k6Q8 => k_is); (case k7Q8 => k_is); (case k8Q8 => ktr_room); (case k9Q8 => first | exact BindsTo.of_eq rfl | exact binds_K (by k_in) rfl (by k_is) rfl rfl rfl); (case c5Q8 => decide); (case kBQ8 => exact locs rfl); (case c2Q8 => exact rfl); (case c3Q8 => exact rfl); (case c4Q8 => exact rfl); k_whole; intro g'Q9 L'Q9 h'Q9 FG'Q9 F'Q9 N'Q9 B'Q9 X'Q9 T'Q9 l1Q9; (try dsimp only); (try k_lift B'Q9); (try k_fold)))
  k_with "m:con_enterT" => (k_dflt (refine' code_defS ?k1Q8 ?k2Q8 ?k3Q8 ?k4Q8 ?k5Q8 ?kAQ8 ?kFQ8 ?kKQ8 ?k6Q8 ?k7Q8 ?k8Q8 ?k9Q8 ?kBQ8 ?_ ?c2Q8 ?c3Q8 ?c4Q8 ?c5Q8; (case kAQ8 => exact rfl); (case kFQ8 => exact rfl); (case kKQ8 => first | assumption | exact rfl); (case k1Q8 => k_asm); (case k2Q8 => k_asm); (case k3Q8 => k_asm); (case k4Q8 => k_asm); (case k5Q8 => k_asm); (case k6Q8 => k_is); (case k7Q8 => k_is); (case k8Q8 => ktr_room); (case k9Q8 => first | exact BindsTo.of_eq rfl | exact binds_K (by k_in) rfl (by k_is) rfl rfl rfl); (case c5Q8 => decide); (case kBQ8 => exact locs rfl); (case c2Q8 => exact rfl); (case c3Q8 => exact rfl); (case c4Q8 => exact rfl); k_whole; intro g'Q9 L'Q9 h'Q9 FG'Q9 F'Q9 N'Q9 B'Q9 X'Q9 T'Q9 l1Q9; (try dsimp only); (try k_lift B'Q9); (try k_fold)))
  trivial
theorem rangeAll {n : Nat} {p : Nat → Bool} (h : (List.range n).all p = true) : ∀ j, j < n → p j = true := fun j hj => List.all_eq_true.mp h j (List.mem_range.mpr hj)
theorem lowS (j : Nat) (hj : j < 26) : Txt.lower ⟨#[97 + j]⟩ = ⟨#[97 + j]⟩ := beq_iff_eq.mp (rangeAll (p := fun j => Txt.lower ⟨#[97 + j]⟩ == ⟨#[97 + j]⟩) (by kernel_rfl) j hj)
theorem lowOk (j : Nat) (hj : j < 26) : Builtin.Str.tooLong (Txt.lower ⟨#[97 + j]⟩).length = false := by rw [lowS j hj]; rfl
theorem str1 {i j : Nat} : ((⟨#[i]⟩ : Str) == ⟨#[j]⟩) = decide (i = j) := by
  by_cases h : i = j
  · subst h; simp
  · rw [decide_eq_false h]
    refine beq_eq_false_iff_ne.mpr fun e => h ?_
    injection e with e
    injection e with e
    injection e
theorem lines_SubA_2 : True := by
  k_with "m:call builtin:str.lower" => (k_here; k_dflt (refine' KXw.lower ?k1Q8 ?k2Q8 ?_; (case k1Q8 => assumption); (case k2Q8 => assumption)); intro _ _)
  trivial
theorem sub_con (w : World) (mean : ExcName → Option Value) (mg mb : Str → Option Value) (news : List (Addr × Obj)) (i j : Nat) (t u : Tok) (hi : i < 26) (hj : j < 26) :
    Con 8 60 w mean mg mb 45 news [.str ⟨#[97 + i]⟩ t, .str ⟨#[97 + j]⟩ u] (fun h₀ L m s Q => ∀ t' h' tk', Fr h₀ L h' m → News h₀ L h' news → Q (.int (if 97 + i = 97 + j then 0 else 2) t') { s with heap := h', toks := tk' }) := by
  dsimp only [Con, pr, lsV]; k_fill
  intros; rename_i hret
  have l1 := lowS i hi
  have l2 := lowOk i hi
  have l3 := lowS j hj
  have l4 := lowOk j hj
  walk_at "con_enter"
  k_steps
  · rename_i hb _ _ _ _
    rw [str1, decide_eq_true_eq] at hb
    have := hret 
    rw [if_pos hb] at this
    exact this _ _ _ (by assumption) (by assumption)
  · have hn : ¬ (97 + i = 97 + j) := by
      intro e
      simp_all
    rw [if_neg hn] at hret
    exact hret _ _ _ (by assumption) (by assumption)
end Mine
end
section
open PySem PySem.W
set_option Elab.async false
set_option maxRecDepth 100000
set_option maxHeartbeats 400000
namespace Mine
theorem none_PuA : True := by w_top off; k_with_none; trivial
/-- the state of the distance's inner loop -/
structure LvS where
  row : List Int
  dist : Int
  res : Int
  mn : Int
noncomputable def lvIn (a : List Nat) (c : Nat) (σ : LvS) (k : Int) : LvS :=
  ⟨σ.row.set k.toNat (min (min σ.res (σ.row.getD k.toNat 0) + 2) (σ.dist + (if c = a.getD k.toNat 0 then 0 else 2))), σ.row.getD k.toNat 0,
    min (min σ.res (σ.row.getD k.toNat 0) + 2) (σ.dist + (if c = a.getD k.toNat 0 then 0 else 2)),
    if min (min σ.res (σ.row.getD k.toNat 0) + 2) (σ.dist + (if c = a.getD k.toNat 0 then 0 else 2)) < σ.mn then min (min σ.res (σ.row.getD k.toNat 0) + 2) (σ.dist + (if c = a.getD k.toNat 0 then 0 else 2)) else σ.mn⟩
noncomputable def lvOut (a b : List Nat) (σ : LvS) (k : Int) : LvS := (rangeKs 0 a.length).foldl (lvIn a (b.getD k.toNat 0)) ⟨σ.row, k * 2, k * 2, 9223372036854775807⟩
noncomputable def row0 (n : Nat) : List Int := (List.range n).map fun (i : Nat) => 2 + (i : Int) * 2
noncomputable def lvRes (a b : List Nat) : Int := ((rangeKs 0 b.length).foldl (lvOut a b) ⟨row0 a.length, 0, 0, 0⟩).res
theorem foldl_congrM {α β : Type} {f g : α → β → α} : ∀ {l : List β} {x : α}, (∀ k ∈ l, ∀ x, f x k = g x k) → l.foldl f x = l.foldl g x
  | [], _, _ => rfl
  | b :: l, x, h => by
    simp only [List.foldl_cons]
    rw [h b (.head _) x]
    exact foldl_congrM fun k hk => h k (.tail _ hk)
theorem getD_map {f : Nat → Nat} {l : List Nat} {i : Nat} (h : i < l.length) : (l.map f).getD i 0 = f (l.getD i 0) := by
  simp [List.getD_eq_getElem?_getD, h]
theorem mem_getD {l : List Nat} {i : Nat} (h : i < l.length) : l.getD i 0 ∈ l := by
  rw [List.getD_eq_getElem?_getD, List.getElem?_eq_getElem h]; exact List.getElem_mem h
theorem lvIn_map {f : Nat → Nat} {a : List Nat} {c : Nat} {σ : LvS} {k : Int} (hk : k.toNat < a.length) (inj : ∀ x ∈ a, f c = f x → c = x) : lvIn (a.map f) (f c) σ k = lvIn a c σ k := by
  have e : (f c = (a.map f).getD k.toNat 0) ↔ (c = a.getD k.toNat 0) := by
    rw [getD_map hk]
    exact ⟨fun h => inj _ (mem_getD hk) h, fun h => by rw [← h]⟩
  simp only [lvIn, e]
theorem lvRes_map {f : Nat → Nat} {a b : List Nat} (inj : ∀ x ∈ a, ∀ y ∈ b, f y = f x → y = x) : lvRes (a.map f) (b.map f) = lvRes a b := by
  unfold lvRes
  rw [List.length_map, List.length_map]
  refine congrArg LvS.res (foldl_congrM fun k hk σ => ?_)
  have h1 := mem_rangeKs hk
  unfold lvOut
  rw [List.length_map, getD_map (by lia)]
  refine foldl_congrM fun j hj τ => ?_
  have h2 := mem_rangeKs hj
  exact lvIn_map (by lia) fun x hx e => inj x hx _ (mem_getD (by lia)) e
/-- the letter at the place p of the ring -/
noncomputable def lett (start ring p : Nat) : Nat := 97 + (start + p % ring) % 26
noncomputable def letts (start ring p n : Nat) : List Nat := (List.range n).map fun i => lett start ring (p + i)
noncomputable def pat (ring p n : Nat) : List Nat := (List.range n).map fun i => (p + i) % ring
theorem inj26 (s : Nat) : ∀ x y, x < 26 → y < 26 → 97 + (s + x) % 26 = 97 + (s + y) % 26 → x = y := by
  intro x y hx hy h
  lia
theorem inj_rot : ∀ ring, ring < 9 → ∀ h, h < ring → ∀ x, x < ring → ∀ y, y < ring → (h + x) % ring = (h + y) % ring → x = y := by decide +kernel
theorem letts_pat (start ring h p n : Nat) : letts start ring (h + p) n = (pat ring p n).map fun x => 97 + (start + (h + x) % ring) % 26 := by
  unfold letts pat lett
  rw [List.map_map]
  refine List.map_congr_left fun i _ => ?_
  show 97 + (start + (h + p + i) % ring) % 26 = 97 + (start + (h + (p + i) % ring) % ring) % 26
  rw [Nat.add_mod_mod, Nat.add_assoc]
noncomputable def nxt (size ring : Nat) : Nat := min (size % ring) ((ring - size % ring) % ring)
theorem lv_table : ∀ ring, ring < 9 → 0 < ring → ∀ size, size < 14 → ring ≤ size → size % ring ≠ 0 → lvRes (pat ring 0 size) (pat ring size size) = 4 * (nxt size ring : Int) := by decide +kernel
theorem mem_pat {ring p n x : Nat} (h0 : 0 < ring) (h : x ∈ pat ring p n) : x < ring := by
  obtain ⟨i, _, rfl⟩ := List.mem_map.mp h
  exact Nat.mod_lt _ h0
theorem lv_is {start ring size head : Nat} (h0 : 0 < ring) (h1 : ring ≤ 8) (h2 : ring ≤ size) (h3 : size ≤ 13) (hm : size % ring ≠ 0) :
    lvRes (letts start ring head size) (letts start ring (head + size) size) = 4 * (nxt size ring : Int) := by
  have e1 : letts start ring head size = (pat ring 0 size).map fun x => 97 + (start + (head + x) % ring) % 26 := letts_pat start ring head 0 size
  rw [e1, letts_pat, lvRes_map, lv_table ring (by lia) h0 size (by lia) h2 hm]
  intro x hx y hy e
  have hx := mem_pat h0 hx
  have hy := mem_pat h0 hy
  have a1 := Nat.mod_lt (head + x) h0
  have a2 := Nat.mod_lt (head + y) h0
  have e2 := inj26 start _ _ (by lia) (by lia) e
  rw [← Nat.mod_add_mod head ring x, ← Nat.mod_add_mod head ring y] at e2
  exact inj_rot ring (by lia) (head % ring) (Nat.mod_lt _ h0) y hy x hx e2
theorem letts_len {start ring p n : Nat} : (letts start ring p n).length = n := by simp [letts]
theorem letts_at {start ring p n i : Nat} (h : i < n) : (letts start ring p n).getD i 0 = lett start ring (p + i) := by
  simp [letts, List.getD_eq_getElem?_getD, h]
theorem ne_rot : ∀ ring, ring < 9 → ∀ h, h < ring → ∀ r, r < ring → r ≠ 0 → h % ring ≠ (h + r) % ring := by decide +kernel
theorem lett_ne {start ring size p : Nat} (h0 : 0 < ring) (h1 : ring ≤ 8) (hm : size % ring ≠ 0) : lett start ring p ≠ lett start ring (p + size) := by
  intro e
  unfold lett at e
  have a1 := Nat.mod_lt p h0
  have a2 := Nat.mod_lt (p + size) h0
  have e2 := inj26 start _ _ (by lia) (by lia) e
  refine ne_rot ring (by lia) (p % ring) a1 (size % ring) (Nat.mod_lt _ h0) hm ?_
  rw [Nat.mod_mod, ← Nat.add_mod]; exact e2
theorem letts_eq {start ring size p n : Nat} (hm : size % ring = 0) : letts start ring p n = letts start ring (p + size) n := by
  unfold letts
  refine List.map_congr_left fun i _ => ?_
  unfold lett
  have : (p + size + i) % ring = (p + i) % ring := by
    rw [Nat.add_right_comm, Nat.add_mod, hm, Nat.add_zero, Nat.mod_mod]
  rw [this]
/-- the least of a turn stays small -/
theorem lvIn_mn (a : List Nat) (c : Nat) (σ : LvS) (k : Int) : (lvIn a c σ k).mn ≤ σ.mn := by
  simp only [lvIn]; split <;> lia
theorem lvIn_fst (a : List Nat) (c : Nat) (σ : LvS) (k : Int) : (lvIn a c σ k).mn ≤ σ.res + 2 := by
  simp only [lvIn]; split <;> lia
theorem fold_mn (a : List Nat) (c : Nat) : ∀ (l : List Int) (σ : LvS), (l.foldl (lvIn a c) σ).mn ≤ σ.mn
  | [], _ => Int.le_refl _
  | k :: l, σ => Int.le_trans (fold_mn a c l _) (lvIn_mn a c σ k)
theorem lvOut_mn {a b : List Nat} {σ : LvS} {k : Int} (h : 0 < a.length) : (lvOut a b σ k).mn ≤ k * 2 + 2 := by
  unfold lvOut
  obtain ⟨n, hn⟩ : ∃ n, a.length = n + 1 := ⟨a.length - 1, by lia⟩
  rw [hn, rangeKs, List.range_succ_eq_map, List.map_cons, List.foldl_cons]
  exact Int.le_trans (fold_mn _ _ _ _) (lvIn_fst _ _ _ _)
theorem lvIn_len (a : List Nat) (c : Nat) (σ : LvS) (k : Int) : (lvIn a c σ k).row.length = σ.row.length := by simp [lvIn]
theorem fold_len (a : List Nat) (c : Nat) : ∀ (l : List Int) (σ : LvS), (l.foldl (lvIn a c) σ).row.length = σ.row.length
  | [], _ => rfl
  | k :: l, σ => (fold_len a c l _).trans (lvIn_len a c σ k)
theorem lvOut_len (a b : List Nat) (σ : LvS) (k : Int) : (lvOut a b σ k).row.length = σ.row.length := fold_len _ _ _ _
theorem row0_len (n : Nat) : (row0 n).length = n := by simp [row0]
end Mine
end
section
open PySem PySem.W PyProof.Rows PySem.Calls PySem.Spec
set_option Elab.async false
set_option maxRecDepth 100000
set_option maxHeartbeats 0
namespace Mine
/-- a goal that the walk leaves to us -/
structure Stay (p : Prop) : Prop where
  out : p
noncomputable abbrev strL (l : List Nat) : Str := ⟨l.toArray⟩
theorem sliceFrom0 {x : Str} (h : x.length < 64) : Txt.slice x (some 0) none = x := by
  have : ∀ n, n < 64 → (Builtin.Str.strSliceIndices (some 0) none 1 n).length = n := by decide +kernel
  unfold Txt.slice
  rw [this _ h, if_pos (by simp)]
theorem sliceAll {x : Str} (h : x.length < 64) : Txt.slice x none none = x := by
  have : ∀ n, n < 64 → (Builtin.Str.strSliceIndices none none 1 n).length = n := by decide +kernel
  unfold Txt.slice
  rw [this _ h, if_pos (by simp)]
theorem line64 {x : Str} (h : x.length < 64) : x.length ≤ sizeLine := Nat.le_trans (Nat.le_of_lt h) (by decide)
section
variable {prog : Program} {w : World} {A : Around} {E : Value → Shared → Prop} {s : Shared} {value slice : PySem.Expr} {x : Str} {t : Tok} {h₀ : Heap} {L : Addr} {m : Str → Option Value} {news : List (Addr × Obj)} {Q : Value → Shared → Prop}
theorem slice_0 {ui : Tok} (hF : Fr h₀ L s.heap m) (hN : News h₀ L s.heap news) (hx : x.length < 64) (h : ∀ h' t' k, Fr h₀ L h' m → News h₀ L h' news → Q (.str x t') { s with heap := h', toks := k })
    (hs : subscripted slice false (.str x t) (.ref s.heap.objs.size) = operate [.ref s.heap.objs.size, .str x t] (getItem (.str x t) (.ref s.heap.objs.size)) := by with_unfolding_all rfl)
    (ht : ∀ r, letTemporaryGo value (.str x t) r = pure () := by intro _; with_unfolding_all rfl) :
    wpAny (model prog w) A (subscriptTail value slice (.str x t) (.ref s.heap.objs.size)) Q E { s with heap := s.heap.push { cls := .type "slice", data := .fields #[.int 0 ui, .none, .none] } } :=
  slice_strN_sn hF hN (fun h' t' k F N => by rw [sliceFrom0 hx]; exact h h' t' k F N) hs ht (line64 hx)
theorem slice_n (hF : Fr h₀ L s.heap m) (hN : News h₀ L s.heap news) (hx : x.length < 64) (h : ∀ h' t' k, Fr h₀ L h' m → News h₀ L h' news → Q (.str x t') { s with heap := h', toks := k })
    (hs : subscripted slice false (.str x t) (.ref s.heap.objs.size) = operate [.ref s.heap.objs.size, .str x t] (getItem (.str x t) (.ref s.heap.objs.size)) := by with_unfolding_all rfl)
    (ht : ∀ r, letTemporaryGo value (.str x t) r = pure () := by intro _; with_unfolding_all rfl) :
    wpAny (model prog w) A (subscriptTail value slice (.str x t) (.ref s.heap.objs.size)) Q E { s with heap := s.heap.push { cls := .type "slice", data := .fields #[.none, .none, .none] } } :=
  slice_strN_nn hF hN (fun h' t' k F N => by rw [sliceAll hx]; exact h h' t' k F N) hs ht (line64 hx)
theorem While_ends {Q : Flow → Shared → Prop} {env : Env} {test : PySem.Expr} {body : List Stmt} {pos : Pos} (F : Fr h₀ L s.heap m) (N : News h₀ L s.heap news)
    (turn : ∀ h₁ tk₁, Fr h₀ L h₁ m → News h₀ L h₁ news → wpAny (model prog w) A (isTrue test env (eval test env)) (fun b s₂ => if b = true then False else Q .next s₂) E { s with heap := h₁, toks := tk₁ })
    (hE : PassesOwn (model prog w) A env E := by passes_own) :
    wpAny (model prog w) A (exec (.While test body [] pos) env) Q E s := by
  refine While_inv2 (n₀ := 0) (fun n m' news' => m' = m ∧ news' = news) F N ⟨rfl, rfl⟩ ?_ hE
  rintro n m₁ news₁ h₁ tk₁ F₁ N₁ ⟨rfl, rfl⟩
  refine wpAny_mono (turn h₁ tk₁ F₁ N₁) (fun b s₂ h => ?_) fun _ _ e => e
  cases b with
  | true => exact absurd h (by simp)
  | false => simpa using h
end
theorem strL_len {l : List Nat} : (strL l).length = l.length := rfl
theorem strL_at {l : List Nat} {i : Nat} (h : i < l.length) : (strL l).cps[i]? = some (l.getD i 0) := by
  show l.toArray[i]? = _
  simp [List.getD_eq_getElem?_getD, h]
theorem str1_ne {i j : Nat} (h : i ≠ j) : ((⟨#[i]⟩ : Str) == ⟨#[j]⟩) = false := by rw [str1, decide_eq_false h]
theorem strL_ne {a b : List Nat} (h : a.getD 0 0 ≠ b.getD 0 0) : (strL a == strL b) = false := by
  refine beq_eq_false_iff_ne.mpr fun e => h ?_
  have e1 : a.toArray = b.toArray := by injection e
  have : a = b := by simpa using congrArg Array.toList e1
  rw [this]
noncomputable abbrev rowV (us : List (Int × Tok)) : Array Value := (us.map fun p => Value.int p.1 p.2).toArray
theorem carried_ints : ∀ {ys : List Value} {ns : List Int}, CarriedAll ys (ns.map PyData.int) → ∃ us : List (Int × Tok), ys = us.map (fun p => Value.int p.1 p.2) ∧ us.map (·.1) = ns
  | _, [], h => by
    cases h
    exact ⟨[], rfl, rfl⟩
  | _, n :: ns, h => by
    cases h with
    | cons a b =>
      obtain ⟨us, e1, e2⟩ := carried_ints b
      cases a with
      | int i t => exact ⟨(n, t) :: us, by rw [e1]; rfl, by simp [e2]⟩
section
variable {prog : Program} {w : World} {A : Around} {E : Value → Shared → Prop} {s : Shared} {value slice : PySem.Expr} {l : List Nat} {t u : Tok} {Q : Value → Shared → Prop}
theorem itemL {k : Int} {c : Nat} (hl : l.length ≤ 64) (h1 : -(l.length : Int) ≤ k) (h2 : k < l.length) (hc : Txt.item (strL l) k = ⟨#[c]⟩) (h : Q (.str ⟨#[c]⟩ s.toks) { s with toks := s.toks + 1 })
    (hs : subscripted slice false (.str (strL l) t) (.int k u) = operate [.str (strL l) t, .int k u] (getItem (.str (strL l) t) (.int k u)))
    (ht : ∀ r, letTemporaryGo value (.str (strL l) t) r = pure ()) :
    wpAny (model prog w) A (subscriptTail value slice (.str (strL l) t) (.int k u)) Q E s :=
  item_str (fitsSsize_of (N := 9223372036854775808) (by lia) (by lia) (Int.le_refl _)) (by rw [strL_len]; exact h1) (by rw [strL_len]; exact h2) (fun _ => by rw [hc]; exact h) hs ht
theorem item_k {k : Int} (hl : l.length ≤ 64) (h0 : 0 ≤ k) (h2 : k < l.length) (h : Q (.str ⟨#[l.getD k.toNat 0]⟩ s.toks) { s with toks := s.toks + 1 })
    (hs : subscripted slice false (.str (strL l) t) (.int k u) = operate [.str (strL l) t, .int k u] (getItem (.str (strL l) t) (.int k u)))
    (ht : ∀ r, letTemporaryGo value (.str (strL l) t) r = pure ()) :
    wpAny (model prog w) A (subscriptTail value slice (.str (strL l) t) (.int k u)) Q E s :=
  itemL hl (by lia) h2 (item_meets h0 (strL_at (by lia))) h hs ht
theorem item_last {k : Int} (hk : k = -1) (hl : l.length ≤ 64) (h0 : 0 < l.length) (h : Q (.str ⟨#[l.getD (l.length - 1) 0]⟩ s.toks) { s with toks := s.toks + 1 })
    (hs : subscripted slice false (.str (strL l) t) (.int k u) = operate [.str (strL l) t, .int k u] (getItem (.str (strL l) t) (.int k u)))
    (ht : ∀ r, letTemporaryGo value (.str (strL l) t) r = pure ()) :
    wpAny (model prog w) A (subscriptTail value slice (.str (strL l) t) (.int k u)) Q E s := by
  subst hk
  refine itemL hl (by lia) (by lia) ?_ h hs ht
  unfold Txt.item Txt.charAt
  rw [seqIndex?_neg_one (by rw [strL_len]; exact h0)]
  show (⟨#[((strL l).cps[(strL l).length - 1]?).getD 0]⟩ : Str) = _
  rw [strL_len, strL_at (by lia)]; rfl
theorem len_L {n : Nat} (hl : l.length = n) (hn : n ≤ 64) (h : ∀ t', Q (.int (n : Int) t') { s with toks := s.toks + 1 + 1 }) : wpAny (model prog w) A (call (.builtin "len") [.str (strL l) t]) Q E s := by
  refine SBL.len (by rw [strL_len]; lia) ?_
  rw [strL_len, hl]; exact h _
theorem truthy_L {Q : Bool → Shared → Prop} (hl : l.length ≤ 64) (h0 : 0 < l.length) (h : Q true { s with toks := s.toks + 1 + 1 }) : wpAny (model prog w) A (PySem.truthy (.str (strL l) t)) Q E s := by
  refine SBL.truthy (by rw [strL_len]; lia) ?_
  have : (((strL l).length : Int) != 0) = true := by rw [strL_len]; exact bne_iff_ne.mpr (by lia)
  rw [this]; exact h
theorem eq_known {x y : Str} {b : Bool} (hb : (x == y) = b) (h : Q (.bool b) s) : wpAny (model prog w) A (compareOp .Eq (.str x t) (.str y u)) Q E s :=
  PyProof.Rows.eq_str (by rw [hb]; exact h)
end
section
variable {prog : Program} {w : World} {A : Around} {E : Value → Shared → Prop} {s : Shared} {h₀ : Heap} {L r : Addr} {m : Str → Option Value} {news news' : List (Addr × Obj)} {us : List (Int × Tok)} {c : Nat} {t u v : Tok}
theorem row_made {n : Nat} {e : Int} {Q : Value → Shared → Prop} (hh : A.handled = none) (F : Fr h₀ L s.heap m) (N : News h₀ L s.heap news) (hr : IsRange s.heap r 2 e 2 t u v) (he : e = 2 * ((n : Int) + 1)) (hn : n ≤ 64)
    (h : ∀ a us c h' tk', us.map (·.1) = row0 n → (∀ p ∈ news, p.1 < a) → Fr h₀ L h' m → News h₀ L h' ((a, W.listOf (rowV us) c) :: news) → Q (.ref a) { s with heap := h', toks := tk' }) :
    wpAny (model prog w) A (call (.type "list") [.ref r]) Q E s := by
  subst he
  have hs : ∀ n, n < 65 → Builtin.Range.small 2 (2 * ((n : Nat) + 1 : Int)) 2 = true := by decide +kernel
  have hz : ∀ n, n < 65 → Builtin.Range.rangeSize 2 (2 * ((n : Nat) + 1 : Int)) 2 = (n : Int) := by decide +kernel
  refine list_rangeD hh F N hr (hs n (by lia)) (hz n (by lia)) (by lia) fun h' tk ys F' N' hk hx _ hp hc => ?_
  obtain ⟨us, rfl, e2⟩ := carried_ints hc
  obtain ⟨⟨c, hc⟩, hne⟩ := hp
  refine h _ us c h' tk ?_ (fun p hp => Heap.lt_size (N p hp).1) F' ?_
  · rw [e2]; rfl
  · intro p hp
    rcases List.mem_cons.mp hp with rfl | hp
    · exact ⟨hc, Ne.symm (Nat.ne_of_lt F.ns.lt), hx⟩
    · exact N' p hp
theorem row_get {value slice : PySem.Expr} {k : Int} {Q : Value → Shared → Prop} (N : News h₀ L s.heap news) (hl : (r, W.listOf (rowV us) c) ∈ news) (h0 : 0 ≤ k) (h1 : k < us.length) (hz : us.length ≤ 64)
    (h : ∀ t', Q (.int ((us.map (·.1)).getD k.toNat 0) t') s) (hs : subscripted slice false (.ref r) (.int k u) = operate [.ref r, .int k u] (getItem (.ref r) (.int k u)) := by with_unfolding_all rfl) : wpAny (model prog w) A (subscriptTail value slice (.ref r) (.int k u)) Q E s := by
  have z : s.heap.IsList r (rowV us) := ⟨_, (N _ hl).1, rfl, _, rfl⟩
  have hk : k.toNat < us.length := by lia
  have e : (us.map (·.1)).getD k.toNat 0 = us[k.toNat].1 := by simp only [List.getD_eq_getElem?_getD, List.getElem?_map, List.getElem?_eq_getElem hk, Option.map_some, Option.getD_some]
  rw [e] at h
  exact tail_any z.typeIs slot_list_getitem.lookup (wpAny_getItem_list (x := .int us[k.toNat].1 us[k.toNat].2) z h0 (by lia) (by simp [rowV, hk]) (h _)) hs
end
end Mine
end
section
open PySem PySem.W PyProof.Rows PySem.Calls PySem.Spec
set_option Elab.async false
set_option maxRecDepth 100000
set_option maxHeartbeats 0
namespace Mine
theorem sub_conL (w : World) (mean : ExcName → Option Value) (mg mb : Str → Option Value) (news : List (Addr × Obj)) (x y : Nat) (t u : Tok) (hx : 97 ≤ x ∧ x < 123) (hy : 97 ≤ y ∧ y < 123) :
    Con 8 60 w mean mg mb 45 news [.str ⟨#[x]⟩ t, .str ⟨#[y]⟩ u] (fun h₀ L m s Q => ∀ t' h' tk', Fr h₀ L h' m → News h₀ L h' news → Q (.int (if x = y then 0 else 2) t') { s with heap := h', toks := tk' }) := by
  obtain ⟨i, rfl⟩ : ∃ i, x = 97 + i := ⟨x - 97, by lia⟩
  obtain ⟨j, rfl⟩ : ∃ j, y = 97 + j := ⟨y - 97, by lia⟩
  exact sub_con w mean mg mb news i j t u (by lia) (by lia)
structure LvO (la lb : List Nat) (a' : Addr) (v : Tok) (rest : List (Addr × Obj)) (σ : LvS) (m : Str → Option Value) (nx : List (Addr × Obj)) : Prop where
  ma : ∃ t, m (Str.ofString "a") = some (.str (strL la) t)
  mb : ∃ t, m (Str.ofString "b") = some (.str (strL lb) t)
  mr : m (Str.ofString "row") = some (.ref a')
  mx : m (Str.ofString "max_cost") = some (.int 99 v)
  res : ∃ t, m (Str.ofString "result") = some (.int σ.res t)
  row : ∃ us c, nx = (a', W.listOf (rowV us) c) :: rest ∧ us.map (·.1) = σ.row
  len : σ.row.length = la.length
structure LvI (la lb : List Nat) (x : Nat) (a' : Addr) (v : Tok) (rest : List (Addr × Obj)) (σ : LvS) (m : Str → Option Value) (nx : List (Addr × Obj)) : Prop where
  o : LvO la lb a' v rest σ m nx
  bc : ∃ t, m (Str.ofString "bchar") = some (.str ⟨#[x]⟩ t)
  ds : ∃ t, m (Str.ofString "distance") = some (.int σ.dist t)
  mn : ∃ t, m (Str.ofString "minimum") = some (.int σ.mn t)
theorem Fr.nam {h₀ h : Heap} {L : Addr} {m : Str → Option Value} {x : Str} {v : Value} (F : Fr h₀ L h m) (e : m x = some v) : Fr h₀ L h (fun y => if y = x then some v else m y) := by
  have : (fun y => if y = x then some v else m y) = m := by
    funext y
    by_cases h : y = x
    · rw [if_pos h, h, e]
    · rw [if_neg h]
  rw [this]; exact F
theorem min_K {w : World} {A : Around} {E : Value → Shared → Prop} {s : Shared} {h₀ : Heap} {L : Addr} {m : Str → Option Value} {news : List (Addr × Obj)} {a b : Int} {t u : Tok} {Q : Value → Shared → Prop} (hh : A.handled = none) (F : Fr h₀ L s.heap m) (N : News h₀ L s.heap news)
    (h : ∀ t' h' tk, Fr h₀ L h' m → News h₀ L h' news → Q (.int (min a b) t') { s with heap := h', toks := tk }) :
    wpAny (model pr w) A (call (.builtin "min") [.int a t, .int b u]) Q E s :=
  min_two_N hh F N fun h' tk F' N' => by
    have e : (if b < a then b else a) = min a b := by
      rw [Int.min_def]; split <;> split <;> lia
    rw [e]; exact h _ h' tk F' N'
theorem row_put {w : World} {A : Around} {E : Value → Shared → Prop} {s : Shared} {h₀ : Heap} {L r : Addr} {m : Str → Option Value} {rest : List (Addr × Obj)} {us : List (Int × Tok)} {c : Nat} {t u : Tok} {k x : Int} {Q : Unit → Shared → Prop} (F : Fr h₀ L s.heap m) (N : News h₀ L s.heap ((r, W.listOf (rowV us) c) :: rest)) (hr : ∀ p ∈ rest, p.1 ≠ r) (h0 : 0 ≤ k) (h1 : k < us.length) (hz : us.length ≤ 64)
    (h : ∀ h', Fr h₀ L h' m → News h₀ L h' ((r, W.listOf (rowV (us.set k.toNat (x, u))) c) :: rest) → Q () { s with heap := h' }) : wpAny (model pr w) A (setItem (.ref r) (.int k t) (.int x u)) Q E s := by
  have z := N _ (.head _)
  have hw : (rowV us).size = us.length := by simp
  refine ki_setAt z.1 h0 (by lia) (by lia) (h _ (F.change (Heap.SameBut.update ..) z.2.1 z.2.2) (ki_turn (pre := []) _ N (fun _ h => nomatch h) hr ?_ ?_))
  · show (rowV us).setIfInBounds k.toNat (.int x u) = rowV (us.set k.toNat (x, u))
    apply Array.ext'
    simp [rowV, List.map_set]
  · rw [if_pos (by simp)]
theorem size_one {n : Nat} : Builtin.Range.rangeSize 0 (n : Int) 1 = (n : Int) := by
  unfold Builtin.Range.rangeSize
  simp only [show (1 : Int) > 0 by decide, if_true]
  split <;> lia
theorem inv_end {h₀ h' : Heap} {L a' : Addr} {J : (Str → Option Value) → List (Addr × Obj) → Prop} {m' : Str → Option Value} {own rest : List (Addr × Obj)} {o o' : Obj} {s₁ : Shared} {tk : Nat} (F : Fr h₀ L h' m') (N : News h₀ L h' ((a', o) :: (rest ++ own)))
    (hj : J m' ((a', o) :: rest)) : InvEndN h₀ L J own (((a', o') :: rest).map (·.1)) s₁ { s₁ with heap := h', toks := tk } :=
  InvEndN.intro F N hj rfl (fun p hp => by rw [← List.cons_append]; exact List.mem_append_left _ hp) (fun p hp => List.mem_cons_of_mem _ (List.mem_append_right _ hp))
theorem news_tl {h₀ h : Heap} {L : Addr} {a : Addr × Obj} {l : List (Addr × Obj)} (N : News h₀ L h (a :: l)) : News h₀ L h l := fun p hp => N p (.tail _ hp)
theorem lines_LvB_1 : True := by
  w_top off
  k_with_none
  k_with "m9:room" => ktr_room
  k_with "m9:mem" => first | exact List.Mem.head _ | (refine' List.Mem.tail _ ?_; k_mem) | assumption
  k_with "m:eval Name" => dsimp only
  k_with "m:spliced" => dsimp only
  k_with "m:execs cons" => dsimp only
  k_with "m:eval Constant int" => dsimp only
  k_with "m:eval BinOp" => dsimp only
  k_with "m:execs nil" => dsimp only
  k_with "m:eval Call" => dsimp only
  k_with "m:storeName" => dsimp only
  k_with "m:exec Assign" => dsimp only
  k_with "m:callWith" => dsimp only
  k_with "m:eval Subscript" => dsimp only
  k_with "m:eval Call Attribute" => dsimp only
  k_with "m:evalPart none" => dsimp only
  k_with "m:truthy bool" => dsimp only
  k_with "m:callWith ref" => dsimp only
  k_with "m:call ref" => dsimp only
  k_with "m:isTrue Compare" => dsimp only
  k_with "m:getMethod ref" => dsimp only
  k_with "m:exec If" => dsimp only
  k_with "m:exec Return some" => dsimp only
  k_with "m:getAttr ref" => dsimp only
  k_with "m:eval Attribute Name" => dsimp only
  k_with "m:binaryOp Add int int" => dsimp only
  k_with "m:isTrue BoolOp" => dsimp only
  k_with "m:binaryOp Mod int int" => dsimp only
  k_with "m:subscriptTail Name Constant ref int" => dsimp only
  k_with "m:evalPart some" => dsimp only
  k_with "m:eval Slice" => dsimp only
  k_with "m:exec Expr" => dsimp only
  k_with "m:isTrue" => dsimp only
  k_with "m:eval Constant str" => dsimp only
  k_with "m:assignInOrder" => dsimp only
  k_with "m:call builtin:len" => dsimp only
  k_with "m:newTuple" => dsimp only
  k_with "m:eval Tuple" => dsimp only
  k_with "m:eval BoolOp" => dsimp only
  k_with "m:subscriptTail Name Slice str ref" => dsimp only
  k_with "m:getMethod str" => dsimp only
  k_with "m:setAttr ref" => dsimp only
  k_with "m:newList" => dsimp only
  k_with "m:eval List" => dsimp only
  k_with "m:binaryOp Mult int int" => dsimp only
  k_with "m:con_enter" => (refine wpAny_call ?_; k_dflt (first | cell_enter | (refine' code_defC ?k1Q8 ?k2Q8 ?k3Q8 ?k4Q8 ?k5Q8 ?kAQ8 ?kFQ8 ?kKQ8 ?k6Q8 ?k7Q8 ?k8Q8 ?k9Q8 ?kBQ8 ?kDQ8 ?_ ?c2Q8 ?c3Q8 ?c4Q8; (case kAQ8 => exact rfl); (case kFQ8 => exact rfl); (case kKQ8 => assumption); (case k1Q8 => k_asm); (case k2Q8 => k_asm); (case k3Q8 => k_asm); (case k4Q8 => k_asm); (case k5Q8 => k_asm); (case k6Q8 => k_is); (case k7Q8 => k_is); (case k8Q8 => ktr_room); (case k9Q8 => first | exact BindsTo.of_eq rfl | exact binds_K (by k_in) rfl (by k_is) rfl rfl rfl | fail "k_enter: no rule for these arguments"); (case kBQ8 => exact rfl); (case kDQ8 => decide +kernel); (case c2Q8 => exact rfl); (case c3Q8 => exact rfl); (case c4Q8 => exact rfl); k_whole; intro g'Q9 L'Q9 h'Q9 tk'Q9 cells'Q9 FG'Q9 F'Q9 N'Q9 Y'Q9 B'Q9 X'Q9 T'Q9 l1Q9; (try k_lt l1Q9); k_cells Y'Q9; (try simp only [List.cons_append, List.nil_append] at N'Q9); (try dsimp only); (try k_lift B'Q9); (try k_fold))))
  k_with "m:con_enterS" => (refine wpAny_call ?_; k_dflt (refine' code_defS ?k1Q8 ?k2Q8 ?k3Q8 ?k4Q8 ?k5Q8 ?kAQ8 ?kFQ8 ?kKQ8 ?k6Q8 ?k7Q8 ?k8Q8 ?k9Q8 ?kBQ8 ?_ ?c2Q8 ?c3Q8 ?c4Q8 ?c5Q8; (case kAQ8 => exact rfl); (case kFQ8 => exact rfl); (case kKQ8 => first | assumption | exact rfl); (case k1Q8 => k_asm); (case k2Q8 => k_asm); (case k3Q8 => k_asm); (case k4Q8 => k_asm); (case k5Q8 => k_asm); (case k6Q8 => k_is); (case k7Q8 => k_is); (case k8Q8 => ktr_room); (case k9Q8 => first | exact BindsTo.of_eq rfl | exact binds_K (by k_in) rfl (by k_is) rfl rfl rfl); (case c5Q8 => decide); (case kBQ8 => exact locs rfl); (case c2Q8 => exact rfl); (case c3Q8 => exact rfl); (case c4Q8 => exact rfl); k_whole; intro g'Q9 L'Q9 h'Q9 FG'Q9 F'Q9 N'Q9 B'Q9 X'Q9 T'Q9 l1Q9; (try dsimp only); (try k_lift B'Q9); (try k_fold)))
  k_with "m:con_enterT" => (k_dflt (refine' code_defS ?k1Q8 ?k2Q8 ?k3Q8 ?k4Q8 ?k5Q8 ?kAQ8 ?kFQ8 ?kKQ8 ?k6Q8 ?k7Q8 ?k8Q8 ?k9Q8 ?kBQ8 ?_ ?c2Q8 ?c3Q8 ?c4Q8 ?c5Q8; (case kAQ8 => exact rfl); (case kFQ8 => exact rfl); (case kKQ8 => first | assumption | exact rfl); (case k1Q8 => k_asm); (case k2Q8 => k_asm); (case k3Q8 => k_asm); (case k4Q8 => k_asm); (case k5Q8 => k_asm); (case k6Q8 => k_is); (case k7Q8 => k_is); (case k8Q8 => ktr_room); (case k9Q8 => first | exact BindsTo.of_eq rfl | exact binds_K (by k_in) rfl (by k_is) rfl rfl rfl); (case c5Q8 => decide); (case kBQ8 => exact locs rfl); (case c2Q8 => exact rfl); (case c3Q8 => exact rfl); (case c4Q8 => exact rfl); k_whole; intro g'Q9 L'Q9 h'Q9 FG'Q9 F'Q9 N'Q9 B'Q9 X'Q9 T'Q9 l1Q9; (try dsimp only); (try k_lift B'Q9); (try k_fold)))
  k_with "m:subscriptTail Name Slice str ref" => (k_here; k_dflt (first | (refine' slice_0 (s := ⟨_, _, _, _, _⟩) ?k1Q8 ?k2Q8 ?k3Q8 ?_ ?k4Q8 ?k5Q8; (case k1Q8 => k_asm); (case k2Q8 => k_asm); (case k3Q8 => assumption); (case k4Q8 => with_unfolding_all rfl); (case k5Q8 => intro _; with_unfolding_all rfl)) | (refine' slice_n (s := ⟨_, _, _, _, _⟩) ?k1Q8 ?k2Q8 ?k3Q8 ?_ ?k4Q8 ?k5Q8; (case k1Q8 => k_asm); (case k2Q8 => k_asm); (case k3Q8 => assumption); (case k4Q8 => with_unfolding_all rfl); (case k5Q8 => intro _; with_unfolding_all rfl))); k_whole; intro h'Q9 t'Q9 k'Q9 F'Q9 N'Q9)
  k_with "m:exec While" => (k_here; k_dflt (refine' While_ends ?k1Q8 ?k2Q8 ?_ ?k3Q8; (case k1Q8 => k_asm); (case k2Q8 => k_asm); (case k3Q8 => passes_own); k_whole); intro h'Q9 tk'Q9 F'Q9 N'Q9)
  k_with "m:subscriptTail Name Name str int" => (k_here; (with_reducible show wpAny _ _ (subscriptTail _ _ (Value.str (strL _) _) (Value.int _ _)) _ _ _); k_dflt (first | (refine' item_k ?k1Q8 ?k2Q8 ?k3Q8 ?_ ?k4Q8 ?k5Q8; (case k1Q8 => assumption); (case k2Q8 => (first | (law_clear; lia) | omega)); (case k3Q8 => (first | (law_clear; lia) | omega)); (case k4Q8 => with_unfolding_all rfl); (case k5Q8 => intro _; with_unfolding_all rfl)) | (refine' item_last ?k0Q8 ?k1Q8 ?k2Q8 ?_ ?k4Q8 ?k5Q8; (case k0Q8 => (first | (law_clear; lia) | omega)); (case k1Q8 => assumption); (case k2Q8 => assumption); (case k4Q8 => with_unfolding_all rfl); (case k5Q8 => intro _; with_unfolding_all rfl))))
  k_with "m:subscriptTail Name BinOp str int" => (k_here; (with_reducible show wpAny _ _ (subscriptTail _ _ (Value.str (strL _) _) (Value.int _ _)) _ _ _); k_dflt (first | (refine' item_k ?k1Q8 ?k2Q8 ?k3Q8 ?_ ?k4Q8 ?k5Q8; (case k1Q8 => assumption); (case k2Q8 => (first | (law_clear; lia) | omega)); (case k3Q8 => (first | (law_clear; lia) | omega)); (case k4Q8 => with_unfolding_all rfl); (case k5Q8 => intro _; with_unfolding_all rfl)) | (refine' item_last ?k0Q8 ?k1Q8 ?k2Q8 ?_ ?k4Q8 ?k5Q8; (case k0Q8 => (first | (law_clear; lia) | omega)); (case k1Q8 => assumption); (case k2Q8 => assumption); (case k4Q8 => with_unfolding_all rfl); (case k5Q8 => intro _; with_unfolding_all rfl))))
  k_with "m:compareOp Eq str str" => (k_here; refine' eq_known ?k1Q8 ?_; (case k1Q8 => first | assumption | exact str1_ne (by assumption)))
  k_with "m:truthy str" => (k_here; refine' truthy_L ?k1Q8 ?k2Q8 ?_; (case k1Q8 => assumption); (case k2Q8 => assumption))
  k_with "m:call builtin:len" => (k_here; refine' len_L ?k1Q8 ?k2Q8 ?_; (case k1Q8 => assumption); (case k2Q8 => assumption); intro _)
  k_with "m:call type:list" => (k_here; k_dflt (refine' row_made ?k0Q8 ?k1Q8 ?k2Q8 ?k3Q8 ?k4Q8 ?k5Q8 ?_; (case k0Q8 => exact rfl); (case k1Q8 => k_asm); (case k2Q8 => k_asm); (case k3Q8 => assumption); (case k4Q8 => exact rfl); (case k5Q8 => assumption); k_whole; intro a'Q9 us'Q9 c'Q9 h'Q9 tk'Q9 hus'Q9 hlt'Q9 F'Q9 N'Q9; (try k_sweep); (try dsimp only)))
  k_with "m:subscriptTail Name Name ref int" => (k_here; k_dflt (refine' row_get ?k1Q8 ?k2Q8 ?k3Q8 ?k4Q8 ?k5Q8 ?_ ?k6Q8; (case k1Q8 => k_asm); (case k2Q8 => k_mem); (case k3Q8 => (first | (law_clear; lia) | omega)); (case k4Q8 => (first | (law_clear; lia) | omega)); (case k5Q8 => (first | (law_clear; lia) | omega)); (case k6Q8 => with_unfolding_all rfl)); intro _)
  k_with "m:setItem ref int" => (k_here; k_dflt (refine' row_put ?k1Q8 ?k2Q8 ?k3Q8 ?k4Q8 ?k5Q8 ?k6Q8 ?_; (case k1Q8 => k_asm); (case k2Q8 => k_asm); (case k3Q8 => assumption); (case k4Q8 => (first | (law_clear; lia) | omega)); (case k5Q8 => (first | (law_clear; lia) | omega)); (case k6Q8 => (first | (law_clear; lia) | omega)); k_whole); intro h'Q9 F'Q9 N'Q9; (try k_sweep))
  k_with "m:call builtin:min" => (k_here; k_dflt (refine' min_K ?k0Q8 ?k1Q8 ?k2Q8 ?_; (case k0Q8 => exact rfl); (case k1Q8 => k_asm); (case k2Q8 => k_asm); k_whole); intro t'Q9 h'Q9 tk'Q9 F'Q9 N'Q9; (try k_sweep))
  k_with "m:call ref" => (k_here; k_dflt (first | (refine' sub_conL _ _ _ _ _ _ _ _ _ ?hxQ8 ?hyQ8 _ _ _ _ _ _ _ _ _ _ _ _ _ _ _ _ _ ?k1Q8 ?k2Q8 ?k3Q8 ?k4Q8 ?k5Q8 ?kKQ8 ?kdQ8 ?kuQ8 ?_; (case k1Q8 => k_asm); (case k2Q8 => k_asm); (case k3Q8 => k_asm); (case k4Q8 => first | k_asm | exact news_drop1 (by k_asm) | exact news_drop2 (by k_asm) | exact news_drop1 (news_drop2 (by k_asm))); (case k5Q8 => k_asm); (case kKQ8 => first | exact rfl | assumption); (case kdQ8 => ktr_room); (case kuQ8 => first | ktr_units | (rw [tc_units]; dsimp only [ktrTop]; (first | (law_clear; lia) | omega))); (case hxQ8 => assumption); (case hyQ8 => assumption); k_whole; intro t'Q9 h'Q9 tk'Q9 F'Q9 N'Q9; (try k_sweep); (try dsimp only))))
  k_with "m:InvPostN" => (k_here; refine Stay.out ?_)
  k_with "m:pyIter ref" => (k_here; refine Stay.out ?_)
  trivial
theorem lev_con (w : World) (mean : ExcName → Option Value) (mg mb : Str → Option Value) (news : List (Addr × Obj)) (n : Nat) (la lb : List Nat) (t u v : Tok) (hla : la.length = n) (hlb : lb.length = n) (hn0 : 0 < n) (hn1 : n ≤ 13)
    (hsa : ∀ x ∈ la, 97 ≤ x ∧ x < 123) (hsb : ∀ x ∈ lb, 97 ≤ x ∧ x < 123) (h0 : la.getD 0 0 ≠ lb.getD 0 0) (h1 : la.getD (n - 1) 0 ≠ lb.getD (n - 1) 0) :
    Con 40 300 w mean mg mb 52 news [.str (strL la) t, .str (strL lb) u, .int 99 v] (fun h₀ L m s Q => ∀ t' h' tk', Fr h₀ L h' m → News h₀ L h' news → Q (.int (lvRes la lb) t') { s with heap := h', toks := tk' }) := by
  have a0 : (strL la == strL lb) = false := strL_ne h0
  have a1 : (strL la).length < 64 := by rw [strL_len]; lia
  have a2 : (strL lb).length < 64 := by rw [strL_len]; lia
  have a3 : la.length ≤ 64 := by lia
  have a4 : lb.length ≤ 64 := by lia
  have a5 : 0 < la.length := by lia
  have a6 : 0 < lb.length := by lia
  have a7 : n ≤ 64 := by lia
  have b0 : la.getD (0 : Int).toNat 0 ≠ lb.getD (0 : Int).toNat 0 := h0
  have b1 : la.getD (la.length - 1) 0 ≠ lb.getD (lb.length - 1) 0 := by rw [hla, hlb]; exact h1
  dsimp only [Con, pr, lsV]; k_fill
  intros; rename_i hret
  walk_at "con_enter"
  k_steps
  (with_reducible rename Fr _ _ _ _ => FF)
  (with_reducible rename News _ _ _ _ => NN)
  (with_reducible rename IsRange _ _ 0 _ 1 _ _ _ => RR)
  (with_reducible rename ∀ p ∈ news, p.1 < _ => hlt)
  (with_reducible rename List.map _ _ = row0 n => hus)
  refine Stay.mk ?_
  refine iter_rangeS (n := n) (LvO la lb _ v news) (lvOut la lb) ⟨row0 n, 0, 0, 0⟩ rfl RR (small_one (by lia) (by lia) (by lia) (by lia)) size_one FF NN ⟨⟨_, by rfl⟩, ⟨_, by rfl⟩, by rfl, by rfl, ⟨_, by rfl⟩, ⟨_, _, rfl, hus⟩, by rw [row0_len, hla]⟩ ?turn ?done
  case turn =>
    clear FF NN RR hus
    rintro k tk σ m₁ nx h tkk own hk hoff R F₁ N₁
    have hkk := mem_rangeKs hk
    obtain ⟨⟨ta, ma⟩, ⟨tb, mb⟩, mr, mx, _, ⟨us, c, rfl, hus⟩, hlen⟩ := R
    have hne : ∀ p ∈ news ++ own, p.1 ≠ _ := fun p hp => (List.mem_append.mp hp).elim (fun h => Nat.ne_of_lt (hlt p h)) (fun h => hoff p h _ (.head _))
    have N₂ : News _ _ h ((_, W.listOf (rowV us) c) :: (news ++ own)) := N₁
    have F₂ := Fr.nam (x := Str.ofString "max_cost") (v := .int 99 v) (Fr.nam (x := Str.ofString "row") (Fr.nam (x := Str.ofString "b") (v := .str (strL lb) tb) (Fr.nam (x := Str.ofString "a") (v := .str (strL la) ta) F₁ ma) mb) mr) mx
    clear F₁ N₁ hlt hoff hk
    k_steps
    (with_reducible rename Fr _ _ _ _ => FF)
    (with_reducible rename News _ _ _ _ => NN)
    (with_reducible rename IsRange _ _ 0 _ 1 _ _ _ => RR)
    refine Stay.mk ?_
    refine iter_rangeS (n := n) (LvI la lb (lb.getD k.toNat 0) _ v (news ++ own)) (lvIn la (lb.getD k.toNat 0)) ⟨σ.row, k * 2, k * 2, 9223372036854775807⟩ rfl RR (small_one (by lia) (by lia) (by lia) (by lia)) size_one FF NN ⟨⟨⟨_, by rfl⟩, ⟨_, by rfl⟩, by rfl, by rfl, ⟨_, by rfl⟩, ⟨_, _, rfl, hus⟩, hlen⟩, ⟨_, by rfl⟩, ⟨_, by rfl⟩, ⟨_, by rfl⟩⟩ ?turn2 ?done2
    case turn2 =>
      clear FF NN RR hus F₂ N₂ hlen
      rintro j tj σ m₁ nx h tkk own2 hj hoff R F₁ N₁
      have hjj := mem_rangeKs hj
      obtain ⟨⟨⟨ta, ma⟩, ⟨tb, mb⟩, mr, mx, ⟨tr, hres⟩, ⟨us, c, rfl, hus⟩, hlen⟩, ⟨tbc, hbc⟩, ⟨td, hds⟩, ⟨tm, hmn⟩⟩ := R
      have hne2 : ∀ p ∈ (news ++ own) ++ own2, p.1 ≠ _ := fun p hp => (List.mem_append.mp hp).elim (fun h => hne p h) (fun h => hoff p h _ (.head _))
      have N₂ : News _ _ h ((_, W.listOf (rowV us) c) :: ((news ++ own) ++ own2)) := N₁
      have F₂ := Fr.nam (x := Str.ofString "max_cost") (v := .int 99 v) (Fr.nam (x := Str.ofString "row") (Fr.nam (x := Str.ofString "a") (v := .str (strL la) ta) (Fr.nam (x := Str.ofString "bchar") (v := .str ⟨#[lb.getD k.toNat 0]⟩ tbc) (Fr.nam (x := Str.ofString "result") (v := .int σ.res tr) (Fr.nam (x := Str.ofString "distance") (v := .int σ.dist td) (Fr.nam (x := Str.ofString "minimum") (v := .int σ.mn tm) F₁ hmn) hds) hres) hbc) ma) mr) mx
      obtain ⟨row, ds, rs, mn⟩ := σ
      dsimp only at hus hlen hds hmn hres F₂
      subst hus
      have hul : us.length = n := by rw [← List.length_map (f := fun x : Int × Tok => x.1), hlen, hla]
      have hx : 97 ≤ lb.getD k.toNat 0 ∧ lb.getD k.toNat 0 < 123 := hsb _ (mem_getD (by lia))
      have hy : 97 ≤ la.getD j.toNat 0 ∧ la.getD j.toNat 0 < 123 := hsa _ (mem_getD (by lia))
      clear F₁ N₁ hoff hj
      k_steps
      · (with_reducible rename Fr _ _ _ _ => FF)
        (with_reducible rename News _ _ _ _ => NN)
        (with_reducible rename min _ _ < _ => hq)
        have e : (lvIn la (lb.getD k.toNat 0) ⟨us.map (·.1), ds, rs, mn⟩ j).mn = _ := if_pos hq
        exact Stay.mk (inv_end FF NN ⟨⟨⟨_, by rfl⟩, ⟨_, mb⟩, by rfl, by rfl, ⟨_, by rfl⟩, ⟨_, _, rfl, by rw [List.map_set]; rfl⟩, by rw [lvIn_len]; exact hlen⟩, ⟨_, by rfl⟩, ⟨_, by rfl⟩, ⟨_, by rw [e]; rfl⟩⟩)
      · (with_reducible rename Fr _ _ _ _ => FF)
        (with_reducible rename News _ _ _ _ => NN)
        (with_reducible rename ¬ (min _ _ < _) => hq)
        have e : (lvIn la (lb.getD k.toNat 0) ⟨us.map (·.1), ds, rs, mn⟩ j).mn = _ := if_neg hq
        exact Stay.mk (inv_end FF NN ⟨⟨⟨_, by rfl⟩, ⟨_, mb⟩, by rfl, by rfl, ⟨_, by rfl⟩, ⟨_, _, rfl, by rw [List.map_set]; rfl⟩, by rw [lvIn_len]; exact hlen⟩, ⟨_, by rfl⟩, ⟨_, by rfl⟩, ⟨_, by rw [e]; rfl⟩⟩)
    case done2 =>
      clear FF NN RR hus F₂ N₂
      intro m₁ nx h tkk R F₁ N₁
      have hτ : (rangeKs 0 n).foldl (lvIn la (lb.getD k.toNat 0)) ⟨σ.row, k * 2, k * 2, 9223372036854775807⟩ = lvOut la lb σ k := by rw [← hla]; rfl
      rw [hτ] at R
      have hm9 : (lvOut la lb σ k).mn ≤ k * 2 + 2 := lvOut_mn (by lia)
      obtain ⟨⟨⟨ta, ma⟩, ⟨tb, mb⟩, mr, mx, ⟨tr, hres⟩, ⟨us, c, rfl, hus⟩, hlen⟩, _, _, ⟨tm, hmn⟩⟩ := R
      have F₂ := Fr.nam (x := Str.ofString "max_cost") (v := .int 99 v) (Fr.nam (x := Str.ofString "minimum") (v := .int (lvOut la lb σ k).mn tm) F₁ hmn) mx
      clear F₁
      dsimp only
      k_steps
      (with_reducible rename Fr _ _ _ _ => FF)
      (with_reducible rename News _ _ _ _ => NN)
      exact Stay.mk (inv_end FF NN ⟨⟨_, ma⟩, ⟨_, mb⟩, mr, by rfl, ⟨_, hres⟩, ⟨_, _, rfl, hus⟩, hlen⟩)
  case done =>
    clear FF NN RR hus
    intro m₁ nx h tkk R F₁ N₁
    obtain ⟨_, _, _, _, ⟨tr, hres⟩, ⟨us, c, rfl, _⟩, _⟩ := R
    have e9 : ((rangeKs 0 n).foldl (lvOut la lb) ⟨row0 n, 0, 0, 0⟩).res = lvRes la lb := by unfold lvRes; rw [hla, hlb]
    rw [e9] at hres
    have F₂ := Fr.nam (x := Str.ofString "result") (v := .int (lvRes la lb) tr) F₁ hres
    clear F₁
    dsimp only
    k_steps
    exact hret _ _ _ (by assumption) (news_tl (by assumption))
end Mine
end
section
open PySem PySem.W PyProof.Rows PySem.Calls Builtin Builtin.ObjectAttr Builtin.Getset_descriptor
set_option Elab.async false
set_option maxRecDepth 100000
set_option maxHeartbeats 4000000
namespace Mine
theorem none_AccA : True := by w_top off; k_with_none; trivial
/-- the text's own part of the heap -/
noncomputable abbrev KK (P : Params) : Frag := Mine.hd.heap_39 P
/-- an own list: its dict dx, its items -/
noncomputable abbrev accObj (dx : Addr) (vs : Array Value) (n : Nat) : Obj := { cls := .ref 214, dict := some dx, data := .seq vs n }
structure NewFacts : Prop where
  split : splitId "list.__new__" = some ("list", "__new__")
  kind : builtinKind "list.__new__" = some .builtinFn
  entry : entryFor table "list.__new__" = some Builtin.«list.__new__»
  quiet : "list.__new__".startsWith "lifetime." = false
theorem listNew : NewFacts where
  split := by decide +kernel
  kind := by decide +kernel
  entry := entryFor_of_tree (by kernel_rfl)
  quiet := by decide +kernel
theorem row_listNew : Manifest.signature? "list.__new__" = some ⟨.any, "list", "list", .cls, [⟨"args", .varPos, false⟩, ⟨"kwargs", .varKw, false⟩]⟩ := by kernel_rfl
section
variable {w : World} {h : Heap}
theorem made_acc (X : (hd.heap_39 w.params).In h) : Looks (model pr w) h (Bind.madeBy (.ref 214)) (some "list.__new__") := Looks.of_peek X (by kernel_rfl)
theorem base_acc (X : (hd.heap_39 w.params).In h) : Looks (model pr w) h (Bind.staticBase (.ref 214)) (.ref 214) := Looks.of_peek X (by kernel_rfl)
theorem self_acc (X : (hd.heap_39 w.params).In h) : Looks (model pr w) h (isSubtype (.ref 214) (.ref 214)) true := Looks.of_peek X (by kernel_rfl)
theorem list_acc (X : (hd.heap_39 w.params).In h) : Looks (model pr w) h (isSubtype (.ref 214) (.type "list")) true := Looks.of_peek X (by kernel_rfl)
theorem call_acc (X : (hd.heap_39 w.params).In h) : Looks (model pr w) h (specialOf (.ref 214) "__call__") (some (.builtin "type.__call__")) := Looks.of_peek X (by kernel_rfl)
theorem typ_acc (X : (hd.heap_39 w.params).In h) : Looks (model pr w) h (isInstance (.ref 214) (.type "type")) true := Looks.of_peek X (by kernel_rfl)
theorem isT_acc (X : (hd.heap_39 w.params).In h) : Looks (model pr w) h (isType (.ref 214)) true := Looks.of_peek X (by kernel_rfl)
end
theorem args_listNew (C : Addr) (rest : List Value) (kw : List (Str × Value)) : Bind.checkArgs "list.__new__" ⟨.any, "list", "list", .cls, [⟨"args", .varPos, false⟩, ⟨"kwargs", .varKw, false⟩]⟩ ⟨.ref C :: rest, kw⟩ = pure () := by kernel_rfl
section
variable {w : World} {A : Around} {R : Result → Shared → Prop} {h : Heap} {g : Array GenState} {d : Drawn} {t : Nat} {os : OsState}
theorem keep2 {o₁ o₂ : Obj} : ∀ b o, h.get? b = some o → ((h.push o₁).push o₂).get? b = some o := fun _ _ e => Heap.get?_push_of_some _ (Heap.get?_push_of_some _ e)
theorem new_acc {rest : List Value} {kw : List (Str × Value)} (X : (hd.heap_39 w.params).In h)
    (hq : R (.ok (.ret (.ref (h.objs.size + 1)))) ⟨(h.push emptyDict).push (accObj h.objs.size #[] 0), g, d, t, os⟩) :
    codeAny (model pr w) A (.call (.builtin "list.__new__") ⟨.ref 214 :: rest, kw⟩) R ⟨h, g, d, t, os⟩ := by
  have made := made_acc X
  have base := base_acc X
  have sub := list_acc X
  have isT := isT_acc X
  have F := listNew
  refine codeAny_call_builtin_code (Code.quiet_builtin _ F.quiet) ?_
  simp only [checkBuiltinCall, F.kind, F.split, row_listNew]
  rw [args_listNew]
  repeat (first | simp only [bne_self_eq_false, Bool.false_eq_true, if_false] | lk)
  refine codeAny_builtin_stack F.entry rfl fun p st => ?_
  have hown := owner_list_new
  simp only [hown]
  have del : Looks (model pr w) h (classHasDel 214) false := Looks.of_peek X (by kernel_rfl)
  have del' := del.keeps (keep2 (o₁ := emptyDict) (o₂ := accObj h.objs.size #[] 0))
  repeat (first | simp only [Bool.not_true, Bool.false_eq_true, if_false] | lk)
  show R _ _
  rw [Heap.size_push]
  exact hq
noncomputable def loadChk (K : Frag) : Bool := match K.lookup 214 with
  | some ⟨_, _, .cls cd, _⟩ => !cd.abstract && !cd.hasDel && !cd.mro.isEmpty
  | _ => false
theorem load_acc (X : (hd.heap_39 w.params).In h) : ∃ oc od cd sl, h.get? 214 = some ⟨oc, od, .cls cd, sl⟩ ∧ cd.abstract = false ∧ cd.hasDel = false ∧ cd.mro.isEmpty = false := by
  have e : loadChk (hd.heap_39 w.params) = true := by kernel_rfl
  unfold loadChk at e
  split at e
  · rename_i oc od cd sl ho
    simp only [Bool.and_eq_true, Bool.not_eq_true'] at e
    exact ⟨oc, od, cd, sl, X _ _ ho, e.1.1, e.1.2, e.2⟩
  · cases e
theorem make_acc {rest : List Value} {kw : List (Str × Value)} {fI : Addr} (X : (hd.heap_39 w.params).In h) (hi : Looks (model pr w) h (typeLookup (.ref 214) "__init__") (some (.ref fI)))
    (hb : ∀ self, Looks (model pr w) h (bindSpecial (.ref fI) self) (.ref fI, [self]))
    (hq : codeAny (model pr w) (A.under (.builtin "type.__call__" ⟨.ref 214 :: rest, kw⟩)) (.call (.ref fI) ⟨.ref (h.objs.size + 1) :: rest, kw⟩) (InitBack (h.objs.size + 1) R) ⟨(h.push emptyDict).push (accObj h.objs.size #[] 0), g, d, t, os⟩) :
    codeAny (model pr w) A (.call (.ref 214) ⟨rest, kw⟩) R ⟨h, g, d, t, os⟩ := by
  have call := call_acc X
  have made := made_acc X
  have typ := typ_acc X
  have self := self_acc X
  refine codeAny_of_tree ?_
  have load : ∃ oc od cd sl, h.get? 214 = some ⟨oc, od, .cls cd, sl⟩ ∧ cd.abstract = false ∧ cd.hasDel = false ∧ cd.mro.isEmpty = false := load_acc X
  obtain ⟨oc, od, cd, sl, hC, e1, e2, e4⟩ := load
  show wpAny _ _ (callAny (.ref 214) _) _ _ _
  refine nd_load hC ?_
  show wpAny _ _ (callAny.viaDunder (.ref 214) _) _ _ _
  unfold callAny.viaDunder
  refine wpAny_bind (call.at ?_)
  dsimp only
  rw [tc_bind]
  refine wpAny_bind (wpAny_pure (wpAny_bind (wpAny_pure ?_)))
  refine wpAny_pure (a := Fin.again (.call (.builtin "type.__call__") ⟨.ref 214 :: rest, kw⟩)) (And.intro rfl ?_)
  refine codeAny_call_builtin_at (Code.quiet_builtin _ (by decide +kernel)) entry_typeCall (check_slot tc_kind tc_split typ (tc_args _ _ _) ?_)
  unfold Builtin.«type.__call__»
  have hm : Looks (model pr w) h (mroOf (.ref 214)) cd.mro := ((Looks.ld (part := none) hC).andThen .now).andThen .now
  repeat (first | simp only [e4, Bool.false_eq_true, if_false] | with_reducible refine wpAny_call ?_ | lk)
  refine new_acc X ?_
  have hx : ((h.push emptyDict).push (accObj h.objs.size #[] 0)).get? (h.objs.size + 1) = some (accObj h.objs.size #[] 0) := by heap_get
  have t1 : Looks (model pr w) ((h.push emptyDict).push (accObj h.objs.size #[] 0)) (typeOf (.ref (h.objs.size + 1))) (.ref 214) := (Looks.ld hx).andThen .now
  have s1 := self.keeps (keep2 (o₁ := emptyDict) (o₂ := accObj h.objs.size #[] 0))
  have i1 := hi.keeps (keep2 (o₁ := emptyDict) (o₂ := accObj h.objs.size #[] 0))
  have b1 := (hb (.ref (h.objs.size + 1))).keeps (keep2 (o₁ := emptyDict) (o₂ := accObj h.objs.size #[] 0))
  unfold isInstance callSpecial? specialOf
  repeat (first | with_reducible refine wpAny_call ?_ | lk)
  refine codeAny_mono hq fun r s' z => ?_
  rcases r with e | (v | _ | _ | _) <;> first | exact z | exact z.elim | skip
  obtain ⟨rfl, z⟩ := z
  exact wpAny_pure (wpAny_pure z)
end
section
variable {w : World} {A : Around} {E : Value → Shared → Prop} {s : Shared} {L : Addr} {h₀ : Heap} {m : Str → Option Value} {news : List (Addr × Obj)} {Q : Value → Shared → Prop}
/-- an own list is made: its __init__ is called upon it -/
theorem call_acc_K {rest : List Value} (F : Fr h₀ L s.heap m) (X₀ : (hd.heap_39 w.params).In h₀) (N : News h₀ L s.heap news)
    (h : ∀ x dx h', Fr h₀ L h' m → News h₀ L h' ((x, accObj dx #[] 0) :: (dx, dictOf [] 0) :: news) → (∀ p ∈ news, p.1 < dx) → dx < x →
      codeAny (model pr w) (A.under (.builtin "type.__call__" ⟨.ref 214 :: rest, []⟩)) (.call (.ref 151) ⟨.ref x :: rest, []⟩) (InitBack x fun r s' => match r with | .ok (.ret v) => Q v s' | .ok _ => False | .error e => E e s') { s with heap := h' }) :
    wpAny (model pr w) A (call (.ref 214) rest) Q E s := by
  obtain ⟨hh, g, d, t, os⟩ := s
  have X := X₀.keeps F.keep
  refine wpAny_call (make_acc X (fI := 151) (Looks.of_peek X (by kernel_rfl)) (fun self => bind_fn X self (by kernel_rfl)) (h _ hh.objs.size _ ((F.push _).push _) ?_ (fun p hp => Heap.lt_size (N p hp).1) (Nat.lt_succ_self _)))
  have := (N.push F emptyDict).push (F.push _) (accObj hh.objs.size #[] 0)
  rwa [Heap.size_push] at this
end
end Mine
end
section
open PySem PySem.W PyProof.Rows PySem.Calls Builtin Builtin.ObjectAttr Builtin.Getset_descriptor
set_option Elab.async false
set_option maxRecDepth 100000
set_option maxHeartbeats 4000000
namespace Mine
theorem canon_list_ga : (Manifest.canonical "list.__getattribute__" != "object.__getattribute__") = false := by decide +kernel
noncomputable def methTy (t : Option Value) : Bool := t.any fun t => t == .type "function" || t == .type "method_descriptor"
section
variable {w : World} {A : Around} {E : Value → Shared → Prop} {s : Shared} {x : Addr} {ox : Obj} {od : Option Obj} {name : Str} {pl : Sem Bool}
theorem acc_method {r : Value} {Q : Value × List Value → Shared → Prop} (X : (hd.heap_39 w.params).In s.heap) (I : InstAt s.heap x ox 214 od) (hf : findIn (hd.heap_39 w.params) (.ref 214) name = some (some r)) (ht : methTy (typeIn (hd.heap_39 w.params) r) = true)
    (hs : shadowIn od name = some false) (h : Q (r, [.ref x]) s) : wpAny (model pr w) A (getMethod (.ref x) name pl) Q E s := by
  have hga : findIn (hd.heap_39 w.params) (.ref 214) "__getattribute__" = some (some (.builtin "list.__getattribute__")) := by kernel_rfl
  have hk : findIn (hd.heap_39 w.params) (.ref 214) "__getattr__" = some none := by kernel_rfl
  have hcan := canon_list_ga
  obtain ⟨t, a1, a2⟩ := any_some ht
  unfold getMethod specialOf
  refine wpAny_bind (wpAny_bind (I.type.here ((looks_findIn X hga).here ?_)))
  dsimp only
  rw [hcan, if_neg (by decide)]
  refine wpAny_bind (wpAny_bind (I.type.here ((looks_findIn X hk).here ?_)))
  refine wpAny_bind (wpAny_bind (I.type.here ((looks_findIn X hf).here (wpAny_bind ((looks_typeIn X a1).here ?_)))))
  have hne : (t != .type "function" && t != .type "method_descriptor" && t != .type "wrapper_descriptor") = false := by
    rcases Bool.or_eq_true_iff.mp a2 with e | e <;> (rw [beq_iff_eq] at e; subst e; decide +kernel)
  rw [if_neg (by rw [hne]; decide)]
  refine wpAny_bind (wpAny_loadPart I.at_ ?_)
  have hd := I.dict
  cases e : ox.dict with
  | none => exact wpAny_bind (wpAny_rule (wpAny_pure h))
  | some dx =>
    cases od with
    | none => rw [e] at hd; exact hd.elim
    | some o =>
      rw [e] at hd
      obtain ⟨r, a, b⟩ := Option.map_eq_some_iff.mp hs
      refine wpAny_bind (wpAny_bind (wpAny_loadPart hd ?_))
      rw [nsLook_of a]
      refine wpAny_pure ?_
      rw [b]
      exact wpAny_bind (wpAny_rule (wpAny_pure h))
theorem lga_kind : builtinKind "list.__getattribute__" = some .slot := by decide +kernel
theorem lga_split : splitId "list.__getattribute__" = some ("list", "__getattribute__") := by decide +kernel
theorem lga_plain : plainId "list.__getattribute__" = true := by decide +kernel
theorem lga_entry : entryFor table "list.__getattribute__" = some Builtin.«object.__getattribute__» := entryFor_alias (id' := "object.__getattribute__") (by kernel_rfl) (by decide +kernel) (by decide +kernel) (by kernel_rfl)
theorem lga_args (a b : Value) : argsOk "list.__getattribute__" ⟨[a, b], []⟩ := by unfold argsOk; kernel_rfl
theorem lga_bind (self : Value) : bindSpecial (.builtin "list.__getattribute__") self = pure (.builtin "list.__getattribute__", [self]) := by kernel_rfl
theorem inst_list {h : Heap} (X : (hd.heap_39 w.params).In h) (I : InstAt h x ox 214 od) : Looks (model pr w) h (isInstance (.ref x) (.type "list")) true :=
  I.type.andThen (list_acc X)
theorem acc_get {v : Value} {expr : Bool} {Q : Value → Shared → Prop} (X : (hd.heap_39 w.params).In s.heap) (I : InstAt s.heap x ox 214 od) (hf : findObj (hd.heap_39 w.params) 214 od name = some (.value v)) (hh : handedIn v = true)
    (h : Q v { s with toks := s.toks + 1 }) : wpAny (model pr w) A (getAttr (.ref x) name expr) Q E s := by
  have hga : findIn (hd.heap_39 w.params) (.ref 214) "__getattribute__" = some (some (.builtin "list.__getattribute__")) := by kernel_rfl
  have hk : findIn (hd.heap_39 w.params) (.ref 214) "__getattr__" = some none := by kernel_rfl
  obtain ⟨hp, g, d, t, os⟩ := s
  have L0 := I.type (M := model pr w)
  have L1 := looks_findIn (M := model pr w) X hga
  have L2 := looks_findIn (M := model pr w) X hk
  have L3 := looks_find (M := model pr w) X I hf
  have LI := inst_list X I
  unfold getAttr getAttrBy
  refine wpAny_bind (wpAny_mkText (wpAny_holding (wpAny_bind (L0.at (wpAny_bind (L1.at ?_))))))
  show wpAny _ _ (getAttrByItsOwn _ _ _ _ _ _) _ _ _
  unfold getAttrByItsOwn
  refine wpAny_bind ?_
  show wpAny _ _ (typeLookup (.ref 214) "__getattr__") _ _ _
  refine L2.at ?_
  refine wpAny_bind (wpAny_attempt (wpAny_holding ?_))
  have e : (expr && onTheHeap (Value.builtin "list.__getattribute__")) = false := by cases expr <;> rfl
  show wpAny _ _ (if (expr && onTheHeap (Value.builtin "list.__getattribute__")) = true then _ else boundAndCalled _ _ _) _ _ _
  rw [e]
  show wpAny _ _ (boundAndCalled _ _ _) _ _ _
  unfold boundAndCalled
  rw [lga_bind]
  refine wpAny_bind (wpAny_pure ?_)
  show wpAny _ _ (PySem.call (.builtin "list.__getattribute__") [.ref x, .str name t] []) _ _ _
  refine wpAny_call ?_
  refine codeAny_call_builtin lga_plain lga_entry ?_
  refine @check_slot (model pr w) _ _ _ "list.__getattribute__" "list" "__getattribute__" (.ref x) [.str name t] [] _ lga_kind lga_split LI (lga_args (.ref x) (.str name t)) ?_
  unfold Builtin.«object.__getattribute__»
  repeat lk
  show wpAny _ _ (handedOut v) _ _ _
  rw [handedOut_of hh]
  exact wpAny_pure h
end
end Mine
end
section
open PySem PySem.W PyProof.Rows PySem.Calls Builtin Builtin.ObjectAttr Builtin.Getset_descriptor
set_option Elab.async false
set_option maxRecDepth 100000
set_option maxHeartbeats 4000000
namespace Mine
theorem inst_acc {h₀ h : Heap} {L x dx : Addr} {vs : Array Value} {n : Nat} {news : List (Addr × Obj)} {od : Obj} (N : News h₀ L h news) (h1 : (x, accObj dx vs n) ∈ news) (h2 : (dx, od) ∈ news) :
    InstAt h x (accObj dx vs n) 214 (some od) := ⟨(N _ h1).1, rfl, rfl, (N _ h2).1⟩
section
variable {w : World} {A : Around} {E : Value → Shared → Prop} {s : Shared} {x dx L : Addr} {h₀ : Heap} {m : Str → Option Value} {news news' : List (Addr × Obj)} {es : List DictEntry} {n : Nat} {ox : Obj} {name : Str}
theorem acc_getK {v : Value} {expr : Bool} {attr : Option Value} {Q : Value → Shared → Prop} (F : Fr h₀ L s.heap m) (X₀ : (hd.heap_39 w.params).In h₀) (I : InstAt s.heap x ox 214 (some (dictOf es n)))
    (ha : findIn (hd.heap_39 w.params) (.ref 214) name = some attr) (hn : noGet (hd.heap_39 w.params) attr = true) (hl : getL name es = some (some v)) (hv : handedIn v = true) (h : Q v { s with toks := s.toks + 1 }) :
    wpAny (model pr w) A (getAttr (.ref x) name expr) Q E s :=
  acc_get (X₀.keeps F.keep) I (findObj_own (by kernel_rfl) ha hn hl) hv h
theorem acc_methodK {r : Value} {pl : Sem Bool} {Q : Value × List Value → Shared → Prop} (F : Fr h₀ L s.heap m) (X₀ : (hd.heap_39 w.params).In h₀) (I : InstAt s.heap x ox 214 (some (dictOf es n)))
    (hf : findIn (hd.heap_39 w.params) (.ref 214) name = some (some r)) (ht : methTy (typeIn (hd.heap_39 w.params) r) = true) (hl : getL name es = some none) (h : Q (r, [.ref x]) s) :
    wpAny (model pr w) A (getMethod (.ref x) name pl) Q E s :=
  acc_method (X₀.keeps F.keep) I hf ht (by show (lookIn name (dictOf es n)).map _ = _; rw [lookIn_dict, hl]; rfl) h
end
section
variable {w : World} {A : Around} {E : Value → Shared → Prop} {s : Shared} {x dx L : Addr} {h₀ : Heap} {m : Str → Option Value} {news news' : List (Addr × Obj)} {es es' : List DictEntry} {n n' : Nat} {vs : Array Value} {k : Nat} {name : Str} {v : Value}
theorem refuse_acc {ox : Obj} {od : Option Obj} {h : Heap} (X : (hd.heap_39 w.params).In h) (I : InstAt h x ox 214 od) : Looks (model pr w) h (refuseIfOverridden (.ref x) "__setattr__") () := by
  unfold refuseIfOverridden
  exact I.type.andThen (Looks.of_peek X (by kernel_rfl))
theorem acc_set {Q : Unit → Shared → Prop} (F : Fr h₀ L s.heap m) (X₀ : (hd.heap_39 w.params).In h₀) (N : News h₀ L s.heap news) (I : InstAt s.heap x (accObj dx vs k) 214 (some (dictOf es n)))
    (ht : takerIn (hd.heap_39 w.params) 214 name = some none) (hl : (getL name es).isSome = true)
    (e : (putL name (PyData.keyHash w.params name) (.str name (s.toks + 1)) v es, putN name es n) = (es', n')) (U : Upd dx (dictOf es n) (dictOf es' n') news news') (hz : es'.length ≤ 1000)
    (h : ∀ h', Fr h₀ L h' m → News h₀ L h' news' → Q () { s with heap := h', toks := s.toks + 2 }) :
    wpAny (model pr w) A (setAttr (.ref x) name v) Q E s := by
  have X := X₀.keeps F.keep
  obtain ⟨hp, g, d, t, os⟩ := s
  dsimp only at F N X I e h
  have hs : findIn (hd.heap_39 w.params) (.ref 214) "__setattr__" = some (some (.builtin "object.__setattr__")) := by kernel_rfl
  have hh : hasDictIn (hd.heap_39 w.params) 214 = true := by kernel_rfl
  obtain ⟨pre, post, rfl, rfl, a, b⟩ := U.split
  obtain ⟨e1, e2⟩ := Prod.mk.inj e
  obtain ⟨cd, hc, hd'⟩ := any_some hh
  refine set_plain X I hs ?_
  have SF := PySem.F.store_object
  have sub : Looks (model pr w) hp (isInstance (.ref x) (.type "object")) true := I.type.andThen (Looks.of_peek X (by kernel_rfl))
  refine codeAny_call_builtin SF.slot.plain SF.entry (@check_slot (model pr w) _ _ _ "object.__setattr__" "object" "__setattr__" (.ref x) [.str name t, v] [] _ SF.kind SF.split sub (SF.args (.ref x) (.str name t) v) ?_)
  obtain ⟨attr, ha, hr⟩ := Option.bind_eq_some_iff.mp ht
  have L3 : Looks (model pr w) hp (storeTaker? attr) none := by
    cases attr with
    | none => exact .now
    | some a =>
      obtain ⟨b, hb, eb⟩ := Option.map_eq_some_iff.mp hr
      cases b with
      | true => cases eb
      | false => exact (looks_takesIn X hb).andThen .now
  have L1 := refuse_acc X I
  have L2 := looks_findIn (M := model pr w) X ha
  obtain ⟨U1, U2⟩ := news_upd (h := hp) (f := Obj.putName name (PyData.keyHash w.params name) (.str name (t + 1)) v) F N a b (by rw [putName_dict, e1, e2]) rfl
  have D := (N (dx, dictOf es n) (by simp)).1
  have D' := (U2 (dx, dictOf es' n') (by simp)).1
  rw [osa_eq]
  refine wpAny_bind (L1.at (wpAny_bind (I.type.at (wpAny_bind (L2.at (wpAny_bind (L3.at ?_)))))))
  have hx := I.at_
  refine wpAny_bind (wpAny_pure (wpAny_bind (wpAny_bind (wpAny_loadPart hx (wpAny_bind ((looks_clsIn X hc).at ?_))))))
  rw [hd']
  refine wpAny_pure (a := some dx) (wpAny_bind (wpAny_pure (wpAny_bind ?_)))
  unfold nsSet
  refine wpAny_bind (wpAny_bind (wpAny_askSetting (wpAny_pure (wpAny_bind (wpAny_mkText (wpAny_bind (wpAny_loadPart D ?_)))))))
  have hl' : (!es.any (·.key.isStr name) && es.any (·.refKey)) = false := by
    unfold getL at hl
    split at hl
    · rename_i en he
      rw [List.any_eq_true.mpr ⟨en, List.mem_of_find?_eq_some he, List.find?_some he⟩]; rfl
    · split at hl
      · cases hl
      · rename_i z
        rw [Bool.not_eq_true] at z
        rw [z, Bool.and_false]
  have hl'' : (!es.toArray.any (·.key.isStr name) && es.toArray.any (·.refKey)) = false := by
    rw [← Array.any_toList, ← Array.any_toList]; exact hl'
  dsimp only
  rw [aRefKeyMayBeTheName_at, hl'']
  refine wpAny_updatePart D ?_
  refine wpAny_bind (wpAny_lookBehind D' (pastItsLine_dict (by rw [List.size_toArray, sizeLine_eq]; omega)) ?_)
  exact wpAny_pure (h _ U1 U2)
end
end Mine
end
section
open PySem PySem.W PyProof.Rows PySem.Calls Builtin Builtin.ObjectAttr Builtin.Getset_descriptor
set_option Elab.async false
set_option maxRecDepth 100000
set_option maxHeartbeats 4000000
namespace Mine
noncomputable abbrev superObj (x : Addr) : Obj := ks_superObj 214 x 214
noncomputable abbrev boundObj (T id : String) (x : Addr) : Obj := { cls := .type T, data := .fields #[.builtin id, .ref x] }
theorem wd_kind : builtinKind "wrapper_descriptor.__get__" = some .slot := by decide +kernel
theorem wd_split : splitId "wrapper_descriptor.__get__" = some ("wrapper_descriptor", "__get__") := by decide +kernel
theorem wd_plain : plainId "wrapper_descriptor.__get__" = true := by decide +kernel
theorem wd_entry : entryFor table "wrapper_descriptor.__get__" = some Builtin.«wrapper_descriptor.__get__» := entryFor_of_tree (by kernel_rfl)
theorem wd_args (a b c : Value) : argsOk "wrapper_descriptor.__get__" ⟨[a, b, c], []⟩ := by unfold argsOk; kernel_rfl
theorem md_kind : builtinKind "method_descriptor.__get__" = some .slot := by decide +kernel
theorem md_split : splitId "method_descriptor.__get__" = some ("method_descriptor", "__get__") := by decide +kernel
theorem md_plain : plainId "method_descriptor.__get__" = true := by decide +kernel
theorem md_entry : entryFor table "method_descriptor.__get__" = some Builtin.«method_descriptor.__get__» := entryFor_of_tree (by kernel_rfl)
theorem md_args (a b c : Value) : argsOk "method_descriptor.__get__" ⟨[a, b, c], []⟩ := by unfold argsOk; kernel_rfl
section
variable {w : World} {A : Around} {E : Value → Shared → Prop} {h : Heap} {g : Array GenState} {d : Drawn} {t : Nat} {os : OsState}
theorem super_ga_w {nm : Str} {bn : String} (hcl : (nm == ("__class__" : Str)) = false) (own : classOwn (.type "list") nm = pure (some (.builtin bn))) (hty : typeOf (.builtin bn) = pure (.type "wrapper_descriptor")) (hii : isInstance (.builtin bn) (.type "wrapper_descriptor") = pure true) (hpre : ".".intercalate (bn.cutAt '.').dropLast = "list") {so x : Addr} {tk : Tok} {Q : Fin → Shared → Prop} (hso : h.get? so = some (superObj x)) (X : (hd.heap_39 w.params).In h) (hx : x ≠ 214) (LI : Looks (model pr w) h (isInstance (.ref x) (.type "list")) true)
    (hq : Q (.done (.ret (.ref h.objs.size))) ⟨h.push (boundObj "method-wrapper" bn x), g, d, t, os⟩) :
    wpAny (model pr w) A (Builtin.«super.__getattribute__» ⟨[.ref so, .str nm tk], []⟩) Q E ⟨h, g, d, t, os⟩ := by
  have hno : Looks (model pr w) h (opaqueClassAbove (.ref 214)) none := Looks.of_peek X (by kernel_rfl)
  have hm : Looks (model pr w) h (mroOf (.ref 214)) [.ref 214, .type "list", .type "object"] := Looks.of_peek X (by kernel_rfl)
  have hlk : typeLookup (.type "wrapper_descriptor") "__get__" = pure (some (.builtin "wrapper_descriptor.__get__")) := by rw [typeLookup_type, builtinLookup_eq_fast]; kernel_rfl
  have hne : (Value.ref x == Value.ref 214) = false := by simp [hx]
  have hdt : (superObj x).data = .fields #[.ref 214, .ref x, .ref 214] := rfl
  have f0 : (#[.ref 214, .ref x, .ref 214] : Array Value)[0]? = some (.ref 214) := rfl
  have f1 : (#[.ref 214, .ref x, .ref 214] : Array Value)[1]? = some (.ref x) := rfl
  have f2 : (#[.ref 214, .ref x, .ref 214] : Array Value)[2]? = some (.ref 214) := rfl
  have hafter : (([.ref 214, .type "list", .type "object"] : List Value).dropWhile (· != .ref 214)).drop 1 = [.type "list", .type "object"] := by decide +kernel
  unfold Builtin.«super.__getattribute__»
  repeat (first
    | (with_reducible refine wpAny_field hso hdt f0 ?_) | (with_reducible refine wpAny_field hso hdt f1 ?_) | (with_reducible refine wpAny_field hso hdt f2 ?_)
    | (with_reducible refine ks_wpAny_notOpaque hno ?_)
    | (with_reducible refine Looks.at hm ?_; rw [hafter])
    | with_reducible refine wpAny_of_eq own ?_
    | with_reducible refine wpAny_of_eq hty ?_
    | with_reducible refine wpAny_of_eq hlk ?_
    | with_reducible refine wpAny_call ?_
    | wp_step
    | (simp only [hne, hcl, Bool.false_eq_true, if_false])
    | dsimp only)
  refine codeAny_call_builtin wd_plain wd_entry (@check_slot (model pr w) _ _ _ "wrapper_descriptor.__get__" "wrapper_descriptor" "__get__" (.builtin bn) [.ref x, .ref 214] [] _ wd_kind wd_split (Looks.of_pure hii) (wd_args _ _ _) ?_)
  unfold Builtin.«wrapper_descriptor.__get__»
  have LI' : Looks (model pr w) h (isInstance (.ref x) (.type (".".intercalate (bn.cutAt '.').dropLast))) true := by
    rw [hpre]; exact LI
  repeat lk
  exact hq
theorem super_ga_init {so x : Addr} {tk : Tok} {Q : Fin → Shared → Prop} (hso : h.get? so = some (superObj x)) (X : (hd.heap_39 w.params).In h) (hx : x ≠ 214) (LI : Looks (model pr w) h (isInstance (.ref x) (.type "list")) true)
    (hq : Q (.done (.ret (.ref h.objs.size))) ⟨h.push (boundObj "method-wrapper" "list.__init__" x), g, d, t, os⟩) :
    wpAny (model pr w) A (Builtin.«super.__getattribute__» ⟨[.ref so, .str "__init__" tk], []⟩) Q E ⟨h, g, d, t, os⟩ :=
  super_ga_w (nm := "__init__") (bn := "list.__init__") (by decide +kernel) (by kernel_rfl) (by kernel_rfl) (by kernel_rfl) (by decide +kernel) hso X hx LI hq
theorem super_meth_init {so x : Addr} {pl : Sem Bool} {Q : Value × List Value → Shared → Prop} (hso : h.get? so = some (superObj x)) (X : (hd.heap_39 w.params).In h) (hx : x ≠ 214) (LI : Looks (model pr w) h (isInstance (.ref x) (.type "list")) true)
    (hq : Q (.ref h.objs.size, []) ⟨h.push (boundObj "method-wrapper" "list.__init__" x), g, d, t + 1, os⟩) : wpAny (model pr w) A (getMethod (.ref so) "__init__" pl) Q E ⟨h, g, d, t, os⟩ := by
  have hlk := F.ks_slot_super_ga.lookup
  have hcan := F.ks_canon_super_ga
  have hT : ∀ t', (⟨h, g, d, t', os⟩ : Shared).TypeIs (.ref so) "super" := fun _ => ⟨_, hso, rfl⟩
  unfold getMethod
  refine wpAny_bind (wpAny_specialOf (hT _) hlk ?_)
  show wpAny _ _ (if (Manifest.canonical "super.__getattribute__" != "object.__getattribute__") = true then _ else _) _ _ _
  rw [if_pos hcan]
  unfold getAttr getAttrBy
  refine wpAny_bind (wpAny_bind (wpAny_mkText (wpAny_holding (wpAny_bind (wpAny_typeOf (hT _) (wpAny_bind (wpAny_of_eq hlk ?_)))))))
  show wpAny _ _ (getAttrByItsOwn (.ref so) (.str "__init__" t) (.type "super") (.builtin "super.__getattribute__") true false) _ _ _
  unfold getAttrByItsOwn hookBefore callGetattribute boundAndCalled
  refine wpAny_bind (wpAny_of_eq (show (if onTheHeap (.type "super") then typeLookup (.type "super") "__getattr__" else pure none) = pure none from rfl) ?_)
  refine wpAny_bind (wpAny_attempt (wpAny_holding ?_))
  show wpAny _ _ (bindSpecial (.builtin "super.__getattribute__") (.ref so) >>= _) _ _ _
  refine wpAny_bind (wpAny_of_eq (F.ks_slot_super_ga.bind _) ?_)
  refine wpAny_mono (Q := fun v s' => v = .ref h.objs.size ∧ s' = ⟨h.push (boundObj "method-wrapper" "list.__init__" x), g, d, t + 1, os⟩) (E := fun _ _ => False)
    (wpAny_call_entry F.ks_slot_super_ga (hT _) F.ks_entry_super_ga (super_ga_init hso X hx LI ⟨_, rfl, rfl, rfl⟩) (F.ks_gaArgs_super _ _)) (fun v s' hv => ?_) fun _ _ z => z.elim
  obtain ⟨rfl, rfl⟩ := hv
  exact wpAny_pure (wpAny_pure hq)
theorem super_ga_len {so x : Addr} {tk : Tok} {Q : Fin → Shared → Prop} (hso : h.get? so = some (superObj x)) (X : (hd.heap_39 w.params).In h) (hx : x ≠ 214) (LI : Looks (model pr w) h (isInstance (.ref x) (.type "list")) true)
    (hq : Q (.done (.ret (.ref h.objs.size))) ⟨h.push (boundObj "method-wrapper" "list.__len__" x), g, d, t, os⟩) :
    wpAny (model pr w) A (Builtin.«super.__getattribute__» ⟨[.ref so, .str "__len__" tk], []⟩) Q E ⟨h, g, d, t, os⟩ :=
  super_ga_w (nm := "__len__") (bn := "list.__len__") (by decide +kernel) (by kernel_rfl) (by kernel_rfl) (by kernel_rfl) (by decide +kernel) hso X hx LI hq
theorem super_meth_len {so x : Addr} {pl : Sem Bool} {Q : Value × List Value → Shared → Prop} (hso : h.get? so = some (superObj x)) (X : (hd.heap_39 w.params).In h) (hx : x ≠ 214) (LI : Looks (model pr w) h (isInstance (.ref x) (.type "list")) true)
    (hq : Q (.ref h.objs.size, []) ⟨h.push (boundObj "method-wrapper" "list.__len__" x), g, d, t + 1, os⟩) : wpAny (model pr w) A (getMethod (.ref so) "__len__" pl) Q E ⟨h, g, d, t, os⟩ := by
  have hlk := F.ks_slot_super_ga.lookup
  have hcan := F.ks_canon_super_ga
  have hT : ∀ t', (⟨h, g, d, t', os⟩ : Shared).TypeIs (.ref so) "super" := fun _ => ⟨_, hso, rfl⟩
  unfold getMethod
  refine wpAny_bind (wpAny_specialOf (hT _) hlk ?_)
  show wpAny _ _ (if (Manifest.canonical "super.__getattribute__" != "object.__getattribute__") = true then _ else _) _ _ _
  rw [if_pos hcan]
  unfold getAttr getAttrBy
  refine wpAny_bind (wpAny_bind (wpAny_mkText (wpAny_holding (wpAny_bind (wpAny_typeOf (hT _) (wpAny_bind (wpAny_of_eq hlk ?_)))))))
  show wpAny _ _ (getAttrByItsOwn (.ref so) (.str "__len__" t) (.type "super") (.builtin "super.__getattribute__") true false) _ _ _
  unfold getAttrByItsOwn hookBefore callGetattribute boundAndCalled
  refine wpAny_bind (wpAny_of_eq (show (if onTheHeap (.type "super") then typeLookup (.type "super") "__getattr__" else pure none) = pure none from rfl) ?_)
  refine wpAny_bind (wpAny_attempt (wpAny_holding ?_))
  show wpAny _ _ (bindSpecial (.builtin "super.__getattribute__") (.ref so) >>= _) _ _ _
  refine wpAny_bind (wpAny_of_eq (F.ks_slot_super_ga.bind _) ?_)
  refine wpAny_mono (Q := fun v s' => v = .ref h.objs.size ∧ s' = ⟨h.push (boundObj "method-wrapper" "list.__len__" x), g, d, t + 1, os⟩) (E := fun _ _ => False)
    (wpAny_call_entry F.ks_slot_super_ga (hT _) F.ks_entry_super_ga (super_ga_len hso X hx LI ⟨_, rfl, rfl, rfl⟩) (F.ks_gaArgs_super _ _)) (fun v s' hv => ?_) fun _ _ z => z.elim
  obtain ⟨rfl, rfl⟩ := hv
  exact wpAny_pure (wpAny_pure hq)
theorem super_ga_pop {so x : Addr} {tk : Tok} {Q : Fin → Shared → Prop} (hso : h.get? so = some (superObj x)) (X : (hd.heap_39 w.params).In h) (hx : x ≠ 214) (LI : Looks (model pr w) h (isInstance (.ref x) (.type "list")) true)
    (hq : Q (.done (.ret (.ref h.objs.size))) ⟨h.push (boundObj "builtin_function_or_method" "list.pop" x), g, d, t, os⟩) :
    wpAny (model pr w) A (Builtin.«super.__getattribute__» ⟨[.ref so, .str "pop" tk], []⟩) Q E ⟨h, g, d, t, os⟩ := by
  have hno : Looks (model pr w) h (opaqueClassAbove (.ref 214)) none := Looks.of_peek X (by kernel_rfl)
  have hm : Looks (model pr w) h (mroOf (.ref 214)) [.ref 214, .type "list", .type "object"] := Looks.of_peek X (by kernel_rfl)
  have own : classOwn (.type "list") "pop" = pure (some (.builtin "list.pop")) := by kernel_rfl
  have hty : typeOf (.builtin "list.pop") = pure (.type "method_descriptor") := by kernel_rfl
  have hlk : typeLookup (.type "method_descriptor") "__get__" = pure (some (.builtin "method_descriptor.__get__")) := by rw [typeLookup_type, builtinLookup_eq_fast]; kernel_rfl
  have hne : (Value.ref x == Value.ref 214) = false := by simp [hx]
  have hdt : (superObj x).data = .fields #[.ref 214, .ref x, .ref 214] := rfl
  have f0 : (#[.ref 214, .ref x, .ref 214] : Array Value)[0]? = some (.ref 214) := rfl
  have f1 : (#[.ref 214, .ref x, .ref 214] : Array Value)[1]? = some (.ref x) := rfl
  have f2 : (#[.ref 214, .ref x, .ref 214] : Array Value)[2]? = some (.ref 214) := rfl
  have hafter : (([.ref 214, .type "list", .type "object"] : List Value).dropWhile (· != .ref 214)).drop 1 = [.type "list", .type "object"] := by decide +kernel
  unfold Builtin.«super.__getattribute__»
  repeat (first
    | (with_reducible refine wpAny_field hso hdt f0 ?_) | (with_reducible refine wpAny_field hso hdt f1 ?_) | (with_reducible refine wpAny_field hso hdt f2 ?_)
    | (with_reducible refine ks_wpAny_notOpaque hno ?_)
    | (with_reducible refine Looks.at hm ?_; rw [hafter])
    | with_reducible refine wpAny_of_eq own ?_
    | with_reducible refine wpAny_of_eq hty ?_
    | with_reducible refine wpAny_of_eq hlk ?_
    | with_reducible refine wpAny_call ?_
    | wp_step
    | (simp only [hne, Bool.false_eq_true, if_false])
    | dsimp only)
  refine codeAny_call_builtin md_plain md_entry (@check_slot (model pr w) _ _ _ "method_descriptor.__get__" "method_descriptor" "__get__" (.builtin "list.pop") [.ref x, .ref 214] [] _ md_kind md_split (Looks.of_pure (by kernel_rfl)) (md_args _ _ _) ?_)
  unfold Builtin.«method_descriptor.__get__»
  have isT : Looks (model pr w) h (isType (.ref 214)) true := isT_acc X
  have told : Manifest.toldItsClass.contains "list.pop" = false := by decide +kernel
  have LI' : Looks (model pr w) h (isInstance (.ref x) (.type (".".intercalate ("list.pop".cutAt '.').dropLast))) true := by
    rw [show ".".intercalate ("list.pop".cutAt '.').dropLast = "list" from by decide +kernel]; exact LI
  repeat lk
  exact hq
theorem super_meth_pop {so x : Addr} {pl : Sem Bool} {Q : Value × List Value → Shared → Prop} (hso : h.get? so = some (superObj x)) (X : (hd.heap_39 w.params).In h) (hx : x ≠ 214) (LI : Looks (model pr w) h (isInstance (.ref x) (.type "list")) true)
    (hq : Q (.ref h.objs.size, []) ⟨h.push (boundObj "builtin_function_or_method" "list.pop" x), g, d, t + 1, os⟩) : wpAny (model pr w) A (getMethod (.ref so) "pop" pl) Q E ⟨h, g, d, t, os⟩ := by
  have hlk := F.ks_slot_super_ga.lookup
  have hcan := F.ks_canon_super_ga
  have hT : ∀ t', (⟨h, g, d, t', os⟩ : Shared).TypeIs (.ref so) "super" := fun _ => ⟨_, hso, rfl⟩
  unfold getMethod
  refine wpAny_bind (wpAny_specialOf (hT _) hlk ?_)
  show wpAny _ _ (if (Manifest.canonical "super.__getattribute__" != "object.__getattribute__") = true then _ else _) _ _ _
  rw [if_pos hcan]
  unfold getAttr getAttrBy
  refine wpAny_bind (wpAny_bind (wpAny_mkText (wpAny_holding (wpAny_bind (wpAny_typeOf (hT _) (wpAny_bind (wpAny_of_eq hlk ?_)))))))
  show wpAny _ _ (getAttrByItsOwn (.ref so) (.str "pop" t) (.type "super") (.builtin "super.__getattribute__") true false) _ _ _
  unfold getAttrByItsOwn hookBefore callGetattribute boundAndCalled
  refine wpAny_bind (wpAny_of_eq (show (if onTheHeap (.type "super") then typeLookup (.type "super") "__getattr__" else pure none) = pure none from rfl) ?_)
  refine wpAny_bind (wpAny_attempt (wpAny_holding ?_))
  show wpAny _ _ (bindSpecial (.builtin "super.__getattribute__") (.ref so) >>= _) _ _ _
  refine wpAny_bind (wpAny_of_eq (F.ks_slot_super_ga.bind _) ?_)
  refine wpAny_mono (Q := fun v s' => v = .ref h.objs.size ∧ s' = ⟨h.push (boundObj "builtin_function_or_method" "list.pop" x), g, d, t + 1, os⟩) (E := fun _ _ => False)
    (wpAny_call_entry F.ks_slot_super_ga (hT _) F.ks_entry_super_ga (super_ga_pop hso X hx LI ⟨_, rfl, rfl, rfl⟩) (F.ks_gaArgs_super _ _)) (fun v s' hv => ?_) fun _ _ z => z.elim
  obtain ⟨rfl, rfl⟩ := hv
  exact wpAny_pure (wpAny_pure hq)
end
end Mine
end
section
open PySem PySem.W PyProof.Rows PySem.Calls Builtin Builtin.ObjectAttr Builtin.Getset_descriptor
set_option Elab.async false
set_option maxRecDepth 100000
set_option maxHeartbeats 4000000
namespace Mine
section
variable {w : World} {A : Around} {R : Result → Shared → Prop} {h : Heap} {g : Array GenState} {d : Drawn} {t : Nat} {os : OsState} {q x dx : Addr} {vs : Array Value} {n : Nat}
theorem erase_last {α : Type} (vs : Array α) (v : α) : (vs.push v).eraseIdxIfInBounds vs.size = vs := by
  obtain ⟨l⟩ := vs
  simp [List.eraseIdx_append_of_length_le]
theorem notMod_acc (X : (hd.heap_39 w.params).In h) (ho : h.get? x = some (accObj dx vs n)) : Looks (model pr w) h (isInstance (.ref x) (.type "module")) false := by
  have t1 : Looks (model pr w) h (typeOf (.ref x)) (.ref 214) := (Looks.ld ho).andThen .now
  exact t1.andThen (Looks.of_peek X (by kernel_rfl))
theorem notTy_acc (ho : h.get? x = some (accObj dx vs n)) : Looks (model pr w) h (isType (.ref x)) false := by
  unfold isType
  exact (Looks.ld ho).andThen .now
theorem bound_init (hq : h.get? q = some (boundObj "method-wrapper" "list.__init__" x))
    (k : codeAny (model pr w) A (.builtin "list.__init__" ⟨[.ref x], []⟩) R ⟨h, g, d, t, os⟩) : codeAny (model pr w) A (.call (.ref q) ⟨[], []⟩) R ⟨h, g, d, t, os⟩ := by
  refine codeAny_of_tree ?_
  show wpAny _ A.in1 (callAny (.ref q) _) _ _ _
  have c : checkBoundCall "list.__init__" ⟨[.ref x], []⟩ = pure () := by kernel_rfl
  unfold callAny
  repeat (first | with_reducible refine wpAny_of_eq c ?_ | lk)
  exact ⟨Code.quiet_builtin _ (by decide +kernel), k⟩
theorem bound_len (hq : h.get? q = some (boundObj "method-wrapper" "list.__len__" x))
    (k : codeAny (model pr w) A (.builtin "list.__len__" ⟨[.ref x], []⟩) R ⟨h, g, d, t, os⟩) : codeAny (model pr w) A (.call (.ref q) ⟨[], []⟩) R ⟨h, g, d, t, os⟩ := by
  refine codeAny_of_tree ?_
  show wpAny _ A.in1 (callAny (.ref q) _) _ _ _
  have c : checkBoundCall "list.__len__" ⟨[.ref x], []⟩ = pure () := by kernel_rfl
  unfold callAny
  repeat (first | with_reducible refine wpAny_of_eq c ?_ | lk)
  exact ⟨Code.quiet_builtin _ (by decide +kernel), k⟩
noncomputable def loadChk2 (K : Frag) : Bool := match K.lookup 214 with
  | some ⟨_, _, .cls cd, _⟩ => cd.qualname == ("_Accumulator" : Str)
  | _ => false
theorem load_acc2 (X : (hd.heap_39 w.params).In h) : ∃ oc od cd sl, h.get? 214 = some ⟨oc, od, .cls cd, sl⟩ ∧ cd.qualname = ("_Accumulator" : Str) := by
  have e : loadChk2 (hd.heap_39 w.params) = true := by kernel_rfl
  unfold loadChk2 at e
  split at e
  · rename_i oc od cd sl ho
    exact ⟨oc, od, cd, sl, X _ _ ho, beq_iff_eq.mp e⟩
  · cases e
theorem checkPop (X : (hd.heap_39 w.params).In h) (ho : h.get? x = some (accObj dx vs n)) : Looks (model pr w) h (checkBoundCall "list.pop" ⟨[.ref x], []⟩) () := by
  intro A Q E s k q
  obtain ⟨h', g, d, t, os⟩ := s
  have m := (notMod_acc X ho).keeps k
  have y := (notTy_acc (w := w) ho).keeps k
  have t0 : Looks (model pr w) h (typeOf (.ref x)) (.ref 214) := (Looks.ld ho).andThen .now
  have t1 := t0.keeps k
  have ty0 : Looks (model pr w) h (typeOf (.ref 214)) (.type "type") := Looks.of_peek X (by kernel_rfl)
  have ty := ty0.keeps k
  obtain ⟨oc, od, cd, sl, hC, hq⟩ := load_acc2 X
  have hC' := k _ _ hC
  have sg : Manifest.signature? "list.pop" = some ⟨.positional, "list.pop", "pop", .self, [⟨"index", .posOnly, false⟩]⟩ := by kernel_rfl
  have kd : builtinKind "list.pop" = some .method := by decide +kernel
  have va : Manifest.varargsMethods.contains "list.pop" = false := by decide +kernel
  have ck : Looks (model pr w) h' (Bind.checkArgs "list.pop" ⟨.positional, toString cd.qualname.toString ++ toString "." ++ toString (Bind.lastOf "list.pop"), "pop", .self, [⟨"index", .posOnly, false⟩]⟩ ⟨[.ref x], []⟩) () := by
    rw [hq]; exact Looks.of_peek (X.keeps k) (by kernel_rfl)
  unfold checkBoundCall
  rw [sg]
  simp only [kd, va]
  repeat lk
  exact q
theorem bound_pop (hq : h.get? q = some (boundObj "builtin_function_or_method" "list.pop" x)) (X : (hd.heap_39 w.params).In h) (ho : h.get? x = some (accObj dx vs n))
    (k : codeAny (model pr w) A (.builtin "list.pop" ⟨[.ref x], []⟩) R ⟨h, g, d, t, os⟩) : codeAny (model pr w) A (.call (.ref q) ⟨[], []⟩) R ⟨h, g, d, t, os⟩ := by
  refine codeAny_of_tree ?_
  show wpAny _ A.in1 (callAny (.ref q) _) _ _ _
  have c := checkPop X ho
  unfold callAny
  refine wpAny_bind (wpAny_load hq ?_)
  refine wpAny_bind (Looks.at c ?_)
  exact wpAny_pure ⟨Code.quiet_builtin _ (by decide +kernel), k⟩
/-- list.__init__ of an own list that is empty -/
theorem run_init (ho : h.get? x = some (accObj dx #[] n)) (k : ∀ h', Heap.SameBut x h h' → h'.get? x = some (accObj dx #[] n) → R (.ok (.ret .none)) ⟨h', g, d, t, os⟩) :
    codeAny (model pr w) A (.builtin "list.__init__" ⟨[.ref x], []⟩) R ⟨h, g, d, t, os⟩ := by
  refine codeAny_builtin (entryFor_of_tree (b := Builtin.«list.__init__») (by kernel_rfl)) ?_
  unfold Builtin.«list.__init__»
  refine wpAny_bind (wpAny_listItems ho rfl ?_)
  refine wpAny_bind (wpAny_updateSeq ho rfl ?_)
  refine wpAny_bind (wpAny_letGo ?_)
  exact wpAny_pure (k _ (Heap.SameBut.update ..) (by rw [Heap.get?_update_self _ ho rfl]; rfl))
/-- list.pop of an own list that is not empty -/
theorem run_pop {v : Value} (ho : h.get? x = some (accObj dx (vs.push v) n)) (hz : vs.size ≤ 1000) (k : ∀ h', Heap.SameBut x h h' → h'.get? x = some (accObj dx vs (n + 1)) → R (.ok (.ret v)) ⟨h', g, d, t, os⟩) :
    codeAny (model pr w) A (.builtin "list.pop" ⟨[.ref x], []⟩) R ⟨h, g, d, t, os⟩ := by
  refine codeAny_builtin (entryFor_of_tree (b := Builtin.«list.pop») (by kernel_rfl)) ?_
  unfold Builtin.«list.pop»
  have e1 : (vs.push v).isEmpty = false := by simp
  have e2 : ((seqIndex? (-1) (vs.push v).size).bind fun k => (vs.push v)[k]?.map (k, ·)) = some (vs.size, v) := by
    have : seqIndex? (-1) (vs.push v).size = some vs.size := by
      unfold seqIndex?
      simp
      try lia
    rw [this]; simp
  repeat lk
  rw [e1]
  simp only [Bool.false_eq_true, if_false]
  rw [e2]
  dsimp only
  refine wpAny_bind (wpAny_updateSeq ho rfl ?_ (by rw [Array.size_push, sizeLine_eq]; lia) (by rw [erase_last, sizeLine_eq]; lia))
  refine wpAny_pure (k _ (Heap.SameBut.update ..) ?_)
  rw [Heap.get?_update_self _ ho (by rfl)]
  unfold Obj.mapSeq
  dsimp only
  rw [erase_last, Array.size_push]
  have : (vs.size == vs.size + 1) = false := by simp
  rw [this]; rfl
theorem run_len (ho : h.get? x = some (accObj dx vs n)) (k : R (.ok (.ret (.int vs.size t))) ⟨h, g, d, t + 1, os⟩) :
    codeAny (model pr w) A (.builtin "list.__len__" ⟨[.ref x], []⟩) R ⟨h, g, d, t, os⟩ := by
  refine codeAny_builtin (entryFor_of_tree (b := Builtin.«list.__len__») (by kernel_rfl)) ?_
  unfold Builtin.«list.__len__»
  repeat lk
  exact k
end
end Mine
end
section
open PySem PySem.W PyProof.Rows PySem.Calls Builtin Builtin.ObjectAttr Builtin.Getset_descriptor
set_option Elab.async false
set_option maxRecDepth 100000
set_option maxHeartbeats 4000000
namespace Mine
theorem allNe_lt {d : Addr} : ∀ {l : List (Addr × Obj)}, AllLt d l → ∀ p ∈ l, p.1 ≠ d
  | [], _ => fun _ h => nomatch h
  | _ :: _, ⟨a, r⟩ => fun q h => by
    rcases List.mem_cons.mp h with rfl | h
    · exact Nat.ne_of_lt a
    · exact allNe_lt r q h
theorem allLt_mem {d : Addr} : ∀ {l : List (Addr × Obj)}, AllLt d l → ∀ p ∈ l, p.1 < d
  | [], _ => fun _ h => nomatch h
  | _ :: _, ⟨a, r⟩ => fun q h => by
    rcases List.mem_cons.mp h with rfl | h
    · exact a
    · exact allLt_mem r q h
theorem news_rot {h₀ h : Heap} {L : Addr} {a b c : Addr × Obj} {l : List (Addr × Obj)} (N : News h₀ L h (a :: b :: c :: l)) : News h₀ L h (b :: c :: a :: l) := fun p hp => N p (by
  rcases List.mem_cons.mp hp with rfl | hp
  · exact .tail _ (.head _)
  · rcases List.mem_cons.mp hp with rfl | hp
    · exact .tail _ (.tail _ (.head _))
    · rcases List.mem_cons.mp hp with rfl | hp
      · exact .head _
      · exact .tail _ (.tail _ (.tail _ hp)))
theorem news_drop1 {h₀ h : Heap} {L : Addr} {a : Addr × Obj} {l : List (Addr × Obj)} (N : News h₀ L h (a :: l)) : News h₀ L h l := fun p hp => N p (.tail _ hp)
theorem news_drop2 {h₀ h : Heap} {L : Addr} {a b : Addr × Obj} {l : List (Addr × Obj)} (N : News h₀ L h (a :: b :: l)) : News h₀ L h l := fun p hp => N p (.tail _ (.tail _ hp))
/-- the dict of an own list -/
noncomputable abbrev iniD (w : World) (k : Int) (tk t : Tok) : Obj := dictOf [⟨PyData.keyHash w.params "_initial_size", .str "_initial_size" tk, .int k t⟩] 1
section
variable {prog : Program} {w : World} {A A₀ : Around} {s : Shared} {K : Frag} {L : Addr} {h₀ base : Heap} {m mg mb : Str → Option Value} {news : List (Addr × Obj)} {p : Program} {loose : List Str} {mean : ExcName → Option Value}
/-- a def is entered: what the ledger holds lies below the frame -/
theorem code_defS {env : Env} {outer : List Env} {R : Result → Shared → Prop} {name qual : Str} {params : Arguments} {body : List Stmt} {scope : Scope} {dV kV doc pm cdv ct oc : Value} {an od : Option Addr} {osl : Array (Option Value)} {f : Addr} {args : Args} {binds : List (Str × Value)}
    (B : Below A₀ base outer h₀) (F : Fr h₀ L s.heap m) (X₀ : K.In h₀) (N : News h₀ L s.heap news) (T : Top p loose mean mg mb h₀) (hA : A.frames = some (env :: outer)) (hf : env.frame = some L) (hke : env.scope.kind = .function)
    (ho : K.lookup f = some ⟨oc, od, .func (fnOf name qual params body scope dV kV doc pm an cdv ct), osl⟩) (hcd : codeIn K cdv qual = true) (hroom : A.depth < recursionLimit)
    (hbind : BindsTo s (fnOf name qual params body scope dV kV doc pm an cdv ct) args binds) (hloc : ∀ y ∈ binds, scope.names.lookup y.1 = some .local)
    (h : ∀ g L' h₁, Fr h₀ L g m → Fr g L' h₁ (fun y => binds.reverse.lookup y) → News g L' h₁ news → Below A base (env :: outer) g → K.In g → Top p loose mean mg mb g → (∀ p ∈ news, p.1 < L') →
      wpAny (model prog w) (A.deeper (envOf qual scope L' f cdv)) (execs body (envOf qual scope L' f cdv))
        (fun fl s' => LeaveK h₀ L m g R (match fl with | .ret v => v | _ => .none) s')
        (fun e s' => wpAny (model prog w) (A.deeper (envOf qual scope L' f cdv)) («leaving» (envOf qual scope L' f cdv) e) (fun _ s'' => R (.error e) s'') (fun e' s'' => R (.error e') s'') s')
        { s with heap := h₁, toks := s.toks + binds.length })
    (hco : scope.isCoroutine = false) (hgen : scope.isGenerator = false) (hk : scope.kind = .function) (hcell : ∀ x ∈ scope.names, x.2 ≠ .cell) : codeAny (model prog w) A (.call (.ref f) args) R s :=
  callX_plain (cl := []) B F N T.nolimit hA hf hke ((X₀.keeps F.keep) _ _ ho) rfl (codeRec_of (X₀.keeps F.keep) hcd) hroom hbind hloc (fun g L' h₁ FG F' N' B' st l => h g L' h₁ FG F' N' B' (X₀.keeps st) (T.keeps st) l) hcell hco hgen hk
end
section
variable {w : World} {A : Around} {E : Value → Shared → Prop} {s : Shared} {q so x dx L : Addr} {h₀ : Heap} {m : Str → Option Value} {news news' : List (Addr × Obj)} {n : Nat} {ox : Obj} {od : Option Obj} {vs : Array Value} {v : Value}
theorem ne_214 {h : Heap} (X : (hd.heap_39 w.params).In h) (I : InstAt h x ox 214 od) : x ≠ 214 := by
  obtain ⟨oc, od, cd, sl, hC, -⟩ := load_acc2 X
  rintro rfl
  have e := I.at_
  rw [hC] at e
  cases e
  exact Bool.noConfusion I.no
theorem super_init_K {pl : Sem Bool} {Q : Value × List Value → Shared → Prop} (F : Fr h₀ L s.heap m) (X₀ : (hd.heap_39 w.params).In h₀) (N : News h₀ L s.heap news) (hso : (so, superObj x) ∈ news) (I : InstAt s.heap x ox 214 od)
    (h : ∀ q h', Fr h₀ L h' m → News h₀ L h' ((q, boundObj "method-wrapper" "list.__init__" x) :: news) → (∀ p ∈ news, p.1 < q) → Q (.ref q, []) { s with heap := h', toks := s.toks + 1 }) : wpAny (model pr w) A (getMethod (.ref so) "__init__" pl) Q E s := by
  have X := X₀.keeps F.keep
  obtain ⟨hh, g, d, t, os⟩ := s
  refine super_meth_init (N _ hso).1 X (ne_214 X I) (inst_list X I) ?_
  exact h _ _ (F.push _) (N.push F _) fun p hp => Heap.lt_size (N p hp).1
theorem super_len_K {pl : Sem Bool} {Q : Value × List Value → Shared → Prop} (F : Fr h₀ L s.heap m) (X₀ : (hd.heap_39 w.params).In h₀) (N : News h₀ L s.heap news) (hso : (so, superObj x) ∈ news) (I : InstAt s.heap x ox 214 od)
    (h : ∀ q h', Fr h₀ L h' m → News h₀ L h' ((q, boundObj "method-wrapper" "list.__len__" x) :: news) → (∀ p ∈ news, p.1 < q) → Q (.ref q, []) { s with heap := h', toks := s.toks + 1 }) : wpAny (model pr w) A (getMethod (.ref so) "__len__" pl) Q E s := by
  have X := X₀.keeps F.keep
  obtain ⟨hh, g, d, t, os⟩ := s
  refine super_meth_len (N _ hso).1 X (ne_214 X I) (inst_list X I) ?_
  exact h _ _ (F.push _) (N.push F _) fun p hp => Heap.lt_size (N p hp).1
theorem super_pop_K {pl : Sem Bool} {Q : Value × List Value → Shared → Prop} (F : Fr h₀ L s.heap m) (X₀ : (hd.heap_39 w.params).In h₀) (N : News h₀ L s.heap news) (hso : (so, superObj x) ∈ news) (I : InstAt s.heap x ox 214 od)
    (h : ∀ q h', Fr h₀ L h' m → News h₀ L h' ((q, boundObj "builtin_function_or_method" "list.pop" x) :: news) → (∀ p ∈ news, p.1 < q) → Q (.ref q, []) { s with heap := h', toks := s.toks + 1 }) : wpAny (model pr w) A (getMethod (.ref so) "pop" pl) Q E s := by
  have X := X₀.keeps F.keep
  obtain ⟨hh, g, d, t, os⟩ := s
  refine super_meth_pop (N _ hso).1 X (ne_214 X I) (inst_list X I) ?_
  exact h _ _ (F.push _) (N.push F _) fun p hp => Heap.lt_size (N p hp).1
theorem call_init_K {Q : Value → Shared → Prop} (F : Fr h₀ L s.heap m) (N : News h₀ L s.heap news) (hq : (q, boundObj "method-wrapper" "list.__init__" x) ∈ news) (U : Upd x (accObj dx #[] n) (accObj dx #[] n) news news')
    (h : ∀ h', Fr h₀ L h' m → News h₀ L h' news' → Q .none { s with heap := h' }) : wpAny (model pr w) A (call (.ref q) []) Q E s := by
  obtain ⟨pre, post, rfl, rfl, a, b⟩ := U.split
  obtain ⟨hh, g, d, t, os⟩ := s
  have z := N (x, accObj dx #[] n) (List.mem_append.mpr (.inr (.head _)))
  exact wpAny_call (bound_init (N _ hq).1 (run_init z.1 fun h' hs ho' => h h' (F.change hs z.2.1 z.2.2) (news_set N a b hs ho')))
theorem call_len_K {Q : Value → Shared → Prop} (N : News h₀ L s.heap news) (hq : (q, boundObj "method-wrapper" "list.__len__" x) ∈ news) (hx : (x, accObj dx vs n) ∈ news)
    (h : Q (.int vs.size s.toks) { s with toks := s.toks + 1 }) : wpAny (model pr w) A (call (.ref q) []) Q E s := by
  obtain ⟨hh, g, d, t, os⟩ := s
  exact wpAny_call (bound_len (N _ hq).1 (run_len (N _ hx).1 h))
theorem call_pop_K {Q : Value → Shared → Prop} (F : Fr h₀ L s.heap m) (X₀ : (hd.heap_39 w.params).In h₀) (N : News h₀ L s.heap news) (hq : (q, boundObj "builtin_function_or_method" "list.pop" x) ∈ news)
    (U : Upd x (accObj dx (vs.push v) n) (accObj dx vs (n + 1)) news news') (hz : vs.size ≤ 1000)
    (h : ∀ h', Fr h₀ L h' m → News h₀ L h' news' → Q v { s with heap := h' }) : wpAny (model pr w) A (call (.ref q) []) Q E s := by
  have X := X₀.keeps F.keep
  obtain ⟨pre, post, rfl, rfl, a, b⟩ := U.split
  obtain ⟨hh, g, d, t, os⟩ := s
  have z := N (x, accObj dx (vs.push v) n) (List.mem_append.mpr (.inr (.head _)))
  exact wpAny_call (bound_pop (N _ hq).1 X z.1 (run_pop z.1 hz fun h' hs ho' => h h' (F.change hs z.2.1 z.2.2) (news_set N a b hs ho')))
/-- list.append upon an own list -/
theorem acc_append {Q : Value → Shared → Prop} (F : Fr h₀ L s.heap m) (X₀ : (hd.heap_39 w.params).In h₀) (N : News h₀ L s.heap news) (U : Upd x (accObj dx vs n) (accObj dx (vs.push v) (n + 1)) news news') (hz : vs.size ≤ 1000)
    (h : ∀ h', Fr h₀ L h' m → News h₀ L h' news' → Q .none { s with heap := h' }) : wpAny (model pr w) A (call (.builtin "list.append") [.ref x, v]) Q E s := by
  have X := X₀.keeps F.keep
  obtain ⟨pre, post, rfl, rfl, a, b⟩ := U.split
  obtain ⟨hh, g, d, t, os⟩ := s
  have z := N (x, accObj dx vs n) (List.mem_append.mpr (.inr (.head _)))
  have t0 : Looks (model pr w) hh (typeOf (.ref x)) (.ref 214) := (Looks.ld z.1).andThen .now
  have LI : Looks (model pr w) hh (isInstance (.ref x) (.type "list")) true := t0.andThen (list_acc X)
  have kd : builtinKind "list.append" = some .method := by decide +kernel
  have sp : splitId "list.append" = some ("list", "append") := by decide +kernel
  have ck : ∀ a b : Value, argsOk "list.append" ⟨[a, b], []⟩ := fun a b => by unfold argsOk; kernel_rfl
  refine wpAny_call (codeAny_call_builtin (by decide +kernel) (entryFor_of_tree (b := Builtin.«list.append») (by kernel_rfl)) ?_)
  have chk : ∀ {Q' : Unit → Shared → Prop} {E' : Value → Shared → Prop}, Q' () ⟨hh, g, d, t, os⟩ → wpAny (model pr w) A.in1 (checkBuiltinCall "list.append" ⟨[.ref x, v], []⟩) Q' E' ⟨hh, g, d, t, os⟩ := by
    intro Q' E' q
    have ck' := ck (.ref x) v
    simp only [checkBuiltinCall, kd, sp]
    refine wpAny_bind (LI.at ?_)
    simp only [Bool.not_true, Bool.false_eq_true, if_false]
    cases hsig : Manifest.signature? "list.append" with
    | none => exact wpAny_pure q
    | some sig =>
      simp only [argsOk, hsig] at ck'
      show wpAny _ _ (Bind.checkArgs "list.append" sig ⟨[.ref x, v], []⟩) _ _ _
      rw [show Bind.checkArgs "list.append" sig ⟨[.ref x, v], []⟩ = pure () from ck']
      exact wpAny_pure q
  refine chk ?_
  show wpAny _ _ (updateSeq x (·.push v) >>= fun _ => ret .none) _ _ _
  refine wpAny_bind (wpAny_updateSeq z.1 rfl ?_ (by rw [sizeLine_eq]; lia) (by rw [Array.size_push, sizeLine_eq]; lia))
  refine wpAny_pure (h _ (F.change (Heap.SameBut.update ..) z.2.1 z.2.2) (news_set N a b (Heap.SameBut.update ..) ?_))
  rw [Heap.get?_update_self _ z.1 (by rfl)]
  unfold Obj.mapSeq
  dsimp only
  rw [Array.size_push]
  have : (vs.size + 1 == vs.size) = false := by simp
  rw [this]; rfl
theorem keeps_W {id : String} {x : Value} (h : Heap) (X : h.get? q = some { cls := .type "method-wrapper", data := .fields #[.builtin id, x] }) : ∃ k, (k = Keeper.frame ∨ k = Keeper.machine ∨ k = Keeper.boundFrame) ∧ Looks (model pr w) h (keeperOf (.ref q)) k :=
  ⟨.machine, .inr (.inl rfl), (Looks.ld (part := none) X).andThen .now⟩
theorem keeps_B {id : String} {x : Value} (h : Heap) (X : h.get? q = some { cls := .type "builtin_function_or_method", data := .fields #[.builtin id, x] }) : ∃ k, (k = Keeper.frame ∨ k = Keeper.machine ∨ k = Keeper.boundFrame) ∧ Looks (model pr w) h (keeperOf (.ref q)) k :=
  ⟨.machine, .inr (.inl rfl), (Looks.ld (part := none) X).andThen .now⟩
theorem callWith_W0 {pos : Pos} {env : Env} {id : String} {Q : Value → Shared → Prop} (N : News h₀ L s.heap news) (hq : (q, boundObj "method-wrapper" id x) ∈ news) (h : wpAny (model pr w) A (call (.ref q) []) Q E s) :
    wpAny (model pr w) A (callWith pos (.ref q) [] (backTo pos (starEach [] env)) []) Q E s :=
  callWith_of rfl keeps_W (evalArgs_nil3 ⟨(N _ hq).1, h⟩)
theorem callWith_B0 {pos : Pos} {env : Env} {id : String} {Q : Value → Shared → Prop} (N : News h₀ L s.heap news) (hq : (q, boundObj "builtin_function_or_method" id x) ∈ news) (h : wpAny (model pr w) A (call (.ref q) []) Q E s) :
    wpAny (model pr w) A (callWith pos (.ref q) [] (backTo pos (starEach [] env)) []) Q E s :=
  callWith_of rfl keeps_B (evalArgs_nil3 ⟨(N _ hq).1, h⟩)
end
end Mine
end
section
open PySem PySem.W PyProof.Rows PySem.Calls Builtin Builtin.ObjectAttr Builtin.Getset_descriptor
set_option Elab.async false
set_option maxRecDepth 100000
set_option maxHeartbeats 4000000
namespace Mine
/-- an own list's items (any class) -/
noncomputable def SeqAt (h : Heap) (a : Addr) (items : Array Value) : Prop := ∃ o, h.get? a = some o ∧ ∃ n, o.data = .seq items n
theorem SeqAt.at {h h' : Heap} {a : Addr} {items : Array Value} (x : SeqAt h a items) (k : ∀ o, h.get? a = some o → h'.get? a = some o) : SeqAt h' a items := let ⟨o, e, r⟩ := x; ⟨o, k o e, r⟩
section
variable {w : World} {A : Around} {E : Value → Shared → Prop} {s : Shared} {x dx : Addr} {vs : Array Value} {n : Nat}
theorem li_kind : builtinKind "list.__iter__" = some .slot := by decide +kernel
theorem li_split : splitId "list.__iter__" = some ("list", "__iter__") := by decide +kernel
theorem li_plain : plainId "list.__iter__" = true := by decide +kernel
theorem li_entry : entryFor table "list.__iter__" = some Builtin.«list.__iter__» := entryFor_of_tree (by kernel_rfl)
theorem li_args (a : Value) : argsOk "list.__iter__" ⟨[a], []⟩ := by unfold argsOk; kernel_rfl
theorem li_bind (self : Value) : bindSpecial (.builtin "list.__iter__") self = pure (.builtin "list.__iter__", [self]) := by kernel_rfl
theorem acc_pyIter {Q : Value → Shared → Prop} (X : (hd.heap_39 w.params).In s.heap) (ho : s.heap.get? x = some (accObj dx vs n))
    (hQ : Q (.ref s.heap.objs.size) { s with heap := s.heap.push { cls := .type "list_iterator", data := .fields #[.ref x, .int 0 0] } }) :
    wpAny (model pr w) A (pyIter (.ref x)) Q E s := by
  obtain ⟨h, g, d, t, os⟩ := s
  have t0 : Looks (model pr w) h (typeOf (.ref x)) (.ref 214) := (Looks.ld ho).andThen .now
  have LI : Looks (model pr w) h (isInstance (.ref x) (.type "list")) true := t0.andThen (list_acc X)
  have lk1 : Looks (model pr w) h (typeLookup (.ref 214) "__iter__") (some (.builtin "list.__iter__")) := Looks.of_peek X (by kernel_rfl)
  have lk2 : Looks (model pr w) h (specialOf (.ref x) "__iter__") (some (.builtin "list.__iter__")) := t0.andThen lk1
  have hp : wpAny (model pr w) A (PySem.call (.builtin "list.__iter__") [.ref x]) (fun it s' => it = .ref h.objs.size ∧ s' = ⟨h.push { cls := .type "list_iterator", data := .fields #[.ref x, .int 0 0] }, g, d, t, os⟩) E ⟨h, g, d, t, os⟩ := by
    refine wpAny_call (codeAny_call_builtin li_plain li_entry (@check_slot (model pr w) _ _ _ "list.__iter__" "list" "__iter__" (.ref x) [] [] _ li_kind li_split LI (li_args (.ref x)) ?_))
    show wpAny _ _ (do ret (← newFields "list_iterator" [.ref x, rawInt 0])) _ _ _
    exact wpAny_bind (wpAny_newObj_type (wpAny_pure ⟨rfl, rfl⟩))
  unfold pyIter
  refine wpAny_bind (lk2.at ?_)
  show wpAny _ _ (callSpecialIfBoundUnlessNone? (.ref x) "__iter__" _ >>= _) _ _ _
  refine wpAny_bind ?_
  unfold callSpecialIfBoundUnlessNone? bindSpecialIfBound?
  refine wpAny_holding (wpAny_bind (wpAny_bind (lk2.at ?_)))
  refine wpAny_bind (wpAny_askSetting ?_)
  rw [li_bind]
  split
  all_goals first | refine wpAny_bind (wpAny_pure (wpAny_pure ?_)) | refine wpAny_tryCatch (wpAny_bind (wpAny_pure (wpAny_pure ?_)))
  all_goals
    show wpAny _ _ (if (Value.builtin "list.__iter__" == Value.none) = true then _ else _) _ _ _
    rw [if_neg (show ¬ ((Value.builtin "list.__iter__" == Value.none) = true) by simp)]
    refine wpAny_bind (wpAny_mono hp (fun it s' hh => ?_) fun _ _ e => e)
    obtain ⟨rfl, rfl⟩ := hh
    refine wpAny_pure ?_
    exact wpAny_bind (wpAny_specialOf ⟨_, Heap.get?_push_size _ rfl, rfl⟩ slot_listiter_next.lookup (wpAny_pure hQ))
theorem acc_next {it : Addr} {i : Nat} {items : Array Value} {v : Value} {Q : Option Value → Shared → Prop} (hit : s.heap.IsListIter it x i) (hl : SeqAt s.heap x items) (hx : items[i]? = some v)
    (hQ : ∀ h', h'.IsListIter it x (i + 1) → Heap.SameBut it s.heap h' → Q (some v) { s with heap := h' }) : wpAny (model pr w) A (pyNext (.ref it)) Q E s := by
  obtain ⟨o, ho, hc, hd⟩ := id hit
  obtain ⟨ol, hol, nl, hdl⟩ := hl
  unfold pyNext
  refine wpAny_bind (wpAny_attempt (wpAny_callSpecial?_slot (name := Str.ofString "__next__") hit.typeIs slot_listiter_next (wpAny_call_entry slot_listiter_next hit.typeIs entry_listiter_next ?_ (args_listiter_next _))))
  show wpAny _ _ (field (.ref it) 0 >>= _) _ _ s
  refine wpAny_bind (wpAny_field ho hd (x := .ref x) rfl ?_)
  show wpAny _ _ (if (Value.ref x == Value.none) = true then _ else _) _ _ s
  rw [if_neg (show ¬ ((Value.ref x == Value.none) = true) from Bool.false_ne_true)]
  show wpAny _ _ (field (.ref it) 1 >>= _) _ _ s
  refine wpAny_bind (wpAny_field ho hd (x := .int i 0) rfl ?_)
  show wpAny _ _ (seqItems? (.ref x) >>= _) _ _ s
  refine wpAny_bind (wpAny_seqItems hol hdl ?_)
  simp only [Int.toNat_natCast, hx]
  refine wpAny_bind (wpAny_setField ho hd (by simp) (wpAny_pure ⟨v, rfl, wpAny_pure (hQ _ ?_ (Heap.SameBut.update ..))⟩))
  exact ⟨_, Heap.get?_update_self _ ho (Obj.isFreed_of_fields (Obj.data_mapFields hd _)), (Obj.cls_mapFields ..).trans hc, by rw [Obj.data_mapFields hd]; simp [rawInt]⟩
theorem acc_next_end {it : Addr} {i : Nat} {items : Array Value} {Q : Option Value → Shared → Prop} (hh : A.handled = none) (hit : s.heap.IsListIter it x i) (hl : SeqAt s.heap x items) (hx : items[i]? = none)
    (hQ : ∀ h', Heap.ExtBut it s.heap h' → Q none { s with heap := h' }) : wpAny (model pr w) A (pyNext (.ref it)) Q E s := by
  obtain ⟨o, ho, hc, hd⟩ := id hit
  obtain ⟨ol, hol, nl, hdl⟩ := hl
  unfold pyNext
  refine wpAny_bind (wpAny_attempt (wpAny_callSpecial?_slot (name := Str.ofString "__next__") hit.typeIs slot_listiter_next (wpAny_call_entry slot_listiter_next hit.typeIs entry_listiter_next ?_ (args_listiter_next _))))
  show wpAny _ _ (field (.ref it) 0 >>= _) _ _ s
  refine wpAny_bind (wpAny_field ho hd (x := .ref x) rfl ?_)
  show wpAny _ _ (if (Value.ref x == Value.none) = true then _ else _) _ _ s
  rw [if_neg (show ¬ ((Value.ref x == Value.none) = true) from Bool.false_ne_true)]
  show wpAny _ _ (field (.ref it) 1 >>= _) _ _ s
  refine wpAny_bind (wpAny_field ho hd (x := .int i 0) rfl ?_)
  show wpAny _ _ (seqItems? (.ref x) >>= _) _ _ s
  refine wpAny_bind (wpAny_seqItems hol hdl ?_)
  simp only [Int.toNat_natCast, hx]
  refine wpAny_bind (wpAny_rule (wpAny_bind (wpAny_setField ho hd (by simp) ?_)))
  show wpAny _ _ (newExc (.type "StopIteration") [] >>= _) _ _ _
  refine wpAny_bind ?_
  simp only [newExc, newTuple]
  refine wpAny_bind (wpAny_newObj_type ?_ (by size_fits))
  refine wpAny_bind (m := firstArgMember _ _) (wpAny_of_eq (a := Value.none) (by first | rfl | (simp only [firstArgMember]; rfl)) ?_)
  refine wpAny_newObj_type ?_ (by size_fits)
  simp only [raiseNew]
  refine wpAny_bind (wpAny_handled ?_)
  rw [show A.in1.handled = none from hh]
  refine wpAny_bind (wpAny_pure (wpAny_throw ?_))
  refine wpAny_bind (wpAny_isInstance (T := "StopIteration") (b := true) ⟨_, Heap.get?_push_size _ rfl, rfl⟩ isSubtype_stop ?_)
  exact wpAny_pure (hQ _ (((Heap.SameBut.update ..).extBut.push _).push _))
theorem acc_walks (hh : A.handled = none) (I ax : Addr) (hne : ax ≠ I) (items : Array Value) (Ts : Nat → Addr) (vals : Nat → Array Value)
    (hit : ∀ j, j < items.size → items[j]? = some (.ref (Ts j))) (hTI : ∀ j, j < items.size → Ts j ≠ I) :
    WalksU pr w A I (I :: ax :: (List.range items.size).map Ts) [I] items.size (fun j v => v = vals j)
      (fun j h => h.IsListIter I ax j ∧ SeqAt h ax items ∧ ∀ k, k < items.size → h.IsTuple (Ts k) (vals k))
      (fun j T h => (j < items.size ∧ T = Ts j) ∧ h.IsListIter I ax (j + 1) ∧ SeqAt h ax items ∧ ∀ k, k < items.size → h.IsTuple (Ts k) (vals k)) where
  sub := fun b hb => by simp at hb; simp [hb]
  frame := fun _ _ _ st hk => ⟨st.1.at fun o e => hk I (by simp) o e, st.2.1.at fun o e => hk ax (by simp) o e,
    fun k hk' => (st.2.2 k hk').at fun o e => hk (Ts k) (List.mem_cons_of_mem _ (List.mem_cons_of_mem _ (List.mem_map.mpr ⟨k, List.mem_range.mpr hk', rfl⟩))) o e⟩
  item := fun i s Q E hi st hQ => by
    refine acc_next st.1 st.2.1 (v := .ref (Ts i)) (hit i hi) fun h' hit' hs' => ?_
    have tup : ∀ k, k < items.size → h'.IsTuple (Ts k) (vals k) := fun k hk' => (st.2.2 k hk').extBut hs'.extBut (hTI k hk')
    exact hQ (Ts i) (vals i) h' s.toks rfl (tup i hi) ⟨⟨hi, rfl⟩, hit', st.2.1.at (fun o e => hs'.extBut ax o hne e), tup⟩ fun b o hb e => hs'.extBut b o (fun h => hb (by simp [h])) e
  go := fun _ _ _ _ _ s Q _ hm hQ => wpAny_letOwnedTupleGo_listiter hm.2.1 (hQ s.heap hm.2 fun _ _ _ e => e)
  apart := fun j T _ hm hmem => by
    rcases List.mem_cons.mp hmem with e | e
    · exact hTI j hm.1.1 (hm.1.2 ▸ e)
    · cases e
  done := fun s Q E st hQ => acc_next_end hh st.1 st.2.1 (by simp) fun h' he' => hQ h' s.toks fun b o hb e => he' b o (fun h => hb (by simp [h])) e
  self := fun _ _ _ _ st hQ => wpAny_pyIter_listiter st.1 hQ
end
end Mine
end
section
open PySem PySem.W PyProof.Rows PySem.Calls Builtin Builtin.ObjectAttr Builtin.Getset_descriptor
set_option Elab.async false
set_option maxRecDepth 100000
set_option maxHeartbeats 4000000
namespace Mine
noncomputable abbrev tupO (a b : Value) : Obj := { cls := .type "tuple", data := .seq #[a, b] }
theorem passing_all (n : Nat) : passing (fun _ => true) n 0 = List.range n := by simp [passing]
section
variable {w : World} {A : Around} {E : Value → Shared → Prop} {s : Shared} {x dx L : Addr} {h₀ : Heap} {m : Str → Option Value} {news : List (Addr × Obj)} {n : Nat}
theorem acc_code {env : Env} {c P : Addr} {ps : Array Value} {pos : Pos} {qn : Str} {scope : Scope} {Q : Value → Shared → Prop} (hcode : env.code = .ref c) (hok : s.heap.IsCode c P ps) (htab : s.heap.TableAt c P ps)
    (h : ∀ code h₃ tk₃ ps', Heap.ExtBut P s.heap h₃ → s.heap.objs.size ≤ h₃.objs.size → h₃.TableAt c P ps' → h₃.IsCode c P ps' → (ps' = ps ∨ ∃ c', ps' = ps ++ #[rawInt pos.line, rawInt pos.col, .ref c']) → Q code { s with heap := h₃, toks := tk₃ }) :
    wpAny (model pr w) A (genexprCode env pos qn scope) Q E s := by
  cases e : codeAmong pos ps.toList with
  | none => exact wpAny_genexprCodeX hcode hok htab e fun c' h' tk hx h1 h2 hc _ ht _ => h _ _ _ _ hx (Nat.le_of_lt (Nat.lt_of_le_of_lt h1 h2)) ht hc (.inr ⟨c', rfl⟩)
  | some c' => exact wpAny_genexprCode_hit hcode hok e (h c' s.heap s.toks ps (fun _ _ _ e => e) (Nat.le_refl _) htab hok (.inl rfl))
/-- a generator expression over an own list of pairs, its code made now or before -/
theorem acc_genexpr {env : Env} {elt : Expr} {xa xb : Str} {pa pb pt pi : Pos} {kt : Nat} {scope : Scope} {pos : Pos} {Q : Value → Shared → Prop} {c P : Addr} {ps : Array Value} {tvs : List (Addr × Value × Value)} {F : Value → Value → Value → Prop}
    (Fm : Fr h₀ L s.heap m) (X₀ : (hd.heap_39 w.params).In h₀) (G : AllBare s.gens) (hlim : s.heap.NoLimit) {mg : Str → Option Value} {bm : Addr} {ob : Obj} (M : BMod h₀ mainGlobals mg bm ob) (hPh : h₀.get? P = none) (hPL : P ≠ L) (hPs : P ≠ cStatics) (hLs : cStatics < L)
    (hxo : s.heap.get? x = some (accObj dx (tvs.map fun t => Value.ref t.1).toArray n)) (ht : ∀ t ∈ tvs, s.heap.get? t.1 = some (tupO t.2.1 t.2.2))
    (hcode : env.code = .ref c) (hok : s.heap.IsCode c P ps) (htab : s.heap.TableAt c P ps)
    (hg : env.globals = mainGlobals) (hb : env.builtins = builtinsNs)
    (hh : A.handled = none) (hco : scope.isCoroutine = false) (hclos : closureFor scope env = pure []) (hcell : ∀ y ∈ scope.names, y.2 ≠ .cell) (h0 : scope.names.lookup (".0" : Str) = some NameKind.local)
    (hxa : scope.names.lookup xa = some .local) (hxb : scope.names.lookup xb = some .local) (hab : xa ≠ xb) (hkind : scope.kind = .function) (hroom : A.depth < recursionLimit)
    (hit : ∀ {Q' : Value → Shared → Prop}, Q' (.ref x) s → wpAny (model pr w) A (eval (.Name "self" pi) env) Q' E s)
    (he : ∀ (code : Value) (C : Addr) (A' : Around) E' (va vb : Value) (u : Shared) m₂, A'.handled = none → (∃ a, (a, va, vb) ∈ tvs) → Fr h₀ C u.heap m₂ → m₂ xa = some va → m₂ xb = some vb →
      wpAny (model pr w) A' (eval elt (genEnv scope [] C code builtinsNs env)) (fun y s₃ => F va vb y ∧ Keeps u s₃) E' u)
    (hQ : ∀ a ps' s₅, Fr h₀ L s₅.heap m → AllBare s₅.gens → s₅.os = s.os → (∀ b o, b ≠ P → s.heap.get? b = some o → s₅.heap.get? b = some o) → s₅.heap.TableAt c P ps' → s₅.heap.IsCode c P ps' → s₅.heap.NoLimit →
      (ps' = ps ∨ ∃ c', ps' = ps ++ #[rawInt pos.line, rawInt pos.col, .ref c']) →
      Gen pr w A L a tvs.length (fun j y => ∃ t, tvs[j]? = some t ∧ F t.2.1 t.2.2 y) s₅ → Q (.ref a) s₅)
    (hs : ∀ x, genFold (.Name "self" pi) env x = pure x) :
    wpAny (model pr w) A (eval (.GeneratorExp elt [⟨.Tuple [.Name xa pa, .Name xb pb] kt pt, .Name "self" pi, [], 0⟩] scope pos) env) Q E s := by
  refine wpAny_GeneratorExp_walksQT hh hco hclos hcell h0 hxa hxb hab hkind hroom (hit ?_) hs
  refine acc_pyIter (X₀.keeps Fm.keep) hxo ?_
  have up : ∀ b o, s.heap.get? b = some o → (s.heap.push { cls := .type "list_iterator", data := .fields #[.ref x, .int 0 0] }).get? b = some o := fun b o e => Heap.get?_push_of_some _ e
  refine ⟨hlim.push _, acc_code hcode (hok.keeps up) (htab.keeps up) fun code h₃ tk₃ ps' hx₃ hz₃ ht₃ hc₃ hps => ?_⟩
  have hPlt : P < s.heap.objs.size := Heap.lt_size htab.2
  have F₃ : Fr h₀ L h₃ m := ⟨(Fm.push _).ns.extBut hx₃ (Ne.symm hPL), fun b o e => hx₃ b o (fun q => by rw [q, hPh] at e; cases e) (up _ _ (Fm.keep b o e)), Fm.above⟩
  have hl₃ : h₃.NoLimit := (hlim.push _).extBut hx₃ (Ne.symm hPs)
  have M₃ := M.keeps F₃.keep
  rw [hg, hb]
  refine wpAny_builtinsFor M₃.ns M₃.name M₃.ne M₃.obj M₃.cls M₃.dict M₃.data ?_
  have hsz : (tvs.map fun t => Value.ref t.1).toArray.size = tvs.length := by simp
  let Ts : Nat → Addr := fun j => (tvs[j]?.map fun t => t.1).getD 0
  let vals : Nat → Array Value := fun j => (tvs[j]?.map fun t => (#[t.2.1, t.2.2] : Array Value)).getD #[.none, .none]
  have at' : ∀ j, j < tvs.length → ∃ t, tvs[j]? = some t ∧ t ∈ tvs := fun j hj => ⟨tvs[j], by simp [hj], List.getElem_mem hj⟩
  have hTs : ∀ j, j < (tvs.map fun t => Value.ref t.1).toArray.size → s.heap.get? (Ts j) = some { cls := .type "tuple", data := .seq (vals j) } := fun j hj => by
    obtain ⟨t, e, hm⟩ := at' j (hsz ▸ hj)
    simp only [Ts, vals, e, Option.map_some, Option.getD_some]; exact ht t hm
  have hTlt : ∀ j, j < (tvs.map fun t => Value.ref t.1).toArray.size → Ts j < s.heap.objs.size := fun j hj => Heap.lt_size (hTs j hj)
  have hit' : ∀ j, j < (tvs.map fun t => Value.ref t.1).toArray.size → (tvs.map fun t => Value.ref t.1).toArray[j]? = some (.ref (Ts j)) := fun j hj => by
    obtain ⟨t, e, _⟩ := at' j (hsz ▸ hj)
    simp [Ts, e]
  have hxlt : x < s.heap.objs.size := Heap.lt_size hxo
  have hxP : x ≠ P := fun e => by rw [e, htab.2] at hxo; cases hxo
  have hTP : ∀ j, j < (tvs.map fun t => Value.ref t.1).toArray.size → Ts j ≠ P := fun j hj e => by
    have := hTs j hj
    rw [e, htab.2] at this; cases this
  have old₃ : ∀ b o, b ≠ P → s.heap.get? b = some o → h₃.get? b = some o := fun b o hb e => hx₃ b o hb (up _ _ e)
  have hz : s.heap.objs.size + 1 ≤ h₃.objs.size := by
    have := hz₃
    rwa [Heap.size_push] at this
  have W := fun (A' : Around) (hA : A'.handled = none) => (acc_walks (w := w) hA s.heap.objs.size x (Nat.ne_of_lt hxlt) (tvs.map fun t => Value.ref t.1).toArray Ts vals hit' fun j hj => Nat.ne_of_lt (hTlt j hj)).bound
  have hL : L < s.heap.objs.size := Fm.ns.lt
  refine ⟨s.heap.objs.size, _, _, _, _, _, _, (fun _ => true), (fun i y => ∃ t, tvs[i]? = some t ∧ F t.2.1 t.2.2 y), rfl, W, ?_, ⟨?_, ?_, ?_⟩, ?_, hl₃, ?_, ?_, ?_⟩
  · rintro i v ⟨hi, rfl⟩
    obtain ⟨t, et, _⟩ := at' i (hsz ▸ hi)
    exact ⟨t.2.1, t.2.2, by simp [vals, et]⟩
  · exact ⟨_, hx₃ _ _ (Nat.ne_of_gt hPlt) (Heap.get?_push_size _ rfl), rfl, rfl⟩
  · exact ⟨_, old₃ _ _ hxP hxo, n, rfl⟩
  · exact fun k hk => ⟨_, old₃ _ _ (hTP k hk) (hTs k hk), rfl, 0, rfl⟩
  · intro b hb
    show b < h₃.objs.size
    rcases List.mem_cons.mp hb with rfl | hb
    · exact Nat.lt_of_lt_of_le (Nat.lt_succ_self _) hz
    · rcases List.mem_cons.mp hb with rfl | hb
      · exact Nat.lt_of_lt_of_le (Nat.lt_succ_of_lt hxlt) hz
      · obtain ⟨k, hk, rfl⟩ := List.mem_map.mp hb
        exact Nat.lt_of_lt_of_le (Nat.lt_succ_of_lt (hTlt k (List.mem_range.mp hk))) hz
  · intro hm
    exact Nat.ne_of_lt (Nat.lt_trans hLs hL) (List.mem_singleton.mp hm)
  · intro href hk
    have kp : ∀ (u : Heap), (∀ b ∈ List.range h₃.objs.size, b ∉ [s.heap.objs.size] → ∀ o, href.get? b = some o → u.get? b = some o) → ∀ b o, h₀.get? b = some o → u.get? b = some o := fun u q b o e => by
      have l1 : b < h₀.objs.size := Heap.lt_size e
      have l2 := Fm.above
      exact q b (List.mem_range.mpr (Nat.lt_of_lt_of_le (Nat.lt_trans (Nat.lt_of_lt_of_le l1 l2) hL) (Nat.le_trans (Nat.le_succ _) hz)))
        (fun hm => Nat.ne_of_lt (Nat.lt_trans (Nat.lt_of_lt_of_le l1 l2) hL) (List.mem_singleton.mp hm)) o (hk _ _ (F₃.keep _ _ e))
    refine ⟨fun A' E' i va vb u m₂ hA hP hn ha hb2 q => wpAny_pure ⟨rfl, ?_⟩, fun A' E' i va vb u m₂ hA hP _ hn ha hb2 q => ?_⟩
    · exact ⟨u.heap, u.toks, rfl, fun _ _ e => e⟩
    · obtain ⟨hi, e⟩ := hP
      obtain ⟨t, et, hm⟩ := at' i (hsz ▸ hi)
      simp only [vals, et, Option.map_some, Option.getD_some] at e
      obtain ⟨e1, e2⟩ : va = t.2.1 ∧ vb = t.2.2 := by simpa using congrArg Array.toList e
      subst e1 e2
      refine wpAny_mono (he code h₃.objs.size A' E' t.2.1 t.2.2 u m₂ hA ⟨t.1, hm⟩ ⟨hn, kp u.heap q, ?_⟩ ha hb2) (fun y s₃ r => ⟨⟨t, et, r.1⟩, r.2⟩) fun _ _ e => e
      exact Nat.le_trans Fm.above (Nat.le_trans (Nat.le_of_lt hL) (Nat.le_trans (Nat.le_succ _) hz))
  · intro a h₅ tk gs hgb hag hsz₅ hk₅ W' hat
    refine hQ a ps' _ (F₃.keeps hk₅) (G.push hgb) rfl (fun b o hb e => hk₅ _ _ (old₃ b o hb e)) (ht₃.keeps hk₅) (hc₃.keeps hk₅) (hl₃.keeps hk₅) hps ?_
    have X : Gen pr w A L a (passing (fun _ => true) (tvs.map fun t => Value.ref t.1).toArray.size 0).length (fun j y => ∃ i, (passing (fun _ => true) (tvs.map fun t => Value.ref t.1).toArray.size 0)[j]? = some i ∧ ∃ t, tvs[i]? = some t ∧ F t.2.1 t.2.2 y) _ :=
      ⟨_, _, _, _, W', hat, (fun i s' st => st.1.typeIs), List.mem_cons_self, fun b hb => ?_, fun b hb => ?_⟩
    · rw [passing_all, List.length_range, hsz] at X
      refine X.imp fun j y hy => ?_
      obtain ⟨i, hi, t, et, hF⟩ := hy
      have : i = j := by
        have := (List.getElem?_eq_some_iff.mp hi).2
        simpa using this.symm
      exact ⟨t, this ▸ et, hF⟩
    · show b < h₅.objs.size
      rw [hsz₅]
      rcases List.mem_cons.mp hb with rfl | hb
      · exact Nat.lt_succ_self _
      · rcases List.mem_cons.mp hb with rfl | hb
        · exact Nat.lt_succ_of_lt hag
        · exact Nat.lt_succ_of_lt (Nat.lt_trans (List.mem_range.mp hb) hag)
    · rcases List.mem_cons.mp hb with rfl | hb
      · exact Nat.lt_of_lt_of_le hL (Nat.le_trans (Nat.le_succ _) hz)
      · exact List.mem_singleton.mp hb ▸ hL
end
end Mine
end
section
open PySem PySem.W PyProof.Rows PySem.Calls Builtin Builtin.ObjectAttr Builtin.Getset_descriptor
set_option Elab.async false
set_option maxRecDepth 100000
set_option maxHeartbeats 4000000
namespace Mine
section
variable {prog : Program} {w : World} {A : Around} {E : Value → Shared → Prop} {s : Shared}
/-- a walk whose places are counted from 1 -/
noncomputable def stS (St : Nat → Shared → Prop) : Nat → Shared → Prop | 0, _ => False | i + 1, s => St i s
noncomputable def ptS (P : Nat → Value → Prop) : Nat → Value → Prop | 0, _ => False | i + 1, v => P i v
noncomputable def valS (k : Int) (val : Nat → Int) : Nat → Int | 0 => k | i + 1 => val i
theorem preSum_valS (k : Int) (val : Nat → Int) : ∀ n, preSum (valS k val) (n + 1) = k + preSum val n
  | 0 => by simp [preSum, valS]
  | n + 1 => by rw [preSum, preSum_valS k val n, preSum]; show k + preSum val n + val n = _; lia
theorem shifted {I : Addr} {fp wr : List Addr} {G : Array GenState → Array GenState → Prop} {n : Nat} {P : Nat → Value → Prop} {St : Nat → Shared → Prop} (W : WalksS prog w A I fp wr G n P St) : WalksS prog w A I fp wr G (n + 1) (ptS P) (stS St) where
  sub := W.sub
  grefl := W.grefl
  gtrans := W.gtrans
  frame := fun i s h' tk st ht hk => by cases i with
    | zero => exact st.elim
    | succ i => exact W.frame i s h' tk st ht hk
  item := fun i s Q E hi st hQ => by cases i with
    | zero => exact st.elim
    | succ i => exact W.item i s Q E (Nat.lt_of_succ_lt_succ hi) st fun v s' hp hs hm => hQ v s' hp hs hm
  done := fun s Q E st hQ => W.done s Q E st hQ
  self := fun i s Q E st hQ => by cases i with
    | zero => exact st.elim
    | succ i => exact W.self i s Q E st hQ
theorem args_sum2 (a b : Value) : argsOk "sum" ⟨[a, b], []⟩ := by unfold argsOk; kernel_rfl
theorem call_sum_start {x : Value} {k : Int} {tk : Tok} {Q : Value → Shared → Prop}
    (h : wpAny (model prog w) A.in1 (pyIter x) (fun it s₂ => ∃ I fp wr G n P St val, it = .ref I ∧ WalksS prog w A.in1 I fp wr G n P St ∧ St 0 s₂ ∧ (∀ b ∈ fp, b < s₂.heap.objs.size) ∧
      (∀ i v, P i v → ∃ t, v = .int (val i) t) ∧
      ∀ s' t', Moved wr G s₂ s' → Q (.int (k + preSum val n) t') s') E s) :
    wpAny (model prog w) A (call (.builtin "sum") [x, .int k tk]) Q E s := by
  refine call_function_tree F.kind_sum F.plain_sum F.entry_sum (args_sum2 _ _) ?_
  unfold Builtin.«sum»
  simp only [List.length_cons, List.length_nil]
  rw [if_neg (by decide)]
  refine wpAny_bind (wpAny_of_eq (show Builtin.Builtins.bindParams "sum" ["start"] 0 ⟨[.int k tk], []⟩ = pure [some (.int k tk)] from rfl) ?_)
  refine wpAny_bind (wpAny_mono h (fun it s₂ h₂ => ?_) fun _ _ e => e)
  obtain ⟨I, fp, wr, G, n, P, St, val, rfl, W, hst, hfp, hval, hQ⟩ := h₂
  have hSf : s₂.heap.objs.size ∉ fp := fun hm => Nat.lt_irrefl _ (hfp _ hm)
  have e1 : preSum (valS k val) 1 = k := by rw [preSum_valS]; simp [preSum]
  dsimp only
  split
  · refine wpAny_bind (wpAny_rule (wpAny_bind (wpAny_mkInt (wpAny_bind (wpAny_pure ?_)))))
    simp only [List.forIn_cons, List.forIn_nil]
    refine wpAny_bind (wpAny_bind (wpAny_bind (wpAny_isInstance (T := "int") (b := false) (typeIs_int _ _ _) PySem.sub_int_str ?_)))
    simp only [Bool.false_eq_true, if_false]
    refine wpAny_pure (wpAny_bind (wpAny_bind (wpAny_isInstance (T := "int") (b := false) (typeIs_int _ _ _) sub_int_bytes ?_)))
    simp only [Bool.false_eq_true, if_false]
    refine wpAny_pure (wpAny_bind (wpAny_bind (wpAny_isInstance (T := "int") (b := false) (typeIs_int _ _ _) sub_int_bytearray ?_)))
    simp only [Bool.false_eq_true, if_false]
    refine wpAny_pure (wpAny_pure ?_)
    refine wpAny_bind (wpAny_newObj_type ?_)
    refine wpAny_pure ⟨plainId_quiet F.plain_sum_loop _, codeAny_sum_loopAnyS (shifted W) (valS k val) (fun i v hv => by cases i with | zero => exact hv.elim | succ i => exact hval i v hv) s₂.heap.objs.size hSf n 1 _ s₂.toks 0 0 (.inl rfl) (by lia) (by lia)
      (W.frame 0 s₂ _ _ hst (by first | exact Nat.le_refl _ | exact Nat.le_succ _ | lia) fun b _ o e => Heap.get?_push_of_some _ e) (by rw [e1]; exact Heap.get?_push_size _ rfl) fun s' t' hm => ?_⟩
    rw [preSum_valS]
    exact hQ s' t' (hm.drop_new (by first | exact Nat.le_refl _ | exact Nat.le_succ _ | lia))
  · refine wpAny_bind (wpAny_pure ?_)
    simp only [List.forIn_cons, List.forIn_nil]
    refine wpAny_bind (wpAny_bind (wpAny_bind (wpAny_isInstance (T := "int") (b := false) (typeIs_int _ _ _) PySem.sub_int_str ?_)))
    simp only [Bool.false_eq_true, if_false]
    refine wpAny_pure (wpAny_bind (wpAny_bind (wpAny_isInstance (T := "int") (b := false) (typeIs_int _ _ _) sub_int_bytes ?_)))
    simp only [Bool.false_eq_true, if_false]
    refine wpAny_pure (wpAny_bind (wpAny_bind (wpAny_isInstance (T := "int") (b := false) (typeIs_int _ _ _) sub_int_bytearray ?_)))
    simp only [Bool.false_eq_true, if_false]
    refine wpAny_pure (wpAny_pure ?_)
    refine wpAny_bind (wpAny_newObj_type ?_)
    refine wpAny_pure ⟨plainId_quiet F.plain_sum_loop _, codeAny_sum_loopAnyS (shifted W) (valS k val) (fun i v hv => by cases i with | zero => exact hv.elim | succ i => exact hval i v hv) s₂.heap.objs.size hSf n 1 _ tk 0 2 (.inr rfl) (by lia) (by lia)
      (W.frame 0 s₂ _ _ hst (by first | exact Nat.le_refl _ | exact Nat.le_succ _ | lia) fun b _ o e => Heap.get?_push_of_some _ e) (by rw [e1]; exact Heap.get?_push_size _ rfl) fun s' t' hm => ?_⟩
    rw [preSum_valS]
    exact hQ s' t' (hm.drop_new (by first | exact Nat.le_refl _ | exact Nat.le_succ _ | lia))
theorem sum_start_rows {h₀ : Heap} {L K : Addr} {m : Str → Option Value} {a : Addr} {n : Nat} {F : Nat → Value → Prop} {Q : Value → Shared → Prop} {k : Int} {tk : Tok}
    (Fh : Fr h₀ L s.heap m) (G : AllBare s.gens) (X : Gen prog w A K a n F s) (hLK : L ≤ K) (val : Nat → Int) (hval : ∀ j v, F j v → ∃ t, v = .int (val j) t)
    (hQ : ∀ s' t', Fr h₀ L s'.heap m → AllBare s'.gens → s'.os = s.os → (∀ b o, b ≤ K → s.heap.get? b = some o → s'.heap.get? b = some o) → Q (.int (k + preSum val n) t') s') : wpAny (model prog w) A (call (.builtin "sum") [.ref a, .int k tk]) Q E s := by
  obtain ⟨fp, wr, g, St, W, hst, _, _, hfp, hwr⟩ := X
  have W := W.in4_1
  exact call_sum_start (W.self 0 _ _ _ hst ⟨a, _, _, _, _, _, _, val, rfl, W, hst, hfp, hval, fun s' t' hm => hQ s' t' (Fh.moved hm fun b hb => Nat.lt_of_le_of_lt hLK (hwr b hb)) (G.movedS hm) hm.os fun b o hb e => hm.heap b o (fun hmem => Nat.lt_irrefl _ (Nat.lt_of_lt_of_le (hwr b hmem) hb)) e⟩)
end
end Mine
end
section
open PySem PySem.W PyProof.Rows PySem.Calls Builtin Builtin.ObjectAttr Builtin.Getset_descriptor
set_option Elab.async false
set_option maxRecDepth 100000
set_option maxHeartbeats 0
namespace Mine
/-- the contract of a def that may run a generator -/
noncomputable abbrev ConG (d u : Nat) (w : World) (mean : ExcName → Option Value) (mg mb : Str → Option Value) (f : Addr) (news : List (Addr × Obj)) (vs : List Value) (R : Heap → Addr → (Str → Option Value) → Shared → (Value → Shared → Prop) → Prop) : Prop :=
  ∀ (dp un : Nat) (gd : Option (List Code)) (cn : Str) (cs : Scope) (a : Addr) (ccd : Value) (cl : List (Str × Addr)) (outer : List Env) (A₀ : Around) (base h₀ : Heap) (L : Addr) (m : Str → Option Value) (s : Shared) (Q E : Value → Shared → Prop),
    Below A₀ base outer h₀ → Fr h₀ L s.heap m → (Mine.hd.heap_39 w.params).In h₀ → News h₀ L s.heap news → Top topProg lsV mean mg mb h₀ → cs.kind = .function → AllBare s.gens →
      dp + d < recursionLimit → un + u < cLine → R h₀ L m s Q →
      wpAny (model pr w) (ktrTop dp un gd cn cs L a ccd cl outer) (call (.ref f) vs) Q E s
noncomputable def headChk (K : Frag) (c P : Addr) : Bool := match K.lookup c with
  | some ⟨.type n, _, .fields vs, _⟩ => (n == "code") && (vs[11]? == some (.ref P)) && (vs.getD 11 .none == .ref P) && (match vs.getD 18 .none, vs.getD 7 .none, vs.getD 9 .none, vs.getD 10 .none with | .str _ _, .int _ _, .bool _, .int _ _ => true | _, _, _, _ => false) && !(c == P)
  | _ => false
theorem codeHd_of {K : Frag} {h : Heap} {c P : Addr} (X : K.In h) (e : headChk K c P = true) : CodeHd h c P := by
  unfold headChk at e
  split at e
  · rename_i n d vs sl ho
    simp only [Bool.and_eq_true, beq_iff_eq, Bool.not_eq_true', beq_eq_false_iff_ne] at e
    obtain ⟨⟨⟨⟨e1, e2⟩, e3⟩, e4⟩, e5⟩ := e
    split at e4
    · rename_i f tf fl tg b tx tt h1 h2 h3 h4
      exact ⟨_, vs, _, _, _, _, _, _, _, X _ _ ho, by rw [e1], rfl, e2, e3, h1, h2, h3, h4, e5⟩
    · cases e4
  · cases e
theorem len_code {w : World} {h : Heap} (X : (hd.heap_39 w.params).In h) : CodeHd h 180 176 := codeHd_of X (by kernel_rfl)
theorem str_code {w : World} {h : Heap} (X : (hd.heap_39 w.params).In h) : CodeHd h 187 183 := codeHd_of X (by kernel_rfl)
theorem gen_toks {prog : Program} {w : World} {A : Around} {L a : Addr} {n : Nat} {F : Nat → Value → Prop} {s : Shared} {tk : Nat} (X : Gen prog w A L a n F s) (ht : s.toks ≤ tk) : Gen prog w A L a n F { s with toks := tk } := by
  obtain ⟨fp, wr, g, St, W, hst, h1, h2, h3, h4⟩ := X
  exact ⟨fp, wr, g, St, W, W.frame 0 s s.heap tk hst ht (fun _ _ _ e => e), h1, h2, h3, h4⟩
theorem news_tab {h₀ h h' : Heap} {L P : Addr} {a b : Addr × Obj} {o o' : Obj} {rest : List (Addr × Obj)} (N : News h₀ L h (a :: b :: (P, o) :: rest)) (ha : a.1 ≠ P) (hb : b.1 ≠ P) (hr : ∀ p ∈ rest, p.1 ≠ P)
    (keep : ∀ b o, b ≠ P → h.get? b = some o → h'.get? b = some o) (hP : h'.get? P = some o') : News h₀ L h' (a :: b :: (P, o') :: rest) := by
  intro p hp
  rcases List.mem_cons.mp hp with rfl | hp
  · have z := N p (.head _); exact ⟨keep _ _ ha z.1, z.2⟩
  · rcases List.mem_cons.mp hp with rfl | hp
    · have z := N p (.tail _ (.head _)); exact ⟨keep _ _ hb z.1, z.2⟩
    · rcases List.mem_cons.mp hp with rfl | hp
      · have z := N (P, o) (.tail _ (.tail _ (.head _))); exact ⟨hP, z.2⟩
      · have z := N p (.tail _ (.tail _ (.tail _ hp))); exact ⟨keep _ _ (hr p hp) z.1, z.2⟩
theorem isCode_triples {h : Heap} {c P : Addr} {ps : Array Value} (x : h.IsCode c P ps) : TriplesOk ps.toList := by
  obtain ⟨_, _, _, _, _, _, _, _, _, _, _, _, _, _, _, _, _, _, _, t, _⟩ := x
  exact t
theorem lt_tab {L' P : Addr} {a b : Addr × Obj} {o o' : Obj} {rest : List (Addr × Obj)} (LL : ∀ p ∈ a :: b :: (P, o) :: rest, p.1 < L') : ∀ p ∈ a :: b :: (P, o') :: rest, p.1 < L' := fun p hp => by
  rcases List.mem_cons.mp hp with rfl | hp
  · exact LL _ (.head _)
  · rcases List.mem_cons.mp hp with rfl | hp
    · exact LL _ (.tail _ (.head _))
    · rcases List.mem_cons.mp hp with rfl | hp
      · exact LL (P, o) (.tail _ (.tail _ (.head _)))
      · exact LL _ (.tail _ (.tail _ (.tail _ hp)))
/-- a part: the tuple's address, its two texts -/
noncomputable abbrev Part := Addr × (Str × Tok) × (Str × Tok)
noncomputable abbrev pv (p : Part) : Addr × Value × Value := (p.1, .str p.2.1.1 p.2.1.2, .str p.2.2.1 p.2.2.2)
noncomputable abbrev refsOf (ps : List Part) : Array Value := (ps.map fun p => Value.ref p.1).toArray
noncomputable def PartsIn (news : List (Addr × Obj)) (ps : List Part) : Prop := ∀ p ∈ ps, (p.1, tupO (.str p.2.1.1 p.2.1.2) (.str p.2.2.1 p.2.2.2)) ∈ news
section
variable {w : World} {A : Around} {E : Value → Shared → Prop} {s : Shared} {K : Frag} {h₀ : Heap} {C : Addr} {m mg mb : Str → Option Value} {p : Program} {loose : List Str} {mean : ExcName → Option Value} {scope : Scope} {code : Value} {env : Env}
theorem nameG_B {x : Str} {pos : Pos} {v : Value} {Q : Value → Shared → Prop} (F : Fr h₀ C s.heap m) (X : K.In h₀) (T : TopRead p loose mg mb h₀) (e : nsIn K mainGlobals x = some none) (hv : bootBuiltins x = some v) (hn : x ≠ "__name__") (hg : env.globals = mainGlobals) (h : Q v s)
    (hk : scope.kind = .function) (hx : (genEnv scope [] C code builtinsNs env).kindOf x = some .globalImplicit) (hd : (x == ("__debug__" : Str)) = false) :
    wpAny (model pr w) A (eval (.Name x pos) (genEnv scope [] C code builtinsNs env)) Q E s :=
  Name_function_global hk hx (loadGlobal_builtin (env := genEnv scope [] C code builtinsNs env) (show s.heap.Ns env.globals mg from hg ▸ T.g.keeps F.keep) (mg_none_of X T.g e) (T.b.keeps F.keep) ((T.builtins x hn).trans hv) h) hd
theorem len_elt {x y : Str} {p1 p2 p3 p4 p5 p6 p7 : Pos} {a b : Str} {ta tb : Tok} {Q : Value → Shared → Prop} (F : Fr h₀ C s.heap m) (X : K.In h₀) (T : TopRead p loose mg mb h₀) (e : nsIn K mainGlobals "len" = some none) (hg : env.globals = mainGlobals)
    (hk : scope.kind = .function) (hl : (genEnv scope [] C code builtinsNs env).kindOf "len" = some .globalImplicit) (hxk : (genEnv scope [] C code builtinsNs env).kindOf x = some .local) (hyk : (genEnv scope [] C code builtinsNs env).kindOf y = some .local)
    (hxd : (x == ("__debug__" : Str)) = false) (hyd : (y == ("__debug__" : Str)) = false) (hx : m x = some (.str a ta)) (hy : m y = some (.str b tb)) (la : a.length ≤ 1000) (lb : b.length ≤ 1000)
    (h : ∀ t tk, Q (.int ((a.length + b.length : Nat) : Int) t) { s with toks := tk }) :
    wpAny (model pr w) A (eval (.BinOp (.Call (.Name "len" p1) [.Name x p2] [] p3) .Add (.Call (.Name "len" p4) [.Name y p5] [] p6) p7) (genEnv scope [] C code builtinsNs env)) Q E s := by
  have hb : bootBuiltins "len" = some (.builtin "len") := by boot_by_name
  refine wpAny_BinOp (Call_Name rfl (nameG_B F X T e hb (by decide) hg ?_ hk hl (by decide)))
  refine PyProof.Rows.callWith_builtin1 (spliced_more (ldVarG F hx ?_ hk hxk hxd))
  refine spliced_none ?_
  refine PySem.P.len_str (by lia) ?_
  refine Call_Name rfl (nameG_B (s := { s with toks := _ }) F X T e hb (by decide) hg ?_ hk hl (by decide))
  refine PyProof.Rows.callWith_builtin1 (spliced_more (ldVarG (s := { s with toks := _ }) F hy ?_ hk hyk hyd))
  refine spliced_none ?_
  refine PySem.P.len_str (by lia) ?_
  refine wpAny_add_int ?_
  exact Int.natCast_add a.length b.length ▸ h _ _
end
theorem lines_AccK_1 : True := by
  w_top off
  k_with_none
  k_with "m9:room" => ktr_room
  k_with "m9:inst" => (refine' inst_acc ?NQ8 ?h1Q8 ?h2Q8; (case NQ8 => k_asm); (case h1Q8 => k_mem); (case h2Q8 => k_mem))
  k_with "m9:all" => first | (with_reducible assumption) | exact allNe_lt (by assumption)
  k_with "m:eval Name" => dsimp only
  k_with "m:spliced" => dsimp only
  k_with "m:execs cons" => dsimp only
  k_with "m:eval Constant int" => dsimp only
  k_with "m:eval BinOp" => dsimp only
  k_with "m:execs nil" => dsimp only
  k_with "m:eval Call" => dsimp only
  k_with "m:storeName" => dsimp only
  k_with "m:exec Assign" => dsimp only
  k_with "m:callWith" => dsimp only
  k_with "m:eval Subscript" => dsimp only
  k_with "m:eval Call Attribute" => dsimp only
  k_with "m:evalPart none" => dsimp only
  k_with "m:truthy bool" => dsimp only
  k_with "m:callWith ref" => dsimp only
  k_with "m:call ref" => dsimp only
  k_with "m:isTrue Compare" => dsimp only
  k_with "m:getMethod ref" => dsimp only
  k_with "m:exec If" => dsimp only
  k_with "m:exec Return some" => dsimp only
  k_with "m:getAttr ref" => dsimp only
  k_with "m:eval Attribute Name" => dsimp only
  k_with "m:binaryOp Add int int" => dsimp only
  k_with "m:isTrue BoolOp" => dsimp only
  k_with "m:binaryOp Mod int int" => dsimp only
  k_with "m:subscriptTail Name Constant ref int" => dsimp only
  k_with "m:evalPart some" => dsimp only
  k_with "m:eval Slice" => dsimp only
  k_with "m:exec Expr" => dsimp only
  k_with "m:isTrue" => dsimp only
  k_with "m:eval Constant str" => dsimp only
  k_with "m:assignInOrder" => dsimp only
  k_with "m:call builtin:len" => dsimp only
  k_with "m:newTuple" => dsimp only
  k_with "m:eval Tuple" => dsimp only
  k_with "m:eval BoolOp" => dsimp only
  k_with "m:subscriptTail Name Slice str ref" => dsimp only
  k_with "m:getMethod str" => dsimp only
  k_with "m:setAttr ref" => dsimp only
  k_with "m:newList" => dsimp only
  k_with "m:eval List" => dsimp only
  k_with "m:binaryOp Mult int int" => dsimp only
  k_with "m:con_enter" => (refine wpAny_call ?_; k_dflt (first | cell_enter | (refine' code_defC ?k1Q8 ?k2Q8 ?k3Q8 ?k4Q8 ?k5Q8 ?kAQ8 ?kFQ8 ?kKQ8 ?k6Q8 ?k7Q8 ?k8Q8 ?k9Q8 ?kBQ8 ?kDQ8 ?_ ?c2Q8 ?c3Q8 ?c4Q8; (case kAQ8 => exact rfl); (case kFQ8 => exact rfl); (case kKQ8 => assumption); (case k1Q8 => k_asm); (case k2Q8 => k_asm); (case k3Q8 => k_asm); (case k4Q8 => k_asm); (case k5Q8 => k_asm); (case k6Q8 => k_is); (case k7Q8 => k_is); (case k8Q8 => ktr_room); (case k9Q8 => first | exact BindsTo.of_eq rfl | exact binds_K (by k_in) rfl (by k_is) rfl rfl rfl | fail "k_enter: no rule for these arguments"); (case kBQ8 => exact rfl); (case kDQ8 => decide +kernel); (case c2Q8 => exact rfl); (case c3Q8 => exact rfl); (case c4Q8 => exact rfl); k_whole; intro g'Q9 L'Q9 h'Q9 tk'Q9 cells'Q9 FG'Q9 F'Q9 N'Q9 Y'Q9 B'Q9 X'Q9 T'Q9 l1Q9; (try k_lt l1Q9); k_cells Y'Q9; (try simp only [List.cons_append, List.nil_append] at N'Q9); (try dsimp only); (try k_lift B'Q9); (try k_fold))))
  k_with "m:getAttr ref" => (k_here; k_dflt (refine' acc_getK ?k1Q8 ?k2Q8 ?k3Q8 ?k4Q8 ?k5Q8 ?k6Q8 ?k7Q8 ?_; (case k1Q8 => k_asm); (case k2Q8 => k_asm); (case k3Q8 => k_inst); (case k4Q8 => k_is); (case k5Q8 => k_is); (case k6Q8 => k_get); (case k7Q8 => k_handed); k_whole))
  k_with "m:getMethod ref" => (k_here; k_dflt (refine' acc_methodK ?k1Q8 ?k2Q8 ?k3Q8 ?k4Q8 ?k5Q8 ?k6Q8 ?_; (case k1Q8 => k_asm); (case k2Q8 => k_asm); (case k3Q8 => k_inst); (case k4Q8 => k_is); (case k5Q8 => kernel_rfl); (case k6Q8 => k_get); k_whole))
  k_with "m:getMethod ref" => (k_here; k_dflt (first | (refine' super_init_K ?k1Q8 ?k2Q8 ?k3Q8 ?k4Q8 ?k5Q8 ?_; (case k1Q8 => k_asm); (case k2Q8 => k_asm); (case k3Q8 => k_asm); (case k4Q8 => k_mem); (case k5Q8 => k_inst)) | (refine' super_len_K ?k1Q8 ?k2Q8 ?k3Q8 ?k4Q8 ?k5Q8 ?_; (case k1Q8 => k_asm); (case k2Q8 => k_asm); (case k3Q8 => k_asm); (case k4Q8 => k_mem); (case k5Q8 => k_inst)) | (refine' super_pop_K ?k1Q8 ?k2Q8 ?k3Q8 ?k4Q8 ?k5Q8 ?_; (case k1Q8 => k_asm); (case k2Q8 => k_asm); (case k3Q8 => k_asm); (case k4Q8 => k_mem); (case k5Q8 => k_inst))); k_whole; intro q'Q9 h'Q9 F'Q9 N'Q9 l1Q9; (try k_lt l1Q9); (try k_sweep); (try dsimp only))
  k_with "m:setAttr ref" => (k_here; k_dflt (refine' acc_set ?k1Q8 ?k2Q8 ?k3Q8 ?k4Q8 ?k8Q8 ?k10Q8 ?k11Q8 ?k12Q8 ?k13Q8 ?_; (case k1Q8 => k_asm); (case k2Q8 => k_asm); (case k3Q8 => k_asm); (case k4Q8 => k_inst); (case k8Q8 => k_is); (case k10Q8 => k_get); (case k11Q8 => k_put); (case k12Q8 => k_upd); (case k13Q8 => exact Nat.le_of_ble_eq_true rfl); k_whole; intro h'Q9 F'Q9 N'Q9; (try k_sweep); (try dsimp only)))
  k_with "m:call ref" => (k_here; k_dflt (first | (refine' call_init_K ?k1Q8 ?k2Q8 ?k3Q8 ?k4Q8 ?_; (case k1Q8 => k_asm); (case k2Q8 => k_asm); (case k3Q8 => k_mem); (case k4Q8 => k_upd); k_whole; intro h'Q9 F'Q9 N'Q9; (try k_sweep)) | (refine' call_pop_K ?k1Q8 ?k0Q8 ?k2Q8 ?k3Q8 ?k4Q8 ?k5Q8 ?_; (case k1Q8 => k_asm); (case k0Q8 => k_asm); (case k2Q8 => k_asm); (case k3Q8 => k_mem); (case k4Q8 => k_upd); (case k5Q8 => omega); k_whole; intro h'Q9 F'Q9 N'Q9; (try k_sweep)) | (refine' call_len_K ?k2Q8 ?k3Q8 ?k4Q8 ?_; (case k2Q8 => k_asm); (case k3Q8 => k_mem); (case k4Q8 => k_mem); k_whole)))
  k_with "m:call builtin:list.append" => (k_here; k_dflt (refine' acc_append ?k1Q8 ?k0Q8 ?k2Q8 ?k3Q8 ?zQ8 ?_; (case k1Q8 => k_asm); (case k0Q8 => k_asm); (case k2Q8 => k_asm); (case k3Q8 => k_upd); (case zQ8 => omega); k_whole); intro h'Q9 F'Q9 N'Q9; (try k_sweep))
  k_with "m:acc_super_enter" => k_dflt (refine' ks_code_super ?k1Q8 ?k2Q8 ?k3Q8 ?k4Q8 ?k5Q8 ?kAQ8 ?kFQ8 ?kKQ8 ?k6Q8 ?k7Q8 ?k8Q8 ?k9Q8 ?kBQ8 ?_ ?c1Q8 ?c2Q8 ?c3Q8 ?c4Q8; (case kAQ8 => exact rfl); (case kFQ8 => exact rfl); (case kKQ8 => first | exact rfl | assumption); (case k1Q8 => k_asm); (case k2Q8 => k_asm); (case k3Q8 => k_asm); (case k4Q8 => k_asm); (case k5Q8 => k_asm); (case k6Q8 => k_is); (case k7Q8 => k_is); (case k8Q8 => k_room); (case k9Q8 => first | exact BindsTo.of_eq rfl | exact binds_K (by k_in) rfl (by k_is) rfl rfl rfl); (case kBQ8 => exact locs rfl); (case c1Q8 => decide); (case c2Q8 => exact rfl); (case c3Q8 => exact rfl); (case c4Q8 => exact rfl); intro g'Q9 L'Q9 h'Q9 FG'Q9 F'Q9 N'Q9 B'Q9 X'Q9 T'Q9 l1Q9; (try k_lt l1Q9); (try dsimp only); (try k_lift B'Q9))
  k_with "m:ks_go" => ((try dsimp only); first | refine ks_wpAt_execs_cons ?_ | refine ks_wpAt_Expr_any ?_ | refine ks_wpAt_Return_some ?_ | refine ks_wpAt_MethodCall ?_ | k_dflt (refine ks_node (by k_asm) (by k_asm) (by k_asm) (by k_asm) (by k_is) (by rfl) (by rfl) (by k_inst) (by k_is) (by rfl) (by first | rfl | decide +kernel) (by k_is) (by k_is) (by k_is) (by k_is) (by decide) (by rfl) (by rfl) (by rfl) (by rfl) (by decide +kernel) (by first | boot_by_name | rfl | kernel_rfl) ?_; intro so'Q9 h'Q9 F'Q9 N'Q9 l1Q9; (try k_lt l1Q9); (try dsimp only)))
  k_with "m:callWith ref" => (k_here; (with_reducible show wpAny _ _ (callWith _ (Value.ref _) [] (backTo _ (starEach [] _)) []) _ _ _); k_dflt (first | (refine' callWith_W0 ?k1Q8 ?k2Q8 ?_; (case k1Q8 => k_asm); (case k2Q8 => k_mem)) | (refine' callWith_B0 ?k1Q8 ?k2Q8 ?_; (case k1Q8 => k_asm); (case k2Q8 => k_mem))); k_whole)
  k_with "m:con_enterS" => (refine wpAny_call ?_; k_dflt (refine' code_defS ?k1Q8 ?k2Q8 ?k3Q8 ?k4Q8 ?k5Q8 ?kAQ8 ?kFQ8 ?kKQ8 ?k6Q8 ?k7Q8 ?k8Q8 ?k9Q8 ?kBQ8 ?_ ?c2Q8 ?c3Q8 ?c4Q8 ?c5Q8; (case kAQ8 => exact rfl); (case kFQ8 => exact rfl); (case kKQ8 => first | assumption | exact rfl); (case k1Q8 => k_asm); (case k2Q8 => k_asm); (case k3Q8 => k_asm); (case k4Q8 => k_asm); (case k5Q8 => k_asm); (case k6Q8 => k_is); (case k7Q8 => k_is); (case k8Q8 => ktr_room); (case k9Q8 => first | exact BindsTo.of_eq rfl | exact binds_K (by k_in) rfl (by k_is) rfl rfl rfl); (case c5Q8 => decide); (case kBQ8 => exact locs rfl); (case c2Q8 => exact rfl); (case c3Q8 => exact rfl); (case c4Q8 => exact rfl); k_whole; intro g'Q9 L'Q9 h'Q9 FG'Q9 F'Q9 N'Q9 B'Q9 X'Q9 T'Q9 l1Q9; (try dsimp only); (try k_lift B'Q9); (try k_fold)))
  trivial
theorem acc_len (w : World) (mean : ExcName → Option Value) (mg mb : Str → Option Value) (rest : List (Addr × Obj)) (x dx : Addr) (parts : List Part) (n : Nat) (k : Int) (ti te : Tok) (ps : Array Value) (hp : PartsIn rest parts) (hps : TriplesOk ps.toList) (hr : ∀ p ∈ rest, p.1 ≠ 176) (hz : ∀ p ∈ parts, p.2.1.1.length ≤ 1000 ∧ p.2.2.1.length ≤ 1000) :
    ConG 8 60 w mean mg mb 181 ((x, accObj dx (refsOf parts) n) :: (dx, iniD w k ti te) :: (176, tabObj ps) :: rest) [.ref x] (fun h₀ L m s Q => ∀ t' s' ps', Fr h₀ L s'.heap m → News h₀ L s'.heap ((x, accObj dx (refsOf parts) n) :: (dx, iniD w k ti te) :: (176, tabObj ps') :: rest) →
      AllBare s'.gens → s'.os = s.os → TriplesOk ps'.toList → Q (.int (k + (parts.map fun p => ((p.2.1.1.length + p.2.2.1.length : Nat) : Int)).sum) t') s') := by
  dsimp only [ConG, pr, lsV]; k_fill
  intros; rename_i hret
  walk_at "con_enterS"
  (with_reducible rename ∀ p ∈ _, _ => LL)
  k_steps
  (with_reducible rename Fr _ _ _ _ => FF)
  (with_reducible rename News _ _ _ _ => NN)
  (with_reducible rename Top _ _ _ _ _ _ => TT)
  (with_reducible rename Frag.In _ _ => XX)
  (with_reducible rename AllBare _ => GG)
  obtain ⟨bm, ob, M⟩ := bmod_of_top TT
  have n0 := NN _ (.head _)
  have n2 := NN _ (.tail _ (.tail _ (.head _)))
  have CH := len_code (XX.keeps FF.keep)
  refine acc_genexpr (w := w) (x := x) (dx := dx) (n := n) (c := 180) (P := 176) (ps := ps) (tvs := parts.map pv) (F := fun va vb y => ∃ a b ta tb t', va = .str a ta ∧ vb = .str b tb ∧ y = .int ((a.length + b.length : Nat) : Int) t') FF XX GG (TT.nolimit.keeps FF.keep) M n2.2.2 n2.2.1 ?hPs ?hLs ?hxo ?ht rfl (CH.code n2.1 hps) (CH.tab n2.1) rfl rfl ?hh rfl rfl (by decide) rfl rfl rfl (by decide) rfl ?hroom ?hit ?he ?hQ ?hs
  case hPs => decide
  case hLs => exact Nat.lt_of_lt_of_le (let ⟨_, hn, _⟩ := TT.nolimit; hn.lt) FF.above
  case hxo => rw [show (parts.map pv).map (fun t => Value.ref t.1) = parts.map fun p => Value.ref p.1 from by rw [List.map_map]; rfl]; exact n0.1
  case ht =>
    intro q hq
    obtain ⟨p, hpm, rfl⟩ := List.mem_map.mp hq
    exact (NN _ (.tail _ (.tail _ (.tail _ (hp p hpm))))).1
  case hh => rfl
  case hroom => k_room
  case hit =>
    intro Q' hq
    exact ld FF rfl hq
  case hs => intro _; rfl
  case he =>
    intro code C A' E' va vb u m₂ hA hm FC ha hb
    obtain ⟨q, hq⟩ := hm
    obtain ⟨p, hpm, e⟩ := List.mem_map.mp hq
    obtain ⟨-, rfl, rfl⟩ : p.1 = q ∧ _ ∧ _ := by simpa [Prod.ext_iff] using e
    refine len_elt FC XX (topRead_of TT) (by kernel_rfl) rfl rfl rfl rfl rfl (by decide) (by decide) ha hb (hz p hpm).1 (hz p hpm).2 ?_
    intro t tk
    exact ⟨⟨_, _, _, _, t, rfl, rfl, rfl⟩, ⟨u.heap, tk, rfl, fun _ _ e => e⟩⟩
  case hQ =>
    intro a ps' s₅ F5 G5 hos keep5 tab5 code5 nl5 hps' X5
    have hx : x ≠ 176 := fun e => by have q := n0.1; rw [show ((x, accObj dx (refsOf parts) n) : Addr × Obj).1 = 176 from e, n2.1] at q; cases q
    have n1 := NN _ (.tail _ (.head _))
    have hdx : dx ≠ 176 := fun e => by have q := n1.1; rw [show ((dx, iniD w k ti te) : Addr × Obj).1 = 176 from e, n2.1] at q; cases q
    have N5 := news_tab NN hx hdx hr keep5 tab5.2
    obtain ⟨h5, g5, d5, t5, os5⟩ := s₅
    dsimp only at F5 G5 hos N5
    subst hos
    clear FF NN n0 n1 n2 CH M GG keep5 tab5 nl5
    k_steps
    have hv : ∀ j v, (∃ t, (parts.map pv)[j]? = some t ∧ ∃ a b ta tb t', t.2.1 = Value.str a ta ∧ t.2.2 = Value.str b tb ∧ v = Value.int ((a.length + b.length : Nat) : Int) t') → ∃ t, v = Value.int ((parts.map fun p => ((p.2.1.1.length + p.2.2.1.length : Nat) : Int)).getD j 0) t := by
      rintro j v ⟨q, hq, a, b, ta, tb, t', h1, h2, rfl⟩
      rw [List.getElem?_map] at hq
      obtain ⟨p, hp', rfl⟩ := Option.map_eq_some_iff.mp hq
      cases h1; cases h2
      exact ⟨t', by simp [List.getD_eq_getElem?_getD, List.getElem?_map, hp']⟩
    refine sum_start_rows F5 G5 (gen_toks X5 (Nat.le_succ _)) (Nat.le_refl _) _ hv (fun s' t' F6 G6 hos6 keep6 => ?_)
    rw [preSum_getD, List.take_of_length_le (by simp)]
    have LL2 := lt_tab (o' := tabObj ps') LL
    have N6 : News _ _ s'.heap ((x, accObj dx (refsOf parts) n) :: (dx, iniD w k ti te) :: (176, tabObj ps') :: rest) := fun p hp => ⟨keep6 _ _ (Nat.le_of_lt (LL2 p hp)) (N5 p hp).1, (N5 p hp).2⟩
    obtain ⟨h6, g6, d6, t6, os6⟩ := s'
    dsimp only at F6 G6 hos6 N6
    subst hos6
    clear F5 N5 X5
    k_steps
    exact hret _ _ ps' (by assumption) (by assumption) G6 rfl (isCode_triples code5)
end Mine
end
section
open PySem PySem.W PyProof.Rows PySem.Calls Builtin Builtin.ObjectAttr Builtin.Getset_descriptor
set_option Elab.async false
set_option maxRecDepth 100000
set_option maxHeartbeats 0
namespace Mine
section
variable {w : World} {A : Around} {E : Value → Shared → Prop} {s : Shared} {K : Frag} {h₀ : Heap} {C : Addr} {m mg mb : Str → Option Value} {p : Program} {loose : List Str} {mean : ExcName → Option Value} {scope : Scope} {code : Value} {env : Env}
theorem nameG_K {x : Str} {pos : Pos} {v : Value} {Q : Value → Shared → Prop} (F : Fr h₀ C s.heap m) (X : K.In h₀) (T : TopRead p loose mg mb h₀) (e : nsIn K mainGlobals x = some (some v)) (hg : env.globals = mainGlobals) (h : Q v s)
    (hk : scope.kind = .function) (hx : (genEnv scope [] C code builtinsNs env).kindOf x = some .globalImplicit) (hd : (x == ("__debug__" : Str)) = false) :
    wpAny (model pr w) A (eval (.Name x pos) (genEnv scope [] C code builtinsNs env)) Q E s :=
  Name_function_global hk hx (loadGlobal_global (env := genEnv scope [] C code builtinsNs env) (show s.heap.Ns env.globals mg from hg ▸ T.g.keeps F.keep) (mg_of X T.g e) h) hd
theorem str_elt {x y : Str} {p1 p2 p3 p4 p5 p6 : Pos} {kt : Nat} {a b sep : Str} {ta tb tk0 : Tok} {Q : Value → Shared → Prop} (F : Fr h₀ C s.heap m) (X : K.In h₀) (T : TopRead p loose mg mb h₀) (e : nsIn K mainGlobals "EMPTYSTRING" = some (some (.str sep tk0))) (hsep : sep = Str.empty) (hg : env.globals = mainGlobals)
    (hk : scope.kind = .function) (hl : (genEnv scope [] C code builtinsNs env).kindOf "EMPTYSTRING" = some .globalImplicit) (hxk : (genEnv scope [] C code builtinsNs env).kindOf x = some .local) (hyk : (genEnv scope [] C code builtinsNs env).kindOf y = some .local)
    (hxd : (x == ("__debug__" : Str)) = false) (hyd : (y == ("__debug__" : Str)) = false) (hx : m x = some (.str a ta)) (hy : m y = some (.str b tb)) (la : a.length ≤ 1000) (lb : b.length ≤ 1000)
    {pl : Sem Bool} (he : eval (.Call (.Attribute (.Name "EMPTYSTRING" p1) "join" p2) [.Tuple [.Name x p3, .Name y p4] kt p5] [] p6) (genEnv scope [] C code builtinsNs env) = (do
      let ov ← eval (.Name "EMPTYSTRING" p1) (genEnv scope [] C code builtinsNs env)
      standAt p2.atName
      let (f, first) ← holding [ov] (getMethod ov "join" pl)
      callWith p6 f first (backTo p6 (starEach [.Tuple [.Name x p3, .Name y p4] kt p5] (genEnv scope [] C code builtinsNs env))) []))
    (h : ∀ t tk h', (∀ b o, s.heap.get? b = some o → h'.get? b = some o) → Q (.str (Txt.join Str.empty [a, b]) t) { s with heap := h', toks := tk }) :
    wpAny (model pr w) A (eval (.Call (.Attribute (.Name "EMPTYSTRING" p1) "join" p2) [.Tuple [.Name x p3, .Name y p4] kt p5] [] p6) (genEnv scope [] C code builtinsNs env)) Q E s := by
  subst hsep
  refine MethodCall_ (nameG_K F X T e hg ?_ hk hl (by decide)) he
  refine GM.join ?_
  refine PyProof.Rows.callWith_method1 (spliced_more (Tuple_ ?_))
  refine spliced_more (ldVarG F hx ?_ hk hxk hxd)
  refine spliced_more (ldVarG F hy ?_ hk hyk hyd)
  refine spliced_none ?_
  refine wpAny_newObj_type ?_
  refine spliced_none ?_
  refine join_tupleW ⟨_, Heap.get?_push_size _ rfl, rfl, 0, rfl⟩ (.cons a ta (.cons b tb .nil)) (by decide) (by simp; lia) ?_
  intro t k
  exact h t k _ fun b o e => Heap.get?_push_of_some _ e
end
noncomputable abbrev pieceOfPart (p : Part) : Str := Txt.join Str.empty [p.2.1.1, p.2.2.1]
noncomputable abbrev textOf (parts : List Part) : Str := Txt.join Str.empty (parts.map pieceOfPart)
theorem len_join2 (a b : Str) : (Txt.join Str.empty [a, b]).length = a.length + b.length := by
  show (a ++ Str.empty ++ b).length = _
  rw [Str.length_append, Str.length_append]
  show a.length + 0 + b.length = _
  lia
theorem range_getD {α : Type} (l : List α) (d : α) : (List.range l.length).map (fun j => l.getD j d) = l := by
  apply List.ext_getElem?
  intro i
  by_cases h : i < l.length
  · simp [h, List.getD_eq_getElem?_getD]
  · simp [h, List.getElem?_eq_none (Nat.le_of_not_lt h)]
theorem sum_le_mul {l : List Nat} {B : Nat} (h : ∀ x ∈ l, x ≤ B) : l.sum ≤ l.length * B := by
  induction l with
  | nil => simp
  | cons a r ih =>
    have h1 := h a (.head _)
    have h2 := ih fun x hx => h x (.tail _ hx)
    rw [List.sum_cons, List.length_cons, Nat.add_mul, Nat.one_mul]
    lia
theorem textOf_ok {parts : List Part} (hz : ∀ p ∈ parts, p.2.1.1.length ≤ 1000 ∧ p.2.2.1.length ≤ 1000) (hn : parts.length ≤ 100) : JoinOk Str.empty (parts.map pieceOfPart) = true := by
  refine joinOk_of_weight ?_ (by decide)
  have := sum_le_mul (l := (parts.map pieceOfPart).map (·.length)) (B := 2000) fun x hx => by
    obtain ⟨y, hy, rfl⟩ := List.mem_map.mp hx
    obtain ⟨p, hp, rfl⟩ := List.mem_map.mp hy
    have := hz p hp
    show (Txt.join Str.empty [p.2.1.1, p.2.2.1]).length ≤ 2000
    rw [len_join2]; lia
  simp only [List.length_map] at this ⊢
  lia
theorem lines_AccL_1 : True := by
  w_top off
  k_with_none
  k_with "m9:room" => ktr_room
  k_with "m9:inst" => (refine' inst_acc ?NQ8 ?h1Q8 ?h2Q8; (case NQ8 => k_asm); (case h1Q8 => k_mem); (case h2Q8 => k_mem))
  k_with "m9:all" => first | (with_reducible assumption) | exact allNe_lt (by assumption)
  k_with "m:eval Name" => dsimp only
  k_with "m:spliced" => dsimp only
  k_with "m:execs cons" => dsimp only
  k_with "m:eval Constant int" => dsimp only
  k_with "m:eval BinOp" => dsimp only
  k_with "m:execs nil" => dsimp only
  k_with "m:eval Call" => dsimp only
  k_with "m:storeName" => dsimp only
  k_with "m:exec Assign" => dsimp only
  k_with "m:callWith" => dsimp only
  k_with "m:eval Subscript" => dsimp only
  k_with "m:eval Call Attribute" => dsimp only
  k_with "m:evalPart none" => dsimp only
  k_with "m:truthy bool" => dsimp only
  k_with "m:callWith ref" => dsimp only
  k_with "m:call ref" => dsimp only
  k_with "m:isTrue Compare" => dsimp only
  k_with "m:getMethod ref" => dsimp only
  k_with "m:exec If" => dsimp only
  k_with "m:exec Return some" => dsimp only
  k_with "m:getAttr ref" => dsimp only
  k_with "m:eval Attribute Name" => dsimp only
  k_with "m:binaryOp Add int int" => dsimp only
  k_with "m:isTrue BoolOp" => dsimp only
  k_with "m:binaryOp Mod int int" => dsimp only
  k_with "m:subscriptTail Name Constant ref int" => dsimp only
  k_with "m:evalPart some" => dsimp only
  k_with "m:eval Slice" => dsimp only
  k_with "m:exec Expr" => dsimp only
  k_with "m:isTrue" => dsimp only
  k_with "m:eval Constant str" => dsimp only
  k_with "m:assignInOrder" => dsimp only
  k_with "m:call builtin:len" => dsimp only
  k_with "m:newTuple" => dsimp only
  k_with "m:eval Tuple" => dsimp only
  k_with "m:eval BoolOp" => dsimp only
  k_with "m:subscriptTail Name Slice str ref" => dsimp only
  k_with "m:getMethod str" => dsimp only
  k_with "m:setAttr ref" => dsimp only
  k_with "m:newList" => dsimp only
  k_with "m:eval List" => dsimp only
  k_with "m:binaryOp Mult int int" => dsimp only
  k_with "m:con_enter" => (refine wpAny_call ?_; k_dflt (first | cell_enter | (refine' code_defC ?k1Q8 ?k2Q8 ?k3Q8 ?k4Q8 ?k5Q8 ?kAQ8 ?kFQ8 ?kKQ8 ?k6Q8 ?k7Q8 ?k8Q8 ?k9Q8 ?kBQ8 ?kDQ8 ?_ ?c2Q8 ?c3Q8 ?c4Q8; (case kAQ8 => exact rfl); (case kFQ8 => exact rfl); (case kKQ8 => assumption); (case k1Q8 => k_asm); (case k2Q8 => k_asm); (case k3Q8 => k_asm); (case k4Q8 => k_asm); (case k5Q8 => k_asm); (case k6Q8 => k_is); (case k7Q8 => k_is); (case k8Q8 => ktr_room); (case k9Q8 => first | exact BindsTo.of_eq rfl | exact binds_K (by k_in) rfl (by k_is) rfl rfl rfl | fail "k_enter: no rule for these arguments"); (case kBQ8 => exact rfl); (case kDQ8 => decide +kernel); (case c2Q8 => exact rfl); (case c3Q8 => exact rfl); (case c4Q8 => exact rfl); k_whole; intro g'Q9 L'Q9 h'Q9 tk'Q9 cells'Q9 FG'Q9 F'Q9 N'Q9 Y'Q9 B'Q9 X'Q9 T'Q9 l1Q9; (try k_lt l1Q9); k_cells Y'Q9; (try simp only [List.cons_append, List.nil_append] at N'Q9); (try dsimp only); (try k_lift B'Q9); (try k_fold))))
  k_with "m:con_enterS" => (refine wpAny_call ?_; k_dflt (refine' code_defS ?k1Q8 ?k2Q8 ?k3Q8 ?k4Q8 ?k5Q8 ?kAQ8 ?kFQ8 ?kKQ8 ?k6Q8 ?k7Q8 ?k8Q8 ?k9Q8 ?kBQ8 ?_ ?c2Q8 ?c3Q8 ?c4Q8 ?c5Q8; (case kAQ8 => exact rfl); (case kFQ8 => exact rfl); (case kKQ8 => first | assumption | exact rfl); (case k1Q8 => k_asm); (case k2Q8 => k_asm); (case k3Q8 => k_asm); (case k4Q8 => k_asm); (case k5Q8 => k_asm); (case k6Q8 => k_is); (case k7Q8 => k_is); (case k8Q8 => ktr_room); (case k9Q8 => first | exact BindsTo.of_eq rfl | exact binds_K (by k_in) rfl (by k_is) rfl rfl rfl); (case c5Q8 => decide); (case kBQ8 => exact locs rfl); (case c2Q8 => exact rfl); (case c3Q8 => exact rfl); (case c4Q8 => exact rfl); k_whole; intro g'Q9 L'Q9 h'Q9 FG'Q9 F'Q9 N'Q9 B'Q9 X'Q9 T'Q9 l1Q9; (try dsimp only); (try k_lift B'Q9); (try k_fold)))
  k_with "m:getAttr ref" => (k_here; k_dflt (refine' acc_getK ?k1Q8 ?k2Q8 ?k3Q8 ?k4Q8 ?k5Q8 ?k6Q8 ?k7Q8 ?_; (case k1Q8 => k_asm); (case k2Q8 => k_asm); (case k3Q8 => k_inst); (case k4Q8 => k_is); (case k5Q8 => k_is); (case k6Q8 => k_get); (case k7Q8 => k_handed); k_whole))
  k_with "m:getMethod ref" => (k_here; k_dflt (refine' acc_methodK ?k1Q8 ?k2Q8 ?k3Q8 ?k4Q8 ?k5Q8 ?k6Q8 ?_; (case k1Q8 => k_asm); (case k2Q8 => k_asm); (case k3Q8 => k_inst); (case k4Q8 => k_is); (case k5Q8 => kernel_rfl); (case k6Q8 => k_get); k_whole))
  k_with "m:getMethod ref" => (k_here; k_dflt (first | (refine' super_init_K ?k1Q8 ?k2Q8 ?k3Q8 ?k4Q8 ?k5Q8 ?_; (case k1Q8 => k_asm); (case k2Q8 => k_asm); (case k3Q8 => k_asm); (case k4Q8 => k_mem); (case k5Q8 => k_inst)) | (refine' super_len_K ?k1Q8 ?k2Q8 ?k3Q8 ?k4Q8 ?k5Q8 ?_; (case k1Q8 => k_asm); (case k2Q8 => k_asm); (case k3Q8 => k_asm); (case k4Q8 => k_mem); (case k5Q8 => k_inst)) | (refine' super_pop_K ?k1Q8 ?k2Q8 ?k3Q8 ?k4Q8 ?k5Q8 ?_; (case k1Q8 => k_asm); (case k2Q8 => k_asm); (case k3Q8 => k_asm); (case k4Q8 => k_mem); (case k5Q8 => k_inst))); k_whole; intro q'Q9 h'Q9 F'Q9 N'Q9 l1Q9; (try k_lt l1Q9); (try k_sweep); (try dsimp only))
  k_with "m:setAttr ref" => (k_here; k_dflt (refine' acc_set ?k1Q8 ?k2Q8 ?k3Q8 ?k4Q8 ?k8Q8 ?k10Q8 ?k11Q8 ?k12Q8 ?k13Q8 ?_; (case k1Q8 => k_asm); (case k2Q8 => k_asm); (case k3Q8 => k_asm); (case k4Q8 => k_inst); (case k8Q8 => k_is); (case k10Q8 => k_get); (case k11Q8 => k_put); (case k12Q8 => k_upd); (case k13Q8 => exact Nat.le_of_ble_eq_true rfl); k_whole; intro h'Q9 F'Q9 N'Q9; (try k_sweep); (try dsimp only)))
  k_with "m:call ref" => (k_here; k_dflt (first | (refine' call_init_K ?k1Q8 ?k2Q8 ?k3Q8 ?k4Q8 ?_; (case k1Q8 => k_asm); (case k2Q8 => k_asm); (case k3Q8 => k_mem); (case k4Q8 => k_upd); k_whole; intro h'Q9 F'Q9 N'Q9; (try k_sweep)) | (refine' call_pop_K ?k1Q8 ?k0Q8 ?k2Q8 ?k3Q8 ?k4Q8 ?k5Q8 ?_; (case k1Q8 => k_asm); (case k0Q8 => k_asm); (case k2Q8 => k_asm); (case k3Q8 => k_mem); (case k4Q8 => k_upd); (case k5Q8 => omega); k_whole; intro h'Q9 F'Q9 N'Q9; (try k_sweep)) | (refine' call_len_K ?k2Q8 ?k3Q8 ?k4Q8 ?_; (case k2Q8 => k_asm); (case k3Q8 => k_mem); (case k4Q8 => k_mem); k_whole)))
  k_with "m:call builtin:list.append" => (k_here; k_dflt (refine' acc_append ?k1Q8 ?k0Q8 ?k2Q8 ?k3Q8 ?zQ8 ?_; (case k1Q8 => k_asm); (case k0Q8 => k_asm); (case k2Q8 => k_asm); (case k3Q8 => k_upd); (case zQ8 => omega); k_whole); intro h'Q9 F'Q9 N'Q9; (try k_sweep))
  k_with "m:acc_super_enter" => k_dflt (refine' ks_code_super ?k1Q8 ?k2Q8 ?k3Q8 ?k4Q8 ?k5Q8 ?kAQ8 ?kFQ8 ?kKQ8 ?k6Q8 ?k7Q8 ?k8Q8 ?k9Q8 ?kBQ8 ?_ ?c1Q8 ?c2Q8 ?c3Q8 ?c4Q8; (case kAQ8 => exact rfl); (case kFQ8 => exact rfl); (case kKQ8 => first | exact rfl | assumption); (case k1Q8 => k_asm); (case k2Q8 => k_asm); (case k3Q8 => k_asm); (case k4Q8 => k_asm); (case k5Q8 => k_asm); (case k6Q8 => k_is); (case k7Q8 => k_is); (case k8Q8 => k_room); (case k9Q8 => first | exact BindsTo.of_eq rfl | exact binds_K (by k_in) rfl (by k_is) rfl rfl rfl); (case kBQ8 => exact locs rfl); (case c1Q8 => decide); (case c2Q8 => exact rfl); (case c3Q8 => exact rfl); (case c4Q8 => exact rfl); intro g'Q9 L'Q9 h'Q9 FG'Q9 F'Q9 N'Q9 B'Q9 X'Q9 T'Q9 l1Q9; (try k_lt l1Q9); (try dsimp only); (try k_lift B'Q9))
  k_with "m:ks_go" => ((try dsimp only); first | refine ks_wpAt_execs_cons ?_ | refine ks_wpAt_Expr_any ?_ | refine ks_wpAt_Return_some ?_ | refine ks_wpAt_MethodCall ?_ | k_dflt (refine ks_node (by k_asm) (by k_asm) (by k_asm) (by k_asm) (by k_is) (by rfl) (by rfl) (by k_inst) (by k_is) (by rfl) (by first | rfl | decide +kernel) (by k_is) (by k_is) (by k_is) (by k_is) (by decide) (by rfl) (by rfl) (by rfl) (by rfl) (by decide +kernel) (by first | boot_by_name | rfl | kernel_rfl) ?_; intro so'Q9 h'Q9 F'Q9 N'Q9 l1Q9; (try k_lt l1Q9); (try dsimp only)))
  k_with "m:callWith ref" => (k_here; (with_reducible show wpAny _ _ (callWith _ (Value.ref _) [] (backTo _ (starEach [] _)) []) _ _ _); k_dflt (first | (refine' callWith_W0 ?k1Q8 ?k2Q8 ?_; (case k1Q8 => k_asm); (case k2Q8 => k_mem)) | (refine' callWith_B0 ?k1Q8 ?k2Q8 ?_; (case k1Q8 => k_asm); (case k2Q8 => k_mem))); k_whole)
  trivial
theorem acc_str (w : World) (mean : ExcName → Option Value) (mg mb : Str → Option Value) (rest : List (Addr × Obj)) (x dx : Addr) (parts : List Part) (n : Nat) (k : Int) (ti te : Tok) (ps : Array Value) (hp : PartsIn rest parts) (hps : TriplesOk ps.toList) (hr : ∀ p ∈ rest, p.1 ≠ 183)
    (hz : ∀ p ∈ parts, p.2.1.1.length ≤ 1000 ∧ p.2.2.1.length ≤ 1000) (hn : parts.length ≤ 100) :
    ConG 8 60 w mean mg mb 188 ((x, accObj dx (refsOf parts) n) :: (dx, iniD w k ti te) :: (183, tabObj ps) :: rest) [.ref x] (fun h₀ L m s Q => ∀ t' s' ps', Fr h₀ L s'.heap m → News h₀ L s'.heap ((x, accObj dx (refsOf parts) n) :: (dx, iniD w k ti te) :: (183, tabObj ps') :: rest) →
      AllBare s'.gens → s'.os = s.os → TriplesOk ps'.toList → Q (.str (textOf parts) t') s') := by
  dsimp only [ConG, pr, lsV]; k_fill
  intros; rename_i hret
  walk_at "con_enterS"
  (with_reducible rename ∀ p ∈ _, _ => LL)
  k_steps
  (with_reducible rename Fr _ _ _ _ => FF)
  (with_reducible rename News _ _ _ _ => NN)
  (with_reducible rename Top _ _ _ _ _ _ => TT)
  (with_reducible rename Frag.In _ _ => XX)
  (with_reducible rename AllBare _ => GG)
  obtain ⟨bm, ob, M⟩ := bmod_of_top TT
  have n0 := NN _ (.head _)
  have n2 := NN _ (.tail _ (.tail _ (.head _)))
  have CH := str_code (XX.keeps FF.keep)
  refine acc_genexpr (w := w) (x := x) (dx := dx) (n := n) (c := 187) (P := 183) (ps := ps) (tvs := parts.map pv) (F := fun va vb y => ∃ a b ta tb t', va = .str a ta ∧ vb = .str b tb ∧ y = .str (Txt.join Str.empty [a, b]) t') FF XX GG (TT.nolimit.keeps FF.keep) M n2.2.2 n2.2.1 ?hPs ?hLs ?hxo ?ht rfl (CH.code n2.1 hps) (CH.tab n2.1) rfl rfl ?hh rfl rfl (by decide) rfl rfl rfl (by decide) rfl ?hroom ?hit ?he ?hQ ?hs
  case hPs => decide
  case hLs => exact Nat.lt_of_lt_of_le (let ⟨_, hn, _⟩ := TT.nolimit; hn.lt) FF.above
  case hxo => rw [show (parts.map pv).map (fun t => Value.ref t.1) = parts.map fun p => Value.ref p.1 from by rw [List.map_map]; rfl]; exact n0.1
  case ht =>
    intro q hq
    obtain ⟨p, hpm, rfl⟩ := List.mem_map.mp hq
    exact (NN _ (.tail _ (.tail _ (.tail _ (hp p hpm))))).1
  case hh => rfl
  case hroom => k_room
  case hit =>
    intro Q' hq
    exact ld FF rfl hq
  case hs => intro _; rfl
  case he =>
    intro code C A' E' va vb u m₂ hA hm FC ha hb
    obtain ⟨q, hq⟩ := hm
    obtain ⟨p, hpm, e⟩ := List.mem_map.mp hq
    obtain ⟨-, rfl, rfl⟩ : p.1 = q ∧ _ ∧ _ := by simpa [Prod.ext_iff] using e
    refine str_elt FC XX (topRead_of TT) (sep := ⟨(cpsOfBytes 0 0 "".toByteArray.data.toList).toArray⟩) (tk0 := 357) (by kernel_rfl) (by decide +kernel) rfl rfl rfl rfl rfl (by decide) (by decide) ha hb (hz p hpm).1 (hz p hpm).2 rfl ?_
    intro t tk h' kp
    exact ⟨⟨_, _, _, _, t, rfl, rfl, rfl⟩, ⟨h', tk, rfl, kp⟩⟩
  case hQ =>
    intro a ps' s₅ F5 G5 hos keep5 tab5 code5 nl5 hps' X5
    have hx : x ≠ 183 := fun e => by have q := n0.1; rw [show ((x, accObj dx (refsOf parts) n) : Addr × Obj).1 = 183 from e, n2.1] at q; cases q
    have n1 := NN _ (.tail _ (.head _))
    have hdx : dx ≠ 183 := fun e => by have q := n1.1; rw [show ((dx, iniD w k ti te) : Addr × Obj).1 = 183 from e, n2.1] at q; cases q
    have N5 := news_tab NN hx hdx hr keep5 tab5.2
    obtain ⟨h5, g5, d5, t5, os5⟩ := s₅
    dsimp only at F5 G5 hos N5
    subst hos
    clear FF NN n0 n1 n2 CH M GG keep5 tab5 nl5
    k_steps
    have hv : ∀ j v, (∃ t, (parts.map pv)[j]? = some t ∧ ∃ a b ta tb t', t.2.1 = Value.str a ta ∧ t.2.2 = Value.str b tb ∧ v = Value.str (Txt.join Str.empty [a, b]) t') → ∃ t, v = Value.str ((parts.map pieceOfPart).getD j Str.empty) t := by
      rintro j v ⟨q, hq, a, b, ta, tb, t', h1, h2, rfl⟩
      rw [List.getElem?_map] at hq
      obtain ⟨p, hp', rfl⟩ := Option.map_eq_some_iff.mp hq
      cases h1; cases h2
      exact ⟨t', by simp [List.getD_eq_getElem?_getD, List.getElem?_map, hp']⟩
    have hl : (List.range (parts.map pv).length).map (fun j => (parts.map pieceOfPart).getD j Str.empty) = parts.map pieceOfPart := by
      have := range_getD (parts.map pieceOfPart) Str.empty
      simpa using this
    refine join_rowsK (sep := Str.ofString "") F5 G5 X5 (Nat.le_refl _) _ hv (by rw [hl]; exact textOf_ok hz hn) (fun s' t' F6 G6 hos6 keep6 => ?_) (by rw [List.length_map, sizeLine_eq]; lia)
    rw [hl]
    have LL2 := lt_tab (o' := tabObj ps') LL
    have N6 : News _ _ s'.heap ((x, accObj dx (refsOf parts) n) :: (dx, iniD w k ti te) :: (183, tabObj ps') :: rest) := fun p hp => ⟨keep6 _ _ (Nat.le_of_lt (LL2 p hp)) (N5 p hp).1, (N5 p hp).2⟩
    obtain ⟨h6, g6, d6, t6, os6⟩ := s'
    dsimp only at F6 G6 hos6 N6
    subst hos6
    clear F5 N5 X5
    k_steps
    exact hret _ _ ps' (by assumption) (by assumption) G6 rfl (isCode_triples code5)
end Mine
end
section
open PySem PySem.W PyProof.Rows PySem.Calls Builtin Builtin.ObjectAttr Builtin.Getset_descriptor
set_option Elab.async false
set_option maxRecDepth 100000
set_option maxHeartbeats 0
namespace Mine
theorem lines_AccM_1 : True := by
  w_top off
  k_with_none
  k_with "m9:room" => ktr_room
  k_with "m9:inst" => (refine' inst_acc ?NQ8 ?h1Q8 ?h2Q8; (case NQ8 => k_asm); (case h1Q8 => k_mem); (case h2Q8 => k_mem))
  k_with "m9:all" => first | (with_reducible assumption) | exact allNe_lt (by assumption)
  k_with "m:eval Name" => dsimp only
  k_with "m:spliced" => dsimp only
  k_with "m:execs cons" => dsimp only
  k_with "m:eval Constant int" => dsimp only
  k_with "m:eval BinOp" => dsimp only
  k_with "m:execs nil" => dsimp only
  k_with "m:eval Call" => dsimp only
  k_with "m:storeName" => dsimp only
  k_with "m:exec Assign" => dsimp only
  k_with "m:callWith" => dsimp only
  k_with "m:eval Subscript" => dsimp only
  k_with "m:eval Call Attribute" => dsimp only
  k_with "m:evalPart none" => dsimp only
  k_with "m:truthy bool" => dsimp only
  k_with "m:callWith ref" => dsimp only
  k_with "m:call ref" => dsimp only
  k_with "m:isTrue Compare" => dsimp only
  k_with "m:getMethod ref" => dsimp only
  k_with "m:exec If" => dsimp only
  k_with "m:exec Return some" => dsimp only
  k_with "m:getAttr ref" => dsimp only
  k_with "m:eval Attribute Name" => dsimp only
  k_with "m:binaryOp Add int int" => dsimp only
  k_with "m:isTrue BoolOp" => dsimp only
  k_with "m:binaryOp Mod int int" => dsimp only
  k_with "m:subscriptTail Name Constant ref int" => dsimp only
  k_with "m:evalPart some" => dsimp only
  k_with "m:eval Slice" => dsimp only
  k_with "m:exec Expr" => dsimp only
  k_with "m:isTrue" => dsimp only
  k_with "m:eval Constant str" => dsimp only
  k_with "m:assignInOrder" => dsimp only
  k_with "m:call builtin:len" => dsimp only
  k_with "m:newTuple" => dsimp only
  k_with "m:eval Tuple" => dsimp only
  k_with "m:eval BoolOp" => dsimp only
  k_with "m:subscriptTail Name Slice str ref" => dsimp only
  k_with "m:getMethod str" => dsimp only
  k_with "m:setAttr ref" => dsimp only
  k_with "m:newList" => dsimp only
  k_with "m:eval List" => dsimp only
  k_with "m:binaryOp Mult int int" => dsimp only
  k_with "m:con_enter" => (refine wpAny_call ?_; k_dflt (first | cell_enter | (refine' code_defC ?k1Q8 ?k2Q8 ?k3Q8 ?k4Q8 ?k5Q8 ?kAQ8 ?kFQ8 ?kKQ8 ?k6Q8 ?k7Q8 ?k8Q8 ?k9Q8 ?kBQ8 ?kDQ8 ?_ ?c2Q8 ?c3Q8 ?c4Q8; (case kAQ8 => exact rfl); (case kFQ8 => exact rfl); (case kKQ8 => assumption); (case k1Q8 => k_asm); (case k2Q8 => k_asm); (case k3Q8 => k_asm); (case k4Q8 => k_asm); (case k5Q8 => k_asm); (case k6Q8 => k_is); (case k7Q8 => k_is); (case k8Q8 => ktr_room); (case k9Q8 => first | exact BindsTo.of_eq rfl | exact binds_K (by k_in) rfl (by k_is) rfl rfl rfl | fail "k_enter: no rule for these arguments"); (case kBQ8 => exact rfl); (case kDQ8 => decide +kernel); (case c2Q8 => exact rfl); (case c3Q8 => exact rfl); (case c4Q8 => exact rfl); k_whole; intro g'Q9 L'Q9 h'Q9 tk'Q9 cells'Q9 FG'Q9 F'Q9 N'Q9 Y'Q9 B'Q9 X'Q9 T'Q9 l1Q9; (try k_lt l1Q9); k_cells Y'Q9; (try simp only [List.cons_append, List.nil_append] at N'Q9); (try dsimp only); (try k_lift B'Q9); (try k_fold))))
  k_with "m:con_enterS" => (refine wpAny_call ?_; k_dflt (refine' code_defS ?k1Q8 ?k2Q8 ?k3Q8 ?k4Q8 ?k5Q8 ?kAQ8 ?kFQ8 ?kKQ8 ?k6Q8 ?k7Q8 ?k8Q8 ?k9Q8 ?kBQ8 ?_ ?c2Q8 ?c3Q8 ?c4Q8 ?c5Q8; (case kAQ8 => exact rfl); (case kFQ8 => exact rfl); (case kKQ8 => first | assumption | exact rfl); (case k1Q8 => k_asm); (case k2Q8 => k_asm); (case k3Q8 => k_asm); (case k4Q8 => k_asm); (case k5Q8 => k_asm); (case k6Q8 => k_is); (case k7Q8 => k_is); (case k8Q8 => ktr_room); (case k9Q8 => first | exact BindsTo.of_eq rfl | exact binds_K (by k_in) rfl (by k_is) rfl rfl rfl); (case c5Q8 => decide); (case kBQ8 => exact locs rfl); (case c2Q8 => exact rfl); (case c3Q8 => exact rfl); (case c4Q8 => exact rfl); k_whole; intro g'Q9 L'Q9 h'Q9 FG'Q9 F'Q9 N'Q9 B'Q9 X'Q9 T'Q9 l1Q9; (try dsimp only); (try k_lift B'Q9); (try k_fold)))
  k_with "m:getAttr ref" => (k_here; k_dflt (refine' acc_getK ?k1Q8 ?k2Q8 ?k3Q8 ?k4Q8 ?k5Q8 ?k6Q8 ?k7Q8 ?_; (case k1Q8 => k_asm); (case k2Q8 => k_asm); (case k3Q8 => k_inst); (case k4Q8 => k_is); (case k5Q8 => k_is); (case k6Q8 => k_get); (case k7Q8 => k_handed); k_whole))
  k_with "m:getMethod ref" => (k_here; k_dflt (refine' acc_methodK ?k1Q8 ?k2Q8 ?k3Q8 ?k4Q8 ?k5Q8 ?k6Q8 ?_; (case k1Q8 => k_asm); (case k2Q8 => k_asm); (case k3Q8 => k_inst); (case k4Q8 => k_is); (case k5Q8 => kernel_rfl); (case k6Q8 => k_get); k_whole))
  k_with "m:getMethod ref" => (k_here; k_dflt (first | (refine' super_init_K ?k1Q8 ?k2Q8 ?k3Q8 ?k4Q8 ?k5Q8 ?_; (case k1Q8 => k_asm); (case k2Q8 => k_asm); (case k3Q8 => k_asm); (case k4Q8 => k_mem); (case k5Q8 => k_inst)) | (refine' super_len_K ?k1Q8 ?k2Q8 ?k3Q8 ?k4Q8 ?k5Q8 ?_; (case k1Q8 => k_asm); (case k2Q8 => k_asm); (case k3Q8 => k_asm); (case k4Q8 => k_mem); (case k5Q8 => k_inst)) | (refine' super_pop_K ?k1Q8 ?k2Q8 ?k3Q8 ?k4Q8 ?k5Q8 ?_; (case k1Q8 => k_asm); (case k2Q8 => k_asm); (case k3Q8 => k_asm); (case k4Q8 => k_mem); (case k5Q8 => k_inst))); k_whole; intro q'Q9 h'Q9 F'Q9 N'Q9 l1Q9; (try k_lt l1Q9); (try k_sweep); (try dsimp only))
  k_with "m:setAttr ref" => (k_here; k_dflt (refine' acc_set ?k1Q8 ?k2Q8 ?k3Q8 ?k4Q8 ?k8Q8 ?k10Q8 ?k11Q8 ?k12Q8 ?k13Q8 ?_; (case k1Q8 => k_asm); (case k2Q8 => k_asm); (case k3Q8 => k_asm); (case k4Q8 => k_inst); (case k8Q8 => k_is); (case k10Q8 => k_get); (case k11Q8 => k_put); (case k12Q8 => k_upd); (case k13Q8 => exact Nat.le_of_ble_eq_true rfl); k_whole; intro h'Q9 F'Q9 N'Q9; (try k_sweep); (try dsimp only)))
  k_with "m:call ref" => (k_here; k_dflt (first | (refine' call_init_K ?k1Q8 ?k2Q8 ?k3Q8 ?k4Q8 ?_; (case k1Q8 => k_asm); (case k2Q8 => k_asm); (case k3Q8 => k_mem); (case k4Q8 => k_upd); k_whole; intro h'Q9 F'Q9 N'Q9; (try k_sweep)) | (refine' call_pop_K ?k1Q8 ?k0Q8 ?k2Q8 ?k3Q8 ?k4Q8 ?k5Q8 ?_; (case k1Q8 => k_asm); (case k0Q8 => k_asm); (case k2Q8 => k_asm); (case k3Q8 => k_mem); (case k4Q8 => k_upd); (case k5Q8 => omega); k_whole; intro h'Q9 F'Q9 N'Q9; (try k_sweep)) | (refine' call_len_K ?k2Q8 ?k3Q8 ?k4Q8 ?_; (case k2Q8 => k_asm); (case k3Q8 => k_mem); (case k4Q8 => k_mem); k_whole)))
  k_with "m:call builtin:list.append" => (k_here; k_dflt (refine' acc_append ?k1Q8 ?k0Q8 ?k2Q8 ?k3Q8 ?zQ8 ?_; (case k1Q8 => k_asm); (case k0Q8 => k_asm); (case k2Q8 => k_asm); (case k3Q8 => k_upd); (case zQ8 => omega); k_whole); intro h'Q9 F'Q9 N'Q9; (try k_sweep))
  k_with "m:acc_super_enter" => k_dflt (refine' ks_code_super ?k1Q8 ?k2Q8 ?k3Q8 ?k4Q8 ?k5Q8 ?kAQ8 ?kFQ8 ?kKQ8 ?k6Q8 ?k7Q8 ?k8Q8 ?k9Q8 ?kBQ8 ?_ ?c1Q8 ?c2Q8 ?c3Q8 ?c4Q8; (case kAQ8 => exact rfl); (case kFQ8 => exact rfl); (case kKQ8 => first | exact rfl | assumption); (case k1Q8 => k_asm); (case k2Q8 => k_asm); (case k3Q8 => k_asm); (case k4Q8 => k_asm); (case k5Q8 => k_asm); (case k6Q8 => k_is); (case k7Q8 => k_is); (case k8Q8 => k_room); (case k9Q8 => first | exact BindsTo.of_eq rfl | exact binds_K (by k_in) rfl (by k_is) rfl rfl rfl); (case kBQ8 => exact locs rfl); (case c1Q8 => decide); (case c2Q8 => exact rfl); (case c3Q8 => exact rfl); (case c4Q8 => exact rfl); intro g'Q9 L'Q9 h'Q9 FG'Q9 F'Q9 N'Q9 B'Q9 X'Q9 T'Q9 l1Q9; (try k_lt l1Q9); (try dsimp only); (try k_lift B'Q9))
  k_with "m:ks_go" => ((try dsimp only); first | refine ks_wpAt_execs_cons ?_ | refine ks_wpAt_Expr_any ?_ | refine ks_wpAt_Return_some ?_ | refine ks_wpAt_MethodCall ?_ | k_dflt (refine ks_node (by k_asm) (by k_asm) (by k_asm) (by k_asm) (by k_is) (by rfl) (by rfl) (by k_inst) (by k_is) (by rfl) (by first | rfl | decide +kernel) (by k_is) (by k_is) (by k_is) (by k_is) (by decide) (by rfl) (by rfl) (by rfl) (by rfl) (by decide +kernel) (by first | boot_by_name | rfl | kernel_rfl) ?_; intro so'Q9 h'Q9 F'Q9 N'Q9 l1Q9; (try k_lt l1Q9); (try dsimp only)))
  k_with "m:callWith ref" => (k_here; (with_reducible show wpAny _ _ (callWith _ (Value.ref _) [] (backTo _ (starEach [] _)) []) _ _ _); k_dflt (first | (refine' callWith_W0 ?k1Q8 ?k2Q8 ?_; (case k1Q8 => k_asm); (case k2Q8 => k_mem)) | (refine' callWith_B0 ?k1Q8 ?k2Q8 ?_; (case k1Q8 => k_asm); (case k2Q8 => k_mem))); k_whole)
  trivial
theorem acc_push (w : World) (mean : ExcName → Option Value) (mg mb : Str → Option Value) (rest : List (Addr × Obj)) (x dx : Addr) (vs : Array Value) (n : Nat) (k : Int) (ti te ta tb : Tok) (a b : Str) (hz : vs.size ≤ 1000) (hx : ∀ p ∈ rest, p.1 ≠ x) (hdx : dx < x) :
    Con 8 60 w mean mg mb 158 ((x, accObj dx vs n) :: (dx, iniD w k ti te) :: rest) [.ref x, .str a ta, .str b tb] (fun h₀ L m s Q => ∀ t h' tk', (∀ p ∈ rest, p.1 < t) → x < t → dx < t → Fr h₀ L h' m → News h₀ L h' ((x, accObj dx (vs.push (.ref t)) (n + 1)) :: (dx, iniD w k ti te) :: (t, tupO (.str a ta) (.str b tb)) :: rest) → Q .none { s with heap := h', toks := tk' }) := by
  dsimp only [Con, pr, lsV]; k_fill
  intros; rename_i hret
  walk_at "con_enterS"
  (with_reducible rename ∀ p ∈ _, _ => LL)
  have hdx' := ltN hdx
  k_steps
  (with_reducible rename _ ∧ _ => L1)
  exact hret _ _ _ (allLt_mem L1.2.2) L1.1 L1.2.1 (by assumption) (news_rot (by assumption))
theorem acc_count (w : World) (mean : ExcName → Option Value) (mg mb : Str → Option Value) (rest : List (Addr × Obj)) (x dx : Addr) (vs : Array Value) (n : Nat) (k : Int) (ti te : Tok) :
    Con 8 60 w mean mg mb 211 ((x, accObj dx vs n) :: (dx, iniD w k ti te) :: rest) [.ref x] (fun h₀ L m s Q => ∀ t h' tk', Fr h₀ L h' m → News h₀ L h' ((x, accObj dx vs n) :: (dx, iniD w k ti te) :: rest) → Q (.int vs.size t) { s with heap := h', toks := tk' }) := by
  dsimp only [Con, pr, lsV]; k_fill
  intros; rename_i hret
  refine wpAny_call ?_
  walk_at "acc_super_enter"
  repeat walk_at "ks_go"
  k_steps
  exact hret _ _ _ (by assumption) (news_drop2 (by assumption))
end Mine
end
section
open PySem PySem.W PyProof.Rows PySem.Calls Builtin Builtin.ObjectAttr Builtin.Getset_descriptor
set_option Elab.async false
set_option maxRecDepth 100000
set_option maxHeartbeats 0
namespace Mine
theorem lines_AccN_1 : True := by
  w_top off
  k_with_none
  k_with "m9:room" => ktr_room
  k_with "m9:inst" => (refine' inst_acc ?NQ8 ?h1Q8 ?h2Q8; (case NQ8 => k_asm); (case h1Q8 => k_mem); (case h2Q8 => k_mem))
  k_with "m9:all" => first | (with_reducible assumption) | exact allNe_lt (by assumption)
  k_with "m:eval Name" => dsimp only
  k_with "m:spliced" => dsimp only
  k_with "m:execs cons" => dsimp only
  k_with "m:eval Constant int" => dsimp only
  k_with "m:eval BinOp" => dsimp only
  k_with "m:execs nil" => dsimp only
  k_with "m:eval Call" => dsimp only
  k_with "m:storeName" => dsimp only
  k_with "m:exec Assign" => dsimp only
  k_with "m:callWith" => dsimp only
  k_with "m:eval Subscript" => dsimp only
  k_with "m:eval Call Attribute" => dsimp only
  k_with "m:evalPart none" => dsimp only
  k_with "m:truthy bool" => dsimp only
  k_with "m:callWith ref" => dsimp only
  k_with "m:call ref" => dsimp only
  k_with "m:isTrue Compare" => dsimp only
  k_with "m:getMethod ref" => dsimp only
  k_with "m:exec If" => dsimp only
  k_with "m:exec Return some" => dsimp only
  k_with "m:getAttr ref" => dsimp only
  k_with "m:eval Attribute Name" => dsimp only
  k_with "m:binaryOp Add int int" => dsimp only
  k_with "m:isTrue BoolOp" => dsimp only
  k_with "m:binaryOp Mod int int" => dsimp only
  k_with "m:subscriptTail Name Constant ref int" => dsimp only
  k_with "m:evalPart some" => dsimp only
  k_with "m:eval Slice" => dsimp only
  k_with "m:exec Expr" => dsimp only
  k_with "m:isTrue" => dsimp only
  k_with "m:eval Constant str" => dsimp only
  k_with "m:assignInOrder" => dsimp only
  k_with "m:call builtin:len" => dsimp only
  k_with "m:newTuple" => dsimp only
  k_with "m:eval Tuple" => dsimp only
  k_with "m:eval BoolOp" => dsimp only
  k_with "m:subscriptTail Name Slice str ref" => dsimp only
  k_with "m:getMethod str" => dsimp only
  k_with "m:setAttr ref" => dsimp only
  k_with "m:newList" => dsimp only
  k_with "m:eval List" => dsimp only
  k_with "m:binaryOp Mult int int" => dsimp only
  k_with "m:con_enter" => (refine wpAny_call ?_; k_dflt (first | cell_enter | (refine' code_defC ?k1Q8 ?k2Q8 ?k3Q8 ?k4Q8 ?k5Q8 ?kAQ8 ?kFQ8 ?kKQ8 ?k6Q8 ?k7Q8 ?k8Q8 ?k9Q8 ?kBQ8 ?kDQ8 ?_ ?c2Q8 ?c3Q8 ?c4Q8; (case kAQ8 => exact rfl); (case kFQ8 => exact rfl); (case kKQ8 => assumption); (case k1Q8 => k_asm); (case k2Q8 => k_asm); (case k3Q8 => k_asm); (case k4Q8 => k_asm); (case k5Q8 => k_asm); (case k6Q8 => k_is); (case k7Q8 => k_is); (case k8Q8 => ktr_room); (case k9Q8 => first | exact BindsTo.of_eq rfl | exact binds_K (by k_in) rfl (by k_is) rfl rfl rfl | fail "k_enter: no rule for these arguments"); (case kBQ8 => exact rfl); (case kDQ8 => decide +kernel); (case c2Q8 => exact rfl); (case c3Q8 => exact rfl); (case c4Q8 => exact rfl); k_whole; intro g'Q9 L'Q9 h'Q9 tk'Q9 cells'Q9 FG'Q9 F'Q9 N'Q9 Y'Q9 B'Q9 X'Q9 T'Q9 l1Q9; (try k_lt l1Q9); k_cells Y'Q9; (try simp only [List.cons_append, List.nil_append] at N'Q9); (try dsimp only); (try k_lift B'Q9); (try k_fold))))
  k_with "m:con_enterS" => (refine wpAny_call ?_; k_dflt (refine' code_defS ?k1Q8 ?k2Q8 ?k3Q8 ?k4Q8 ?k5Q8 ?kAQ8 ?kFQ8 ?kKQ8 ?k6Q8 ?k7Q8 ?k8Q8 ?k9Q8 ?kBQ8 ?_ ?c2Q8 ?c3Q8 ?c4Q8 ?c5Q8; (case kAQ8 => exact rfl); (case kFQ8 => exact rfl); (case kKQ8 => first | assumption | exact rfl); (case k1Q8 => k_asm); (case k2Q8 => k_asm); (case k3Q8 => k_asm); (case k4Q8 => k_asm); (case k5Q8 => k_asm); (case k6Q8 => k_is); (case k7Q8 => k_is); (case k8Q8 => ktr_room); (case k9Q8 => first | exact BindsTo.of_eq rfl | exact binds_K (by k_in) rfl (by k_is) rfl rfl rfl); (case c5Q8 => decide); (case kBQ8 => exact locs rfl); (case c2Q8 => exact rfl); (case c3Q8 => exact rfl); (case c4Q8 => exact rfl); k_whole; intro g'Q9 L'Q9 h'Q9 FG'Q9 F'Q9 N'Q9 B'Q9 X'Q9 T'Q9 l1Q9; (try dsimp only); (try k_lift B'Q9); (try k_fold)))
  k_with "m:getAttr ref" => (k_here; k_dflt (refine' acc_getK ?k1Q8 ?k2Q8 ?k3Q8 ?k4Q8 ?k5Q8 ?k6Q8 ?k7Q8 ?_; (case k1Q8 => k_asm); (case k2Q8 => k_asm); (case k3Q8 => k_inst); (case k4Q8 => k_is); (case k5Q8 => k_is); (case k6Q8 => k_get); (case k7Q8 => k_handed); k_whole))
  k_with "m:getMethod ref" => (k_here; k_dflt (refine' acc_methodK ?k1Q8 ?k2Q8 ?k3Q8 ?k4Q8 ?k5Q8 ?k6Q8 ?_; (case k1Q8 => k_asm); (case k2Q8 => k_asm); (case k3Q8 => k_inst); (case k4Q8 => k_is); (case k5Q8 => kernel_rfl); (case k6Q8 => k_get); k_whole))
  k_with "m:getMethod ref" => (k_here; k_dflt (first | (refine' super_init_K ?k1Q8 ?k2Q8 ?k3Q8 ?k4Q8 ?k5Q8 ?_; (case k1Q8 => k_asm); (case k2Q8 => k_asm); (case k3Q8 => k_asm); (case k4Q8 => k_mem); (case k5Q8 => k_inst)) | (refine' super_len_K ?k1Q8 ?k2Q8 ?k3Q8 ?k4Q8 ?k5Q8 ?_; (case k1Q8 => k_asm); (case k2Q8 => k_asm); (case k3Q8 => k_asm); (case k4Q8 => k_mem); (case k5Q8 => k_inst)) | (refine' super_pop_K ?k1Q8 ?k2Q8 ?k3Q8 ?k4Q8 ?k5Q8 ?_; (case k1Q8 => k_asm); (case k2Q8 => k_asm); (case k3Q8 => k_asm); (case k4Q8 => k_mem); (case k5Q8 => k_inst))); k_whole; intro q'Q9 h'Q9 F'Q9 N'Q9 l1Q9; (try k_lt l1Q9); (try k_sweep); (try dsimp only))
  k_with "m:setAttr ref" => (k_here; k_dflt (refine' acc_set ?k1Q8 ?k2Q8 ?k3Q8 ?k4Q8 ?k8Q8 ?k10Q8 ?k11Q8 ?k12Q8 ?k13Q8 ?_; (case k1Q8 => k_asm); (case k2Q8 => k_asm); (case k3Q8 => k_asm); (case k4Q8 => k_inst); (case k8Q8 => k_is); (case k10Q8 => k_get); (case k11Q8 => k_put); (case k12Q8 => k_upd); (case k13Q8 => exact Nat.le_of_ble_eq_true rfl); k_whole; intro h'Q9 F'Q9 N'Q9; (try k_sweep); (try dsimp only)))
  k_with "m:call ref" => (k_here; k_dflt (first | (refine' call_init_K ?k1Q8 ?k2Q8 ?k3Q8 ?k4Q8 ?_; (case k1Q8 => k_asm); (case k2Q8 => k_asm); (case k3Q8 => k_mem); (case k4Q8 => k_upd); k_whole; intro h'Q9 F'Q9 N'Q9; (try k_sweep)) | (refine' call_pop_K ?k1Q8 ?k0Q8 ?k2Q8 ?k3Q8 ?k4Q8 ?k5Q8 ?_; (case k1Q8 => k_asm); (case k0Q8 => k_asm); (case k2Q8 => k_asm); (case k3Q8 => k_mem); (case k4Q8 => k_upd); (case k5Q8 => omega); k_whole; intro h'Q9 F'Q9 N'Q9; (try k_sweep)) | (refine' call_len_K ?k2Q8 ?k3Q8 ?k4Q8 ?_; (case k2Q8 => k_asm); (case k3Q8 => k_mem); (case k4Q8 => k_mem); k_whole)))
  k_with "m:call builtin:list.append" => (k_here; k_dflt (refine' acc_append ?k1Q8 ?k0Q8 ?k2Q8 ?k3Q8 ?zQ8 ?_; (case k1Q8 => k_asm); (case k0Q8 => k_asm); (case k2Q8 => k_asm); (case k3Q8 => k_upd); (case zQ8 => omega); k_whole); intro h'Q9 F'Q9 N'Q9; (try k_sweep))
  k_with "m:acc_super_enter" => k_dflt (refine' ks_code_super ?k1Q8 ?k2Q8 ?k3Q8 ?k4Q8 ?k5Q8 ?kAQ8 ?kFQ8 ?kKQ8 ?k6Q8 ?k7Q8 ?k8Q8 ?k9Q8 ?kBQ8 ?_ ?c1Q8 ?c2Q8 ?c3Q8 ?c4Q8; (case kAQ8 => exact rfl); (case kFQ8 => exact rfl); (case kKQ8 => first | exact rfl | assumption); (case k1Q8 => k_asm); (case k2Q8 => k_asm); (case k3Q8 => k_asm); (case k4Q8 => k_asm); (case k5Q8 => k_asm); (case k6Q8 => k_is); (case k7Q8 => k_is); (case k8Q8 => k_room); (case k9Q8 => first | exact BindsTo.of_eq rfl | exact binds_K (by k_in) rfl (by k_is) rfl rfl rfl); (case kBQ8 => exact locs rfl); (case c1Q8 => decide); (case c2Q8 => exact rfl); (case c3Q8 => exact rfl); (case c4Q8 => exact rfl); intro g'Q9 L'Q9 h'Q9 FG'Q9 F'Q9 N'Q9 B'Q9 X'Q9 T'Q9 l1Q9; (try k_lt l1Q9); (try dsimp only); (try k_lift B'Q9))
  k_with "m:ks_go" => ((try dsimp only); first | refine ks_wpAt_execs_cons ?_ | refine ks_wpAt_Expr_any ?_ | refine ks_wpAt_Return_some ?_ | refine ks_wpAt_MethodCall ?_ | k_dflt (refine ks_node (by k_asm) (by k_asm) (by k_asm) (by k_asm) (by k_is) (by rfl) (by rfl) (by k_inst) (by k_is) (by rfl) (by first | rfl | decide +kernel) (by k_is) (by k_is) (by k_is) (by k_is) (by decide) (by rfl) (by rfl) (by rfl) (by rfl) (by decide +kernel) (by first | boot_by_name | rfl | kernel_rfl) ?_; intro so'Q9 h'Q9 F'Q9 N'Q9 l1Q9; (try k_lt l1Q9); (try dsimp only)))
  k_with "m:callWith ref" => (k_here; (with_reducible show wpAny _ _ (callWith _ (Value.ref _) [] (backTo _ (starEach [] _)) []) _ _ _); k_dflt (first | (refine' callWith_W0 ?k1Q8 ?k2Q8 ?_; (case k1Q8 => k_asm); (case k2Q8 => k_mem)) | (refine' callWith_B0 ?k1Q8 ?k2Q8 ?_; (case k1Q8 => k_asm); (case k2Q8 => k_mem))); k_whole)
  k_with "m:ks_if" => ((try dsimp only); (with_reducible show PySem.wpAt _ _ _ _ _ _ _); first | walk_at "ks_go" | refine ks_wpAt_If ?_)
  k_with "m:ks_run" => repeat' (first | walk_at "ks_if" | (k_unfold; (try dsimp only)) | (k_end; wrow_close) | walk1 | (dsimp only; walk1) | fail "no step")
  k_with "m:call ref" => (k_here; k_dflt (refine' acc_count _ _ _ _ _ _ _ _ _ _ _ _ _ _ _ _ _ _ _ _ _ _ _ _ _ _ _ _ _ ?k1Q8 ?k2Q8 ?k3Q8 ?k4Q8 ?k5Q8 ?kKQ8 ?kdQ8 ?kuQ8 ?_; (case k1Q8 => k_asm); (case k2Q8 => k_asm); (case k3Q8 => k_asm); (case k4Q8 => k_asm); (case k5Q8 => k_asm); (case kKQ8 => first | exact rfl | assumption); (case kdQ8 => ktr_room); (case kuQ8 => ktr_units); k_whole; intro tQ9 h'Q9 tk'Q9 F'Q9 N'Q9; (try k_sweep); (try dsimp only)))
  trivial
theorem acc_pop (w : World) (mean : ExcName → Option Value) (mg mb : Str → Option Value) (rest : List (Addr × Obj)) (x dx : Addr) (vs : Array Value) (v : Value) (n : Nat) (k : Int) (ti te : Tok) (hz : vs.size ≤ 1000) (hx : ∀ p ∈ rest, p.1 ≠ x) (hdx : dx < x) :
    Con 12 90 w mean mg mb 174 ((x, accObj dx (vs.push v) n) :: (dx, iniD w k ti te) :: rest) [.ref x] (fun h₀ L m s Q => ∀ h' tk', Fr h₀ L h' m → News h₀ L h' ((x, accObj dx vs (n + 1)) :: (dx, iniD w k ti te) :: rest) → Q v { s with heap := h', toks := tk' }) := by
  dsimp only [Con, pr, lsV]; k_fill
  intros; rename_i hret
  refine wpAny_call ?_
  walk_at "acc_super_enter"
  have hdx' := ltN hdx
  walk_at "ks_run"
  · exfalso
    have e : (((vs.push v).size : Nat) : Int) = 0 := by assumption
    rw [Array.size_push] at e
    omega
  · exact hret _ _ (by assumption) (news_drop2 (by assumption))
end Mine
end
section
open PySem PySem.W PyProof.Rows PySem.Calls Builtin Builtin.ObjectAttr Builtin.Getset_descriptor
set_option Elab.async false
set_option maxRecDepth 100000
set_option maxHeartbeats 400000
namespace Mine
theorem none_AccP : True := by w_top off; k_with_none; trivial
noncomputable abbrev sliceO (a b c : Value) : Obj := { cls := .type "slice", data := .fields #[a, b, c] }
theorem gi_kind : builtinKind "list.__getitem__" = some .method := by decide +kernel
theorem gi_split : splitId "list.__getitem__" = some ("list", "__getitem__") := by decide +kernel
theorem gi_plain : plainId "list.__getitem__" = true := by decide +kernel
theorem gi_entry : entryFor table "list.__getitem__" = some Builtin.«list.__getitem__» := entryFor_of_tree (by kernel_rfl)
theorem gi_args (a b : Value) : argsOk "list.__getitem__" ⟨[a, b], []⟩ := by unfold argsOk; kernel_rfl
theorem gi_bind (self : Value) : bindSpecial (.builtin "list.__getitem__") self = pure (.builtin "list.__getitem__", [self]) := by kernel_rfl
section
variable {w : World} {A : Around} {E : Value → Shared → Prop} {h : Heap} {g : Array GenState} {d : Drawn} {t : Nat} {os : OsState} {x dx sl : Addr} {vs : Array Value} {v : Value} {n : Nat} {i : Int} {tj : Tok}
theorem acc_getslice {Q : Value → Shared → Prop} (X : (hd.heap_39 w.params).In h) (ho : h.get? x = some (accObj dx (vs.push v) n)) (hs : h.get? sl = some (sliceO (.int i tj) .none .none)) (hi : i = vs.size) (hz : vs.size ≤ 1000)
    (hq : Q (.ref h.objs.size) ⟨h.push (W.listOf #[v] 0), g, d, t, os⟩) : wpAny (model pr w) A (getItem (.ref x) (.ref sl)) Q E ⟨h, g, d, t, os⟩ := by
  have t0 : Looks (model pr w) h (typeOf (.ref x)) (.ref 214) := (Looks.ld ho).andThen .now
  have t1 : Looks (model pr w) h (typeOf (.ref sl)) (.type "slice") := (Looks.ld hs).andThen .now
  have LI : Looks (model pr w) h (isInstance (.ref x) (.type "list")) true := t0.andThen (list_acc X)
  have lk1 : Looks (model pr w) h (typeLookup (.ref 214) "__getitem__") (some (.builtin "list.__getitem__")) := Looks.of_peek X (by kernel_rfl)
  have sk : Looks (model pr w) h (sequenceKey (.ref x) (.ref sl) "__getitem__") (.ref sl) := by
    unfold sequenceKey
    exact t0.andThen (Looks.of_peek X (by kernel_rfl))
  have six : typeLookup (.type "slice") "__index__" = pure none := by rw [typeLookup_type, builtinLookup_eq_fast]; kernel_rfl
  unfold getItem
  refine wpAny_holding (wpAny_bind (sk.at (wpAny_bind ?_)))
  unfold callSpecial? specialOf
  refine wpAny_bind (wpAny_bind (t0.at (lk1.at (wpAny_holding ?_))))
  rw [gi_bind]
  refine wpAny_bind (wpAny_pure (wpAny_bind ?_))
  show wpAny _ _ (PySem.call (.builtin "list.__getitem__") [.ref x, .ref sl] []) _ _ _
  have ck' := gi_args (.ref x) (.ref sl)
  refine wpAny_call (codeAny_call_builtin gi_plain gi_entry ?_)
  have chk : ∀ {Q' : Unit → Shared → Prop} {E' : Value → Shared → Prop}, Q' () ⟨h, g, d, t, os⟩ → wpAny (model pr w) A.in1 (checkBuiltinCall "list.__getitem__" ⟨[.ref x, .ref sl], []⟩) Q' E' ⟨h, g, d, t, os⟩ := by
    intro Q' E' q
    simp only [checkBuiltinCall, gi_kind, gi_split]
    refine wpAny_bind (LI.at ?_)
    simp only [Bool.not_true, Bool.false_eq_true, if_false]
    cases hsig : Manifest.signature? "list.__getitem__" with
    | none => exact wpAny_pure q
    | some sig =>
      simp only [argsOk, hsig] at ck'
      show wpAny _ _ (Bind.checkArgs "list.__getitem__" sig ⟨[.ref x, .ref sl], []⟩) _ _ _
      rw [show Bind.checkArgs "list.__getitem__" sig ⟨[.ref x, .ref sl], []⟩ = pure () from ck']
      exact wpAny_pure q
  refine chk ?_
  unfold Builtin.«list.__getitem__»
  repeat (first | with_reducible refine wpAny_of_eq six ?_ | lk)
  have e : List.filterMap (fun x => (vs.push v)[x]?) (sliceRange (Max.max 0 (Min.min (if i < 0 then i + ((vs.push v).size : Int) else i) ((vs.push v).size : Int))) (if (1 : Int) > 0 then ((vs.push v).size : Int) else -1) 1) = [v] := by
    subst hi
    have a1 : (Max.max 0 (Min.min (if (vs.size : Int) < 0 then (vs.size : Int) + ((vs.push v).size : Int) else (vs.size : Int)) ((vs.push v).size : Int))) = (vs.size : Int) := by
      rw [Array.size_push, if_neg (by lia)]; lia
    rw [a1, if_pos (by decide), Array.size_push]
    unfold sliceRange
    have a2 : (if (1 : Int) > 0 then (if (vs.size : Int) < ((vs.size + 1 : Nat) : Int) then (((vs.size + 1 : Nat) : Int) - (vs.size : Int) + 1 - 1) / 1 else 0) else (if (vs.size : Int) > ((vs.size + 1 : Nat) : Int) then ((vs.size : Int) - ((vs.size + 1 : Nat) : Int) - 1 - 1) / (-1) else 0)) = 1 := by
      rw [if_pos (by decide), if_pos (by lia)]; lia
    simp only [a2]
    simp
  rw [e]
  rw [if_neg (by rw [sizeLine_eq]; simp)]
  show wpAny _ _ (newObjAsIs _ _ _) _ _ _
  unfold newObjAsIs
  repeat lk
  exact hq
end
end Mine
end
section
open PySem PySem.W PyProof.Rows PySem.Calls Builtin Builtin.ObjectAttr Builtin.Getset_descriptor Builtin.List
set_option Elab.async false
set_option maxRecDepth 100000
set_option maxHeartbeats 400000
namespace Mine
theorem ls_kind : builtinKind "list.__setitem__" = some .slot := by decide +kernel
theorem ls_split : splitId "list.__setitem__" = some ("list", "__setitem__") := by decide +kernel
theorem ls_plain : plainId "list.__setitem__" = true := by decide +kernel
theorem ls_entry : entryFor table "list.__setitem__" = some Builtin.«list.__setitem__» := entryFor_of_tree (by kernel_rfl)
theorem ls_args (a b c : Value) : argsOk "list.__setitem__" ⟨[a, b, c], []⟩ := by unfold argsOk; kernel_rfl
theorem ls_bind (self : Value) : bindSpecial (.builtin "list.__setitem__") self = pure (.builtin "list.__setitem__", [self]) := by kernel_rfl
noncomputable abbrev putSlice (vs us : Array Value) (st en : Int) : Array Value := vs.extract 0 st.toNat ++ us ++ vs.extract (Max.max st en).toNat vs.size
section
variable {w : World} {A : Around} {E : Value → Shared → Prop} {h : Heap} {g : Array GenState} {d : Drawn} {t : Nat} {os : OsState} {x dx sl l : Addr} {vs us : Array Value} {n c : Nat} {i : Int} {tj : Tok}
theorem list_setslice {Q : Unit → Shared → Prop} {o : Obj} {lo hi lo' hi' : Value} {st en : Int} (ho : h.get? x = some o) (hd : o.data = .seq vs n)
    (LI : Looks (model pr w) h (isInstance (.ref x) (.type "list")) true)
    (lk1 : Looks (model pr w) h (typeLookup o.cls "__setitem__") (some (.builtin "list.__setitem__")))
    (sk : Looks (model pr w) h (sequenceKey (.ref x) (.ref sl) "__setitem__") (.ref sl))
    (hs : h.get? sl = some (sliceO lo hi .none))
    (sp : Looks (model pr w) h (listSliceParts (.ref sl)) (lo', hi', .none))
    (si : Looks (model pr w) h (sliceIndices lo' hi' .none vs.size) (st, en, 1))
    (hl : h.get? l = some (W.listOf us c)) (hxl : x ≠ l) (hz : vs.size ≤ 1000) (hu : us.size ≤ 1000) (hz' : (putSlice vs us st en).size ≤ 2000)
    (hq : ∀ h', Heap.SameBut x h h' → h'.get? x = some { o with data := .seq (putSlice vs us st en) (if (putSlice vs us st en).size == vs.size then n else n + 1) } → Q () ⟨h', g, d, t, os⟩) : wpAny (model pr w) A (setItem (.ref x) (.ref sl) (.ref l)) Q E ⟨h, g, d, t, os⟩ := by
  have t0 : Looks (model pr w) h (typeOf (.ref x)) o.cls := (Looks.ld ho).andThen .now
  have t1 : Looks (model pr w) h (typeOf (.ref sl)) (.type "slice") := (Looks.ld hs).andThen .now
  have t2 : Looks (model pr w) h (typeOf (.ref l)) (.type "list") := (Looks.ld hl).andThen .now
  have six : typeLookup (.type "slice") "__index__" = pure none := by rw [typeLookup_type, builtinLookup_eq_fast]; kernel_rfl
  unfold setItem
  refine wpAny_holding (wpAny_bind (sk.at (wpAny_bind ?_)))
  unfold callSpecial? specialOf
  refine wpAny_bind (wpAny_bind (t0.at (lk1.at (wpAny_holding ?_))))
  rw [ls_bind]
  refine wpAny_bind (wpAny_pure (wpAny_bind ?_))
  show wpAny _ _ (PySem.call (.builtin "list.__setitem__") [.ref x, .ref sl, .ref l] []) _ _ _
  have ck' := ls_args (.ref x) (.ref sl) (.ref l)
  refine wpAny_call (codeAny_call_builtin ls_plain ls_entry ?_)
  refine @check_slot (model pr w) _ _ _ "list.__setitem__" "list" "__setitem__" (.ref x) [.ref sl, .ref l] [] _ ls_kind ls_split LI ck' ?_
  unfold Builtin.«list.__setitem__»
  have ls : listSameRef (.ref x) (.ref l) = false := by simp only [listSameRef]; exact beq_false_of_ne hxl
  have hlx : Looks (model pr w) h (listItems (.ref x)) vs := by
    unfold listItems seqItems?
    obtain ⟨oc, od, dt, osl⟩ := o
    simp only at hd; subst hd
    exact ((Looks.ld ho).andThen .now).andThen .now
  have hll : Looks (model pr w) h (listItems (.ref l)) us := by
    unfold listItems seqItems?
    exact ((Looks.ld hl).andThen .now).andThen .now
  simp only [listBlankSlotArgs, listSubscript?, specialOf]
  repeat (first | with_reducible refine wpAny_of_eq six ?_ | with_reducible refine wpAny_bind (sp.at ?_) | with_reducible refine wpAny_bind (si.at ?_) | with_reducible refine wpAny_bind (hll.at ?_) | with_reducible refine wpAny_bind (hlx.at ?_)  | lk)
  have hla : ∀ msg, Looks (model pr w) h (listAllItems (.ref l) msg) us := by
    intro msg
    unfold listAllItems
    refine t2.andThen ?_
    rw [if_pos (by decide)]
    exact hll
  rw [if_neg (by rw [ls]; decide)]
  refine wpAny_bind ((hla _).at (wpAny_bind (hlx.at (wpAny_bind (si.at ?_)))))
  dsimp only
  rw [if_pos (by decide)]
  refine wpAny_bind (wpAny_rule ?_)
  rw [if_neg (by unfold listTooLong; rw [sizeLine_eq]; simp; lia)]
  obtain ⟨oc, od, dt, osl⟩ := o
  simp only at hd; subst hd
  refine wpAny_bind (wpAny_updateSeq ho rfl ?_ (by rw [sizeLine_eq]; lia) (by rw [sizeLine_eq]; exact Nat.le_trans hz' (by decide)))
  refine wpAny_bind (wpAny_letGo (wpAny_pure (wpAny_pure (wpAny_pure ?_))))
  refine hq _ (Heap.SameBut.update ..) ?_
  rw [Heap.get?_update_self _ ho (by rfl)]
  rfl
theorem parts_int (hs : h.get? sl = some (sliceO (.int i tj) .none .none)) : Looks (model pr w) h (listSliceParts (.ref sl)) (rawInt i, .none, .none) := by
  intro A Q E s k q
  obtain ⟨hh, g, d, t, os⟩ := s
  have hs' := k _ _ hs
  unfold listSliceParts
  repeat lk
  exact q
theorem parts_none (hs : h.get? sl = some (sliceO .none .none .none)) : Looks (model pr w) h (listSliceParts (.ref sl)) (.none, .none, .none) := by
  intro A Q E s k q
  obtain ⟨hh, g, d, t, os⟩ := s
  have hs' := k _ _ hs
  unfold listSliceParts
  repeat lk
  exact q
theorem parts_hi (hs : h.get? sl = some (sliceO .none (.int i tj) .none)) : Looks (model pr w) h (listSliceParts (.ref sl)) (.none, rawInt i, .none) := by
  intro A Q E s k q
  obtain ⟨hh, g, d, t, os⟩ := s
  have hs' := k _ _ hs
  unfold listSliceParts
  repeat lk
  exact q
theorem ind_int {len : Nat} (h0 : 0 ≤ i) (h1 : i ≤ len) : Looks (model pr w) h (sliceIndices (rawInt i) .none .none len) (i, len, 1) := by
  intro A Q E s k q
  obtain ⟨hh, g, d, t, os⟩ := s
  unfold sliceIndices
  repeat lk
  rw [if_neg (show ¬ i < 0 by lia), if_pos (show (1 : Int) > 0 by decide), show max 0 (min i (len : Int)) = i by lia]
  exact q
theorem ind_none {len : Nat} : Looks (model pr w) h (sliceIndices .none .none .none len) (0, len, 1) := by
  intro A Q E s k q
  obtain ⟨hh, g, d, t, os⟩ := s
  unfold sliceIndices
  repeat lk
  exact q
theorem ind_hi {len : Nat} : Looks (model pr w) h (sliceIndices .none (rawInt 0) .none len) (0, 0, 1) := by
  intro A Q E s k q
  obtain ⟨hh, g, d, t, os⟩ := s
  unfold sliceIndices
  repeat lk
  rw [if_neg (show ¬ (0 : Int) < 0 by lia), show max (0 : Int) (min 0 (len : Int)) = 0 by lia]
  exact q
end
end Mine
end
section
open PySem PySem.W PyProof.Rows PySem.Calls Builtin Builtin.ObjectAttr Builtin.Getset_descriptor Builtin.List
set_option Elab.async false
set_option maxRecDepth 100000
set_option maxHeartbeats 400000
namespace Mine
section
variable {w : World} {A : Around} {E : Value → Shared → Prop} {h₀ h : Heap} {L : Addr} {m : Str → Option Value} {news news' : List (Addr × Obj)} {s : Shared} {g : Array GenState} {d : Drawn} {t : Nat} {os : OsState} {x dx sl l : Addr} {vs us vs' : Array Value} {v : Value} {n n' c : Nat} {i : Int} {tj : Tok}
theorem ne_lt {a b : Addr} (h : a < b) : a ≠ b := fun e => Nat.lt_irrefl _ (e ▸ h : b < b)
theorem ne_lt1 {a b : Addr} {Q : Prop} (h : a < b ∧ Q) : a ≠ b := ne_lt h.1
theorem ne_lt2 {a b : Addr} {P Q : Prop} (h : P ∧ (a < b ∧ Q)) : a ≠ b := ne_lt h.2.1
theorem acc_tail {value slice : PySem.Expr} {i : Value} {ops : List Value} {Q : Value → Shared → Prop} (X : (hd.heap_39 w.params).In s.heap) (ho : s.heap.get? x = some (accObj dx vs n))
    (hg : wpAny (model pr w) A (getItem (.ref x) i) Q E s) (hs : subscripted slice false (.ref x) i = operate ops (getItem (.ref x) i)) : wpAny (model pr w) A (subscriptTail value slice (.ref x) i) Q E s := by
  obtain ⟨h, g, d, t, os⟩ := s
  have t0 : Looks (model pr w) h (typeOf (.ref x)) (.ref 214) := (Looks.ld ho).andThen .now
  have lk1 : Looks (model pr w) h (typeLookup (.ref 214) "__getitem__") (some (.builtin "list.__getitem__")) := Looks.of_peek X (by kernel_rfl)
  have gp : Looks (model pr w) h (getitemInPython (.ref x)) false := by
    unfold getitemInPython specialOf
    exact (t0.andThen lk1).andThen .now
  unfold subscriptTail
  refine wpAny_bind ?_
  with_reducible refine gp.at ?_
  have fin : wpAny (model pr w) A (subscripted slice false (.ref x) i) (fun r s₃ => wpAny (model pr w) A (letTemporaryGo value (.ref x) r >>= fun _ => pure r) Q E s₃) E ⟨h, g, d, t, os⟩ := by
    rw [hs]
    exact wpAny_operating (wpAny_mono hg (fun r s₃ h₃ => wpAny_bind (wpAny_letTemporaryGo (wpAny_pure h₃))) fun _ _ x => x)
  exact wpAny_bind fin
theorem acc_getslice_K {value : PySem.Expr} {a : Option PySem.Expr} {p : Pos} {Q : Value → Shared → Prop} (F : Fr h₀ L h m) (X₀ : (hd.heap_39 w.params).In h₀) (N : News h₀ L h news) (ho : (x, accObj dx (vs.push v) n) ∈ news) (hi : i = vs.size) (hz : vs.size ≤ 1000)
    (hq : ∀ l h', Fr h₀ L h' m → News h₀ L h' ((l, W.listOf #[v] 0) :: news) → (∀ p ∈ news, p.1 < l) → Q (.ref l) ⟨h', g, d, t, os⟩) :
    wpAny (model pr w) A (subscriptTail value (.Slice a none none p) (.ref x) (.ref h.objs.size)) Q E ⟨h.push (sliceO (.int i tj) .none .none), g, d, t, os⟩ := by
  have F1 : Fr h₀ L (h.push (sliceO (.int i tj) .none .none)) m := F.push _
  have N1 := N.push F (sliceO (.int i tj) .none .none)
  have X := X₀.keeps F1.keep
  refine acc_tail X (N1 _ (.tail _ ho)).1 ?_ rfl
  refine acc_getslice X (N1 _ (.tail _ ho)).1 (N1 _ (.head _)).1 hi hz ?_
  have N2 := N1.push F1 (W.listOf #[v] 0)
  exact hq _ _ (F1.push _) (fun p hp => N2 p (by rcases List.mem_cons.mp hp with e | e; exact e ▸ .head _; exact .tail _ (.tail _ e))) (fun p hp => Heap.lt_size (N1 p (.tail _ hp)).1)
theorem acc_setslice_K {lo hi lo' hi' : Value} {st en : Int} {Q : Unit → Shared → Prop} (F : Fr h₀ L h m) (X₀ : (hd.heap_39 w.params).In h₀) (N : News h₀ L h news) (hl : (l, W.listOf us c) ∈ news) (U : Upd x (accObj dx vs n) (accObj dx vs' (if vs'.size == vs.size then n else n + 1)) news news')
    (hxl : x ≠ l) (sp : ∀ (hh : Heap) (sl : Addr), hh.get? sl = some (sliceO lo hi .none) → Looks (model pr w) hh (listSliceParts (.ref sl)) (lo', hi', .none)) (si : ∀ hh : Heap, Looks (model pr w) hh (sliceIndices lo' hi' .none vs.size) (st, en, 1))
    (hv : putSlice vs us st en = vs') (hz : vs.size ≤ 1000) (hu : us.size ≤ 1000) (hz' : vs'.size ≤ 2000)
    (hq : ∀ h', Fr h₀ L h' m → News h₀ L h' news' → Q () ⟨h', g, d, t, os⟩) :
    wpAny (model pr w) A (setItem (.ref x) (.ref h.objs.size) (.ref l)) Q E ⟨h.push (sliceO lo hi .none), g, d, t, os⟩ := by
  obtain ⟨pre, post, rfl, rfl, a, b⟩ := U.split
  have F1 : Fr h₀ L (h.push (sliceO lo hi .none)) m := F.push _
  have N1 := N.push F (sliceO lo hi .none)
  have X := X₀.keeps F1.keep
  have z := N1 (x, accObj dx vs n) (.tail _ (List.mem_append.mpr (.inr (.head _))))
  have hsl := (N1 _ (.head _)).1
  have t0 : Looks (model pr w) (h.push (sliceO lo hi .none)) (typeOf (.ref x)) (.ref 214) := (Looks.ld z.1).andThen .now
  refine list_setslice (st := st) (en := en) z.1 rfl (t0.andThen (list_acc X)) (Looks.of_peek X (by kernel_rfl)) ?_ hsl (sp _ _ hsl) (si _) (N1 _ (.tail _ hl)).1 hxl hz hu (by rw [hv]; exact hz') ?_
  · unfold sequenceKey
    exact t0.andThen (Looks.of_peek X (by kernel_rfl))
  · intro h' hs ho'
    rw [hv] at ho'
    exact hq h' (F1.change hs z.2.1 z.2.2) (news_set (fun p hp => N1 p (.tail _ hp)) a b hs ho')
theorem acc_cut_K {Q : Unit → Shared → Prop} (F : Fr h₀ L h m) (X₀ : (hd.heap_39 w.params).In h₀) (N : News h₀ L h news) (hl : (l, W.listOf #[] c) ∈ news) (U : Upd x (accObj dx (vs.push v) n) (accObj dx vs (n + 1)) news news')
    (hxl : x ≠ l) (hi : i = vs.size) (hz : vs.size ≤ 999)
    (hq : ∀ h', Fr h₀ L h' m → News h₀ L h' news' → Q () ⟨h', g, d, t, os⟩) :
    wpAny (model pr w) A (setItem (.ref x) (.ref h.objs.size) (.ref l)) Q E ⟨h.push (sliceO (.int i tj) .none .none), g, d, t, os⟩ := by
  subst hi
  have e : (if vs.size == (vs.push v).size then n else n + 1) = n + 1 := by simp
  refine acc_setslice_K (vs := vs.push v) (us := #[]) (vs' := vs) (st := vs.size) (en := ((vs.push v).size : Nat)) F X₀ N hl (by rw [e]; exact U) hxl (fun hh sl hs => parts_int hs) (fun hh => ind_int (by lia) (by rw [Array.size_push]; lia)) ?_ (by rw [Array.size_push]; lia) (Nat.zero_le _) (by lia) hq
  apply Array.ext'
  simp [putSlice]
  try lia
theorem acc_fill_K {Q : Unit → Shared → Prop} (F : Fr h₀ L h m) (X₀ : (hd.heap_39 w.params).In h₀) (N : News h₀ L h news) (hl : (l, W.listOf us c) ∈ news) (U : Upd x (accObj dx vs n) (accObj dx us (if us.size == vs.size then n else n + 1)) news news')
    (hxl : x ≠ l) (hz : vs.size ≤ 1000) (hu : us.size ≤ 1000)
    (hq : ∀ h', Fr h₀ L h' m → News h₀ L h' news' → Q () ⟨h', g, d, t, os⟩) :
    wpAny (model pr w) A (setItem (.ref x) (.ref h.objs.size) (.ref l)) Q E ⟨h.push (sliceO .none .none .none), g, d, t, os⟩ := by
  refine acc_setslice_K (vs := vs) (us := us) (vs' := us) (st := 0) (en := (vs.size : Nat)) F X₀ N hl U hxl (fun hh sl hs => parts_none hs) (fun hh => ind_none) ?_ hz hu (by lia) hq
  apply Array.ext'
  simp [putSlice]
  try lia
end
end Mine
end
section
open PySem PySem.W PyProof.Rows PySem.Calls Builtin Builtin.ObjectAttr Builtin.Getset_descriptor
set_option Elab.async false
set_option maxRecDepth 100000
set_option maxHeartbeats 0
namespace Mine
theorem lines_AccS_1 : True := by
  w_top off
  k_with_none
  k_with "m9:room" => ktr_room
  k_with "m9:inst" => (refine' inst_acc ?NQ8 ?h1Q8 ?h2Q8; (case NQ8 => k_asm); (case h1Q8 => k_mem); (case h2Q8 => k_mem))
  k_with "m9:all" => first | (with_reducible assumption) | exact allNe_lt (by assumption)
  k_with "m9:mem" => first | exact List.Mem.head _ | (refine' List.Mem.tail _ ?_; k_mem) | assumption
  k_with "m:eval Name" => dsimp only
  k_with "m:spliced" => dsimp only
  k_with "m:execs cons" => dsimp only
  k_with "m:eval Constant int" => dsimp only
  k_with "m:eval BinOp" => dsimp only
  k_with "m:execs nil" => dsimp only
  k_with "m:eval Call" => dsimp only
  k_with "m:storeName" => dsimp only
  k_with "m:exec Assign" => dsimp only
  k_with "m:callWith" => dsimp only
  k_with "m:eval Subscript" => dsimp only
  k_with "m:eval Call Attribute" => dsimp only
  k_with "m:evalPart none" => dsimp only
  k_with "m:truthy bool" => dsimp only
  k_with "m:callWith ref" => dsimp only
  k_with "m:call ref" => dsimp only
  k_with "m:isTrue Compare" => dsimp only
  k_with "m:getMethod ref" => dsimp only
  k_with "m:exec If" => dsimp only
  k_with "m:exec Return some" => dsimp only
  k_with "m:getAttr ref" => dsimp only
  k_with "m:eval Attribute Name" => dsimp only
  k_with "m:binaryOp Add int int" => dsimp only
  k_with "m:isTrue BoolOp" => dsimp only
  k_with "m:binaryOp Mod int int" => dsimp only
  k_with "m:subscriptTail Name Constant ref int" => dsimp only
  k_with "m:evalPart some" => dsimp only
  k_with "m:eval Slice" => dsimp only
  k_with "m:exec Expr" => dsimp only
  k_with "m:isTrue" => dsimp only
  k_with "m:eval Constant str" => dsimp only
  k_with "m:assignInOrder" => dsimp only
  k_with "m:call builtin:len" => dsimp only
  k_with "m:newTuple" => dsimp only
  k_with "m:eval Tuple" => dsimp only
  k_with "m:eval BoolOp" => dsimp only
  k_with "m:subscriptTail Name Slice str ref" => dsimp only
  k_with "m:getMethod str" => dsimp only
  k_with "m:setAttr ref" => dsimp only
  k_with "m:newList" => dsimp only
  k_with "m:eval List" => dsimp only
  k_with "m:binaryOp Mult int int" => dsimp only
  k_with "m:con_enter" => (refine wpAny_call ?_; k_dflt (first | cell_enter | (refine' code_defC ?k1Q8 ?k2Q8 ?k3Q8 ?k4Q8 ?k5Q8 ?kAQ8 ?kFQ8 ?kKQ8 ?k6Q8 ?k7Q8 ?k8Q8 ?k9Q8 ?kBQ8 ?kDQ8 ?_ ?c2Q8 ?c3Q8 ?c4Q8; (case kAQ8 => exact rfl); (case kFQ8 => exact rfl); (case kKQ8 => assumption); (case k1Q8 => k_asm); (case k2Q8 => k_asm); (case k3Q8 => k_asm); (case k4Q8 => k_asm); (case k5Q8 => k_asm); (case k6Q8 => k_is); (case k7Q8 => k_is); (case k8Q8 => ktr_room); (case k9Q8 => first | exact BindsTo.of_eq rfl | exact binds_K (by k_in) rfl (by k_is) rfl rfl rfl | fail "k_enter: no rule for these arguments"); (case kBQ8 => exact rfl); (case kDQ8 => decide +kernel); (case c2Q8 => exact rfl); (case c3Q8 => exact rfl); (case c4Q8 => exact rfl); k_whole; intro g'Q9 L'Q9 h'Q9 tk'Q9 cells'Q9 FG'Q9 F'Q9 N'Q9 Y'Q9 B'Q9 X'Q9 T'Q9 l1Q9; (try k_lt l1Q9); k_cells Y'Q9; (try simp only [List.cons_append, List.nil_append] at N'Q9); (try dsimp only); (try k_lift B'Q9); (try k_fold))))
  k_with "m:con_enterS" => (refine wpAny_call ?_; k_dflt (refine' code_defS ?k1Q8 ?k2Q8 ?k3Q8 ?k4Q8 ?k5Q8 ?kAQ8 ?kFQ8 ?kKQ8 ?k6Q8 ?k7Q8 ?k8Q8 ?k9Q8 ?kBQ8 ?_ ?c2Q8 ?c3Q8 ?c4Q8 ?c5Q8; (case kAQ8 => exact rfl); (case kFQ8 => exact rfl); (case kKQ8 => first | assumption | exact rfl); (case k1Q8 => k_asm); (case k2Q8 => k_asm); (case k3Q8 => k_asm); (case k4Q8 => k_asm); (case k5Q8 => k_asm); (case k6Q8 => k_is); (case k7Q8 => k_is); (case k8Q8 => ktr_room); (case k9Q8 => first | exact BindsTo.of_eq rfl | exact binds_K (by k_in) rfl (by k_is) rfl rfl rfl); (case c5Q8 => decide); (case kBQ8 => exact locs rfl); (case c2Q8 => exact rfl); (case c3Q8 => exact rfl); (case c4Q8 => exact rfl); k_whole; intro g'Q9 L'Q9 h'Q9 FG'Q9 F'Q9 N'Q9 B'Q9 X'Q9 T'Q9 l1Q9; (try dsimp only); (try k_lift B'Q9); (try k_fold)))
  k_with "m:getAttr ref" => (k_here; k_dflt (refine' acc_getK ?k1Q8 ?k2Q8 ?k3Q8 ?k4Q8 ?k5Q8 ?k6Q8 ?k7Q8 ?_; (case k1Q8 => k_asm); (case k2Q8 => k_asm); (case k3Q8 => k_inst); (case k4Q8 => k_is); (case k5Q8 => k_is); (case k6Q8 => k_get); (case k7Q8 => k_handed); k_whole))
  k_with "m:getMethod ref" => (k_here; k_dflt (refine' acc_methodK ?k1Q8 ?k2Q8 ?k3Q8 ?k4Q8 ?k5Q8 ?k6Q8 ?_; (case k1Q8 => k_asm); (case k2Q8 => k_asm); (case k3Q8 => k_inst); (case k4Q8 => k_is); (case k5Q8 => kernel_rfl); (case k6Q8 => k_get); k_whole))
  k_with "m:getMethod ref" => (k_here; k_dflt (first | (refine' super_init_K ?k1Q8 ?k2Q8 ?k3Q8 ?k4Q8 ?k5Q8 ?_; (case k1Q8 => k_asm); (case k2Q8 => k_asm); (case k3Q8 => k_asm); (case k4Q8 => k_mem); (case k5Q8 => k_inst)) | (refine' super_len_K ?k1Q8 ?k2Q8 ?k3Q8 ?k4Q8 ?k5Q8 ?_; (case k1Q8 => k_asm); (case k2Q8 => k_asm); (case k3Q8 => k_asm); (case k4Q8 => k_mem); (case k5Q8 => k_inst)) | (refine' super_pop_K ?k1Q8 ?k2Q8 ?k3Q8 ?k4Q8 ?k5Q8 ?_; (case k1Q8 => k_asm); (case k2Q8 => k_asm); (case k3Q8 => k_asm); (case k4Q8 => k_mem); (case k5Q8 => k_inst))); k_whole; intro q'Q9 h'Q9 F'Q9 N'Q9 l1Q9; (try k_lt l1Q9); (try k_sweep); (try dsimp only))
  k_with "m:setAttr ref" => (k_here; k_dflt (refine' acc_set ?k1Q8 ?k2Q8 ?k3Q8 ?k4Q8 ?k8Q8 ?k10Q8 ?k11Q8 ?k12Q8 ?k13Q8 ?_; (case k1Q8 => k_asm); (case k2Q8 => k_asm); (case k3Q8 => k_asm); (case k4Q8 => k_inst); (case k8Q8 => k_is); (case k10Q8 => k_get); (case k11Q8 => k_put); (case k12Q8 => k_upd); (case k13Q8 => exact Nat.le_of_ble_eq_true rfl); k_whole; intro h'Q9 F'Q9 N'Q9; (try k_sweep); (try dsimp only)))
  k_with "m:call ref" => (k_here; k_dflt (first | (refine' call_init_K ?k1Q8 ?k2Q8 ?k3Q8 ?k4Q8 ?_; (case k1Q8 => k_asm); (case k2Q8 => k_asm); (case k3Q8 => k_mem); (case k4Q8 => k_upd); k_whole; intro h'Q9 F'Q9 N'Q9; (try k_sweep)) | (refine' call_pop_K ?k1Q8 ?k0Q8 ?k2Q8 ?k3Q8 ?k4Q8 ?k5Q8 ?_; (case k1Q8 => k_asm); (case k0Q8 => k_asm); (case k2Q8 => k_asm); (case k3Q8 => k_mem); (case k4Q8 => k_upd); (case k5Q8 => omega); k_whole; intro h'Q9 F'Q9 N'Q9; (try k_sweep)) | (refine' call_len_K ?k2Q8 ?k3Q8 ?k4Q8 ?_; (case k2Q8 => k_asm); (case k3Q8 => k_mem); (case k4Q8 => k_mem); k_whole)))
  k_with "m:call builtin:list.append" => (k_here; k_dflt (refine' acc_append ?k1Q8 ?k0Q8 ?k2Q8 ?k3Q8 ?zQ8 ?_; (case k1Q8 => k_asm); (case k0Q8 => k_asm); (case k2Q8 => k_asm); (case k3Q8 => k_upd); (case zQ8 => omega); k_whole); intro h'Q9 F'Q9 N'Q9; (try k_sweep))
  k_with "m:acc_super_enter" => k_dflt (refine' ks_code_super ?k1Q8 ?k2Q8 ?k3Q8 ?k4Q8 ?k5Q8 ?kAQ8 ?kFQ8 ?kKQ8 ?k6Q8 ?k7Q8 ?k8Q8 ?k9Q8 ?kBQ8 ?_ ?c1Q8 ?c2Q8 ?c3Q8 ?c4Q8; (case kAQ8 => exact rfl); (case kFQ8 => exact rfl); (case kKQ8 => first | exact rfl | assumption); (case k1Q8 => k_asm); (case k2Q8 => k_asm); (case k3Q8 => k_asm); (case k4Q8 => k_asm); (case k5Q8 => k_asm); (case k6Q8 => k_is); (case k7Q8 => k_is); (case k8Q8 => k_room); (case k9Q8 => first | exact BindsTo.of_eq rfl | exact binds_K (by k_in) rfl (by k_is) rfl rfl rfl); (case kBQ8 => exact locs rfl); (case c1Q8 => decide); (case c2Q8 => exact rfl); (case c3Q8 => exact rfl); (case c4Q8 => exact rfl); intro g'Q9 L'Q9 h'Q9 FG'Q9 F'Q9 N'Q9 B'Q9 X'Q9 T'Q9 l1Q9; (try k_lt l1Q9); (try dsimp only); (try k_lift B'Q9))
  k_with "m:ks_go" => ((try dsimp only); first | refine ks_wpAt_execs_cons ?_ | refine ks_wpAt_Expr_any ?_ | refine ks_wpAt_Return_some ?_ | refine ks_wpAt_MethodCall ?_ | k_dflt (refine ks_node (by k_asm) (by k_asm) (by k_asm) (by k_asm) (by k_is) (by rfl) (by rfl) (by k_inst) (by k_is) (by rfl) (by first | rfl | decide +kernel) (by k_is) (by k_is) (by k_is) (by k_is) (by decide) (by rfl) (by rfl) (by rfl) (by rfl) (by decide +kernel) (by first | boot_by_name | rfl | kernel_rfl) ?_; intro so'Q9 h'Q9 F'Q9 N'Q9 l1Q9; (try k_lt l1Q9); (try dsimp only)))
  k_with "m:callWith ref" => (k_here; (with_reducible show wpAny _ _ (callWith _ (Value.ref _) [] (backTo _ (starEach [] _)) []) _ _ _); k_dflt (first | (refine' callWith_W0 ?k1Q8 ?k2Q8 ?_; (case k1Q8 => k_asm); (case k2Q8 => k_mem)) | (refine' callWith_B0 ?k1Q8 ?k2Q8 ?_; (case k1Q8 => k_asm); (case k2Q8 => k_mem))); k_whole)
  k_with "m:ks_if" => ((try dsimp only); (with_reducible show PySem.wpAt _ _ _ _ _ _ _); first | walk_at "ks_go" | refine ks_wpAt_If ?_)
  k_with "m:ks_run" => repeat' (first | walk_at "ks_if" | (k_unfold; (try dsimp only)) | (k_end; wrow_close) | walk1 | (dsimp only; walk1) | fail "no step")
  k_with "m:subscriptTail Name Slice ref ref" => (k_here; k_dflt (refine' acc_getslice_K ?k1Q8 ?k2Q8 ?k3Q8 ?k4Q8 ?k5Q8 ?k6Q8 ?_; (case k1Q8 => k_asm); (case k2Q8 => k_asm); (case k3Q8 => k_asm); (case k4Q8 => k_mem); (case k5Q8 => assumption); (case k6Q8 => omega); k_whole); intro l'Q9 h'Q9 F'Q9 N'Q9 l1Q9; (try k_lt l1Q9))
  k_with "m:setItem ref" => (k_here; k_dflt (first | (refine' acc_cut_K ?k1Q8 ?k2Q8 ?k3Q8 ?k4Q8 ?k5Q8 ?k6Q8 ?k7Q8 ?k8Q8 ?_; (case k1Q8 => k_asm); (case k2Q8 => k_asm); (case k3Q8 => k_asm); (case k4Q8 => k_mem); (case k5Q8 => k_upd); (case k6Q8 => first | assumption | exact ne_lt (by assumption) | (apply ne_lt1; assumption) | (apply ne_lt2; assumption)); (case k7Q8 => assumption); (case k8Q8 => omega)) | (refine' acc_fill_K ?k1Q8 ?k2Q8 ?k3Q8 ?k4Q8 ?k5Q8 ?k6Q8 ?k7Q8 ?k8Q8 ?_; (case k1Q8 => k_asm); (case k2Q8 => k_asm); (case k3Q8 => k_asm); (case k4Q8 => k_mem); (case k5Q8 => k_upd); (case k6Q8 => first | assumption | exact ne_lt (by assumption) | (apply ne_lt1; assumption) | (apply ne_lt2; assumption)); (case k7Q8 => omega); (case k8Q8 => first | omega | decide))); k_whole; intro h'Q9 F'Q9 N'Q9; (try k_sweep))
  trivial
theorem acc_popfrom (w : World) (mean : ExcName → Option Value) (mg mb : Str → Option Value) (rest : List (Addr × Obj)) (x dx : Addr) (vs : Array Value) (v : Value) (n : Nat) (k i : Int) (ti te tj : Tok) (hz : vs.size ≤ 999) (hi : i = vs.size) (hx : ∀ p ∈ rest, p.1 ≠ x) (hdx : dx < x) :
    Con 8 60 w mean mg mb 166 ((x, accObj dx (vs.push v) n) :: (dx, iniD w k ti te) :: rest) [.ref x, .int i tj] (fun h₀ L m s Q => ∀ l h' tk', (∀ p ∈ rest, p.1 < l) → x < l → Fr h₀ L h' m → News h₀ L h' ((x, accObj dx vs (n + 1)) :: (dx, iniD w k ti te) :: (l, W.listOf #[v] 0) :: rest) → Q (.ref l) { s with heap := h', toks := tk' }) := by
  dsimp only [Con, pr, lsV]; k_fill
  intros; rename_i hret
  walk_at "con_enterS"
  have hdx' := ltN hdx
  k_steps
  rename x < _ ∧ dx < _ ∧ AllLt _ rest => zz
  exact hret _ _ _ (allLt_mem zz.2.2) zz.1 (by assumption) (news_rot (news_drop1 (by assumption)))
theorem acc_reset0 (w : World) (mean : ExcName → Option Value) (mg mb : Str → Option Value) (rest : List (Addr × Obj)) (x dx l : Addr) (vs us : Array Value) (n c : Nat) (k : Int) (ti te : Tok) (hz : vs.size ≤ 999) (hu : us.size ≤ 1000) (hx : ∀ p ∈ rest, p.1 ≠ x) (hxd : ∀ p ∈ rest, p.1 ≠ dx) (hdx : dx < x) (hl : (l, W.listOf us c) ∈ rest) :
    Con 8 60 w mean mg mb 196 ((x, accObj dx vs n) :: (dx, iniD w k ti te) :: rest) [.ref x, .ref l] (fun h₀ L m s Q => ∀ n' ti' te' h' tk', Fr h₀ L h' m → News h₀ L h' ((x, accObj dx us n') :: (dx, iniD w 0 ti' te') :: rest) → Q .none { s with heap := h', toks := tk' }) := by
  have hxl : x ≠ l := (hx _ hl).symm
  dsimp only [Con, pr, lsV]; k_fill
  intros; rename_i hret
  walk_at "con_enterS"
  have hdx' := ltN hdx
  k_steps
  exact hret _ _ _ _ _ (by assumption) (by assumption)
theorem acc_resetN (w : World) (mean : ExcName → Option Value) (mg mb : Str → Option Value) (rest : List (Addr × Obj)) (x dx : Addr) (vs : Array Value) (n : Nat) (k : Int) (ti te : Tok) (hz : vs.size ≤ 999) (hx : ∀ p ∈ rest, p.1 ≠ x) (hxd : ∀ p ∈ rest, p.1 ≠ dx) (hdx : dx < x) :
    Con 8 60 w mean mg mb 196 ((x, accObj dx vs n) :: (dx, iniD w k ti te) :: rest) [.ref x] (fun h₀ L m s Q => ∀ n' ti' te' h' tk', Fr h₀ L h' m → News h₀ L h' ((x, accObj dx #[] n') :: (dx, iniD w 0 ti' te') :: rest) → Q .none { s with heap := h', toks := tk' }) := by
  dsimp only [Con, pr, lsV]; k_fill
  intros; rename_i hret
  walk_at "con_enterS"
  have hdx' := ltN hdx
  k_steps
  exact hret _ _ _ _ _ (by assumption) (news_drop1 (by assumption))
end Mine
end
section
open PySem PySem.W PyProof.Rows PySem.Calls Builtin Builtin.ObjectAttr Builtin.Getset_descriptor
set_option Elab.async false
set_option maxRecDepth 100000
set_option maxHeartbeats 400000
namespace Mine
theorem none_AccT : True := by w_top off; k_with_none; trivial
/-- the contract of a tree: (as ConG, for any tree) -/
noncomputable abbrev ConT {α : Type} (d u : Nat) (w : World) (mean : ExcName → Option Value) (mg mb : Str → Option Value) (t : Sem α) (news : List (Addr × Obj)) (R : Heap → Addr → (Str → Option Value) → Shared → (α → Shared → Prop) → Prop) : Prop :=
  ∀ (dp un : Nat) (gd : Option (List Code)) (cn : Str) (cs : Scope) (a : Addr) (ccd : Value) (cl : List (Str × Addr)) (outer : List Env) (A₀ : Around) (base h₀ : Heap) (L : Addr) (m : Str → Option Value) (s : Shared) (Q : α → Shared → Prop) (E : Value → Shared → Prop),
    Below A₀ base outer h₀ → Fr h₀ L s.heap m → (Mine.hd.heap_39 w.params).In h₀ → News h₀ L s.heap news → Top topProg lsV mean mg mb h₀ → cs.kind = .function → AllBare s.gens →
      dp + d < recursionLimit → un + u < cLine → R h₀ L m s Q →
      wpAny (model pr w) (ktrTop dp un gd cn cs L a ccd cl outer) t Q E s
/-- the ledger of an own list -/
noncomputable abbrev AL (w : World) (x dx : Addr) (parts : List Part) (n : Nat) (k : Int) (ti te : Tok) (ps qs : Array Value) (rest : List (Addr × Obj)) : List (Addr × Obj) :=
  (x, accObj dx (refsOf parts) n) :: (dx, iniD w k ti te) :: (176, tabObj ps) :: (183, tabObj qs) :: rest
structure Ok (x dx : Addr) (parts : List Part) (rest : List (Addr × Obj)) : Prop where
  apart : ∀ p ∈ rest, p.1 ≠ x ∧ p.1 ≠ dx ∧ p.1 ≠ 176 ∧ p.1 ≠ 183
  pin : PartsIn rest parts
  lt : dx < x
  sz : ∀ p ∈ parts, p.2.1.1.length ≤ 1000 ∧ p.2.2.1.length ≤ 1000
  len : parts.length ≤ 99
noncomputable abbrev Tabs (ps qs : Array Value) : Prop := TriplesOk ps.toList ∧ TriplesOk qs.toList
noncomputable abbrev APost {α : Type} (w : World) (x dx : Addr) (parts : List Part) (k : Int) (rest : List (Addr × Obj)) (V : Tok → α) : Heap → Addr → (Str → Option Value) → Shared → (α → Shared → Prop) → Prop :=
  fun h₀ L m s Q => ∀ (t : Tok) (n : Nat) (ti te : Tok) (ps qs : Array Value) (h' : Heap) (g' : Array GenState) (d' : Drawn) (tk' : Nat), Tabs ps qs → Fr h₀ L h' m → News h₀ L h' (AL w x dx parts n k ti te ps qs rest) → AllBare g' → Q (V t) ⟨h', g', d', tk', s.os⟩
noncomputable abbrev lenOf (parts : List Part) : Int := (parts.map fun p => ((p.2.1.1.length + p.2.2.1.length : Nat) : Int)).sum
theorem lenOf_nonneg : ∀ parts : List Part, 0 ≤ lenOf parts
  | [] => by simp [lenOf]
  | p :: l => by have := lenOf_nonneg l; simp only [lenOf, List.map_cons, List.sum_cons] at *; lia
theorem lenOf_le : ∀ parts : List Part, (∀ p ∈ parts, p.2.1.1.length ≤ 1000 ∧ p.2.2.1.length ≤ 1000) → lenOf parts ≤ 2000 * parts.length
  | [], _ => by simp [lenOf]
  | p :: l, h => by
    have := lenOf_le l fun q hq => h q (.tail _ hq)
    have := h p (.head _)
    simp only [lenOf, List.map_cons, List.sum_cons, List.length_cons] at *; lia
theorem refs_size (parts : List Part) : (refsOf parts).size = parts.length := by simp [refsOf]
theorem refs_snoc (parts : List Part) (p : Part) : refsOf (parts ++ [p]) = (refsOf parts).push (.ref p.1) := by apply Array.ext'; simp [refsOf]
section
variable {w : World} {mean : ExcName → Option Value} {mg mb : Str → Option Value} {x dx : Addr} {parts : List Part} {n : Nat} {k : Int} {ti te : Tok} {ps qs : Array Value} {rest : List (Addr × Obj)}
theorem pin3 {a : Addr × Obj} (O : Ok x dx parts rest) : PartsIn (a :: rest) parts := fun p hp => .tail _ (O.pin p hp)
theorem A_lenF (O : Ok x dx parts rest) (TT : Tabs ps qs) : ConT 8 60 w mean mg mb (call (.ref 181) [.ref x]) (AL w x dx parts n k ti te ps qs rest) (APost w x dx parts k rest fun t => .int (k + lenOf parts) t) := by
  intro dp un gd cn cs a ccd cl outer A₀ base h₀ L m s Q E B F X N T hk G hd hu hret
  refine acc_len w mean mg mb ((183, tabObj qs) :: rest) x dx parts n k ti te ps (pin3 O) TT.1 ?_ O.sz dp un gd cn cs a ccd cl outer A₀ base h₀ L m s Q E B F X N T hk G hd hu ?_
  · intro p hp
    rcases List.mem_cons.mp hp with rfl | hp
    · exact (by decide : (183 : Nat) ≠ 176)
    · exact (O.apart p hp).2.2.1
  · intro u s' ps' F' N' G' hos hps
    obtain ⟨h', g', d', t', os'⟩ := s'
    dsimp only at hos
    subst hos
    exact hret u n ti te ps' qs h' g' d' _ ⟨hps, TT.2⟩ F' N' G'
theorem A_len (O : Ok x dx parts rest) (TT : Tabs ps qs) (h0 : 0 ≤ k) (h1 : k ≤ 100000) : ConT 8 62 w mean mg mb (call (.builtin "len") [.ref x]) (AL w x dx parts n k ti te ps qs rest) (APost w x dx parts k rest fun t => .int (k + lenOf parts) t) := by
  intro dp un gd cn cs a ccd cl outer A₀ base h₀ L m s Q E B F X N T hk G hd hu hret
  refine len_K F X (inst_acc N (.head _) (.tail _ (.head _))) (f := 181) (by kernel_rfl) (by kernel_rfl) ?_
  refine A_lenF O TT dp (un + 1) gd cn cs a ccd cl outer A₀ base h₀ L m s _ E B F X N T hk G hd (by lia) ?_
  intro t n ti te ps qs h' g' d' tk' TT' F' N' G'
  have a1 := lenOf_nonneg parts
  have a2 := lenOf_le parts O.sz
  have a3 := O.len
  exact ⟨⟨by lia, by lia⟩, hret _ n ti te ps qs h' g' d' _ TT' F' N' G'⟩
theorem A_truthy (O : Ok x dx parts rest) (TT : Tabs ps qs) (h0 : 0 ≤ k) (h1 : k ≤ 100000) : ConT 8 62 w mean mg mb (truthy (.ref x)) (AL w x dx parts n k ti te ps qs rest) (APost w x dx parts k rest fun _ => (k + lenOf parts != 0)) := by
  intro dp un gd cn cs a ccd cl outer A₀ base h₀ L m s Q E B F X N T hk G hd hu hret
  have I := inst_acc N (.head _) (.tail _ (.head _))
  have hX := X.keeps F.keep
  obtain ⟨h, g, d, t, os⟩ := s
  have t0 : Looks (model pr w) h (typeOf (.ref x)) (.ref 214) := I.type
  have lk0 : Looks (model pr w) h (typeLookup (.ref 214) "__bool__") none := Looks.of_peek hX (by kernel_rfl)
  have lk1 : Looks (model pr w) h (typeLookup (.ref 214) "__len__") (some (.ref 181)) := Looks.of_peek hX (by kernel_rfl)
  unfold truthy
  refine wpAny_bind (m := callSpecial? (.ref x) (Str.ofString "__bool__")) (wpAny_bind (wpAny_bind (t0.here (lk0.at (wpAny_pure ?_)))))
  refine wpAny_bind (wpAny_bind (t0.here (lk1.at ?_)))
  rw [if_neg (by simp)]
  refine wpAny_bind (wpAny_runValue (codeAny_builtin entry_len ?_))
  rw [Around.under_plainId plain_len]
  unfold Builtin.«len»
  refine wpAny_bind (m := oneArg "len" _) (wpAny_pure ?_)
  refine wpAny_bind (m := callSpecial? (.ref x) (Str.ofString "__len__")) (special_fn hX I (f := 181) (by kernel_rfl) (beq_iff_eq.mp (by kernel_rfl)) ?_)
  refine A_lenF O TT dp (un + 1) gd cn cs a ccd cl outer A₀ base h₀ L m _ _ E B F X N T hk G hd (by lia) ?_
  intro t n ti te ps qs h' g' d' tk' TT' F' N' G'
  have a1 := lenOf_nonneg parts
  have a2 := lenOf_le parts O.sz
  have a3 := O.len
  refine wpAny_bind (wpAny_holding (wpAny_pure ?_))
  refine wpAny_bind (wpAny_letGo ?_)
  show wpAny _ _ (if k + lenOf parts < 0 then _ else _) _ _ _
  rw [if_neg (by lia)]
  show wpAny _ _ (if k + lenOf parts ≥ 2 ^ 63 then _ else _) _ _ _
  rw [if_neg (by lia)]
  refine wpAny_bind (wpAny_mkInt (wpAny_pure ?_))
  refine wpAny_pure ?_
  exact hret t n ti te ps qs h' g' d' _ TT' F' N' G'
theorem mem_sw {α : Type} {A B l : List α} {p : α} : ∀ X : List α, p ∈ X ++ (B ++ (A ++ l)) → p ∈ X ++ (A ++ (B ++ l))
  | _, h => (List.mem_append.mp h).elim (List.mem_append_left _) fun h => List.mem_append_right _ ((List.mem_append.mp h).elim (fun h => List.mem_append_right _ (List.mem_append_left _ h)) fun h => (List.mem_append.mp h).elim (List.mem_append_left _) fun h => List.mem_append_right _ (List.mem_append_right _ h))
theorem sw34 {h₀ h : Heap} {L : Addr} {a b c e : Addr × Obj} {l : List (Addr × Obj)} (N : News h₀ L h (a :: b :: c :: e :: l)) : News h₀ L h (a :: b :: e :: c :: l) := fun p hp => N p (mem_sw (A := [c]) (B := [e]) [a, b] hp)
theorem rot345 {h₀ h : Heap} {L : Addr} {a b c e f : Addr × Obj} {l : List (Addr × Obj)} (N : News h₀ L h (a :: b :: c :: e :: f :: l)) : News h₀ L h (a :: b :: e :: f :: c :: l) := fun p hp => N p (mem_sw (A := [c]) (B := [e, f]) [a, b] hp)
theorem A_strF (O : Ok x dx parts rest) (TT : Tabs ps qs) : ConT 8 60 w mean mg mb (call (.ref 188) [.ref x]) (AL w x dx parts n k ti te ps qs rest) (APost w x dx parts k rest fun t => .str (textOf parts) t) := by
  intro dp un gd cn cs a ccd cl outer A₀ base h₀ L m s Q E B F X N T hk G hd hu hret
  refine acc_str w mean mg mb ((176, tabObj ps) :: rest) x dx parts n k ti te qs (pin3 O) TT.2 ?_ O.sz (by have := O.len; lia) dp un gd cn cs a ccd cl outer A₀ base h₀ L m s Q E B F X (sw34 N) T hk G hd hu ?_
  · intro p hp
    rcases List.mem_cons.mp hp with rfl | hp
    · exact (by decide : (176 : Nat) ≠ 183)
    · exact (O.apart p hp).2.2.2
  · intro u s' ps' F' N' G' hos hps
    obtain ⟨h', g', d', t', os'⟩ := s'
    dsimp only at hos
    subst hos
    exact hret u n ti te ps ps' h' g' d' _ ⟨TT.1, hps⟩ F' (sw34 N') G'
theorem A_str (O : Ok x dx parts rest) (TT : Tabs ps qs) : ConT 8 64 w mean mg mb (call (.type "str") [.ref x]) (AL w x dx parts n k ti te ps qs rest) (APost w x dx parts k rest fun t => .str (textOf parts) t) := by
  intro dp un gd cn cs a ccd cl outer A₀ base h₀ L m s Q E B F X N T hk G hd hu hret
  refine kso_call (show un + 1 + 1 < cLine by lia) (X.keeps F.keep) (inst_acc N (.head _) (.tail _ (.head _))) (f := 188) (by kernel_rfl) (by kernel_rfl) ?_
  refine A_strF O TT dp (un + 1 + 1) gd cn cs a ccd cl outer A₀ base h₀ L m s _ E B F X N T hk G hd (by lia) ?_
  intro t n ti te ps qs h' g' d' tk' TT' F' N' G'
  exact hret _ n ti te ps qs h' g' d' _ TT' F' N' G'
theorem ok_push {t : Addr} {a b : Str} {ta tb : Tok} (O : Ok x dx parts rest) (hl : parts.length ≤ 98) (la : a.length ≤ 1000) (lb : b.length ≤ 1000) (h1 : x < t) (h2 : dx < t) (h3 : (176 : Addr) < t) (h4 : (183 : Addr) < t) : Ok x dx (parts ++ [(t, (a, ta), (b, tb))]) ((t, tupO (.str a ta) (.str b tb)) :: rest) where
  apart p hp := by
    rcases List.mem_cons.mp hp with rfl | hp
    · exact ⟨(ne_lt h1).symm, (ne_lt h2).symm, (ne_lt h3).symm, (ne_lt h4).symm⟩
    · exact O.apart p hp
  pin p hp := by
    rcases List.mem_append.mp hp with hp | hp
    · exact .tail _ (O.pin p hp)
    · rw [List.mem_singleton] at hp; subst hp; exact .head _
  lt := O.lt
  sz p hp := by
    rcases List.mem_append.mp hp with hp | hp
    · exact O.sz p hp
    · rw [List.mem_singleton] at hp; subst hp; exact ⟨la, lb⟩
  len := by simp; lia
theorem ok_init {p : Part} (O : Ok x dx (parts ++ [p]) rest) : Ok x dx parts rest where
  apart := O.apart
  pin q hq := O.pin q (List.mem_append_left _ hq)
  lt := O.lt
  sz q hq := O.sz q (List.mem_append_left _ hq)
  len := by have := O.len; simp at this; lia
theorem ok_new {a : Addr × Obj} (O : Ok x dx parts rest) (h1 : a.1 ≠ x) (h2 : a.1 ≠ dx) (h3 : a.1 ≠ 176) (h4 : a.1 ≠ 183) : Ok x dx parts (a :: rest) where
  apart p hp := by
    rcases List.mem_cons.mp hp with rfl | hp
    · exact ⟨h1, h2, h3, h4⟩
    · exact O.apart p hp
  pin p hp := .tail _ (O.pin p hp)
  lt := O.lt
  sz := O.sz
  len := O.len
theorem apart3 (O : Ok x dx parts rest) {h₀ h : Heap} {L : Addr} (N : News h₀ L h (AL w x dx parts n k ti te ps qs rest)) : (176 : Addr) ≠ x ∧ (183 : Addr) ≠ x ∧ (176 : Addr) ≠ dx ∧ (183 : Addr) ≠ dx := by
  have z0 := (N _ (.head _)).1
  have z1 := (N _ (.tail _ (.head _))).1
  have z2 := (N _ (.tail _ (.tail _ (.head _)))).1
  have z3 := (N _ (.tail _ (.tail _ (.tail _ (.head _))))).1
  refine ⟨?_, ?_, ?_, ?_⟩ <;> intro e
  · rw [show ((176, tabObj ps) : Addr × Obj).1 = x from e, z0] at z2; cases z2
  · rw [show ((183, tabObj qs) : Addr × Obj).1 = x from e, z0] at z3; cases z3
  · rw [show ((176, tabObj ps) : Addr × Obj).1 = dx from e, z1] at z2; cases z2
  · rw [show ((183, tabObj qs) : Addr × Obj).1 = dx from e, z1] at z3; cases z3
theorem restNe (O : Ok x dx parts rest) {h₀ h : Heap} {L : Addr} (N : News h₀ L h (AL w x dx parts n k ti te ps qs rest)) : ∀ p ∈ (176, tabObj ps) :: (183, tabObj qs) :: rest, p.1 ≠ x := by
  intro p hp
  have A3 := apart3 O N
  rcases List.mem_cons.mp hp with rfl | hp
  · exact A3.1
  rcases List.mem_cons.mp hp with rfl | hp
  · exact A3.2.1
  exact (O.apart p hp).1
theorem restNe2 (O : Ok x dx parts rest) {h₀ h : Heap} {L : Addr} (N : News h₀ L h (AL w x dx parts n k ti te ps qs rest)) : ∀ p ∈ (176, tabObj ps) :: (183, tabObj qs) :: rest, p.1 ≠ dx := by
  intro p hp
  have A3 := apart3 O N
  rcases List.mem_cons.mp hp with rfl | hp
  · exact A3.2.2.1
  rcases List.mem_cons.mp hp with rfl | hp
  · exact A3.2.2.2
  exact (O.apart p hp).2.1
theorem A_push {a b : Str} {ta tb : Tok} (O : Ok x dx parts rest) (TT : Tabs ps qs) (hl : parts.length ≤ 98) (la : a.length ≤ 1000) (lb : b.length ≤ 1000) : ConT 8 60 w mean mg mb (call (.ref 158) [.ref x, .str a ta, .str b tb]) (AL w x dx parts n k ti te ps qs rest)
    (fun h₀ L m s Q => ∀ (t : Addr) (n : Nat) (h' : Heap) (tk' : Nat), Ok x dx (parts ++ [(t, (a, ta), (b, tb))]) ((t, tupO (.str a ta) (.str b tb)) :: rest) → (∀ p ∈ rest, p.1 < t) → x < t → dx < t → Fr h₀ L h' m → News h₀ L h' (AL w x dx (parts ++ [(t, (a, ta), (b, tb))]) n k ti te ps qs ((t, tupO (.str a ta) (.str b tb)) :: rest)) → Q .none { s with heap := h', toks := tk' }) := by
  intro dp un gd cn cs a ccd cl outer A₀ base h₀ L m s Q E B F X N T hk G hd hu hret
  refine acc_push w mean mg mb ((176, tabObj ps) :: (183, tabObj qs) :: rest) x dx (refsOf parts) n k ti te ta tb _ _ (by rw [refs_size]; lia) (restNe O N) O.lt dp un gd cn cs a ccd cl outer A₀ base h₀ L m s Q E B F X N T hk hd hu ?_
  intro t h' tk' h1 h2 h3 F' N'
  refine hret t (n + 1) h' tk' (ok_push O hl la lb h2 h3 (h1 _ (.head _)) (h1 _ (.tail _ (.head _)))) (fun p hp => h1 p (.tail _ (.tail _ hp))) h2 h3 F' ?_
  have := rot345 N'
  unfold AL
  rw [refs_snoc]
  exact this
theorem A_pop {p : Part} (O : Ok x dx (parts ++ [p]) rest) (TT : Tabs ps qs) : ConT 12 90 w mean mg mb (call (.ref 174) [.ref x]) (AL w x dx (parts ++ [p]) n k ti te ps qs rest)
    (fun h₀ L m s Q => ∀ (n : Nat) (h' : Heap) (tk' : Nat), Ok x dx parts rest → Fr h₀ L h' m → News h₀ L h' (AL w x dx parts n k ti te ps qs rest) → Q (.ref p.1) { s with heap := h', toks := tk' }) := by
  intro dp un gd cn cs a ccd cl outer A₀ base h₀ L m s Q E B F X N T hk G hd hu hret
  have N1 := N
  unfold AL at N1
  rw [refs_snoc] at N1
  refine acc_pop w mean mg mb ((176, tabObj ps) :: (183, tabObj qs) :: rest) x dx (refsOf parts) (.ref p.1) n k ti te (by have := O.len; simp at this; rw [refs_size]; lia) (restNe O N) O.lt dp un gd cn cs a ccd cl outer A₀ base h₀ L m s Q E B F X N1 T hk hd hu ?_
  intro h' tk' F' N'
  exact hret (n + 1) h' tk' (ok_init O) F' N'
theorem A_count (O : Ok x dx parts rest) (TT : Tabs ps qs) : ConT 8 60 w mean mg mb (call (.ref 211) [.ref x]) (AL w x dx parts n k ti te ps qs rest)
    (fun h₀ L m s Q => ∀ (t : Tok) (h' : Heap) (tk' : Nat), Fr h₀ L h' m → News h₀ L h' (AL w x dx parts n k ti te ps qs rest) → Q (.int parts.length t) { s with heap := h', toks := tk' }) := by
  intro dp un gd cn cs a ccd cl outer A₀ base h₀ L m s Q E B F X N T hk G hd hu hret
  refine acc_count w mean mg mb ((176, tabObj ps) :: (183, tabObj qs) :: rest) x dx (refsOf parts) n k ti te dp un gd cn cs a ccd cl outer A₀ base h₀ L m s Q E B F X N T hk hd hu ?_
  intro t h' tk' F' N'
  have := hret t h' tk' F' N'
  rw [← refs_size parts] at this
  exact this
theorem A_cut {p : Part} {i : Int} {tj : Tok} (O : Ok x dx (parts ++ [p]) rest) (TT : Tabs ps qs) (hi : i = parts.length) : ConT 8 60 w mean mg mb (call (.ref 166) [.ref x, .int i tj]) (AL w x dx (parts ++ [p]) n k ti te ps qs rest)
    (fun h₀ L m s Q => ∀ (l : Addr) (n : Nat) (h' : Heap) (tk' : Nat), Ok x dx parts ((l, W.listOf (refsOf [p]) 0) :: rest) → (∀ p ∈ rest, p.1 < l) → x < l → Fr h₀ L h' m → News h₀ L h' (AL w x dx parts n k ti te ps qs ((l, W.listOf (refsOf [p]) 0) :: rest)) → Q (.ref l) { s with heap := h', toks := tk' }) := by
  intro dp un gd cn cs a ccd cl outer A₀ base h₀ L m s Q E B F X N T hk G hd hu hret
  have N1 := N
  unfold AL at N1
  rw [refs_snoc] at N1
  refine acc_popfrom w mean mg mb ((176, tabObj ps) :: (183, tabObj qs) :: rest) x dx (refsOf parts) (.ref p.1) n k i ti te tj (by have := O.len; simp at this; rw [refs_size]; lia) (by rw [hi, refs_size]) (restNe O N) O.lt dp un gd cn cs a ccd cl outer A₀ base h₀ L m s Q E B F X N1 T hk hd hu ?_
  intro l h' tk' h1 h2 F' N'
  have h3 : dx < l := Nat.lt_trans O.lt h2
  exact hret l (n + 1) h' tk' (ok_new (ok_init O) (ne_lt h2).symm (ne_lt h3).symm (ne_lt (h1 _ (.head _))).symm (ne_lt (h1 _ (.tail _ (.head _)))).symm) (fun p hp => h1 p (.tail _ (.tail _ hp))) h2 F' (rot345 N')
theorem ok_parts {parts' : List Part} (O : Ok x dx parts rest) (P : PartsIn rest parts') (hs : ∀ p ∈ parts', p.2.1.1.length ≤ 1000 ∧ p.2.2.1.length ≤ 1000) (hl : parts'.length ≤ 99) : Ok x dx parts' rest where
  apart := O.apart
  pin := P
  lt := O.lt
  sz := hs
  len := hl
theorem A_reset {parts' : List Part} {l : Addr} {c : Nat} (O : Ok x dx parts rest) (TT : Tabs ps qs) (hl : (l, W.listOf (refsOf parts') c) ∈ rest) (O' : Ok x dx parts' rest) : ConT 8 60 w mean mg mb (call (.ref 196) [.ref x, .ref l]) (AL w x dx parts n k ti te ps qs rest)
    (fun h₀ L m s Q => ∀ (n : Nat) (ti te : Tok) (h' : Heap) (tk' : Nat), Fr h₀ L h' m → News h₀ L h' (AL w x dx parts' n 0 ti te ps qs rest) → Q .none { s with heap := h', toks := tk' }) := by
  intro dp un gd cn cs a ccd cl outer A₀ base h₀ L m s Q E B F X N T hk G hd hu hret
  refine acc_reset0 w mean mg mb ((176, tabObj ps) :: (183, tabObj qs) :: rest) x dx l (refsOf parts) (refsOf parts') n c k ti te (by rw [refs_size]; have := O.len; lia) (by rw [refs_size]; have := O'.len; lia) (restNe O N) (restNe2 O N) O.lt (.tail _ (.tail _ hl)) dp un gd cn cs a ccd cl outer A₀ base h₀ L m s Q E B F X N T hk hd hu ?_
  intro n' ti' te' h' tk' F' N'
  exact hret n' ti' te' h' tk' F' N'
theorem A_resetN (O : Ok x dx parts rest) (TT : Tabs ps qs) : ConT 8 60 w mean mg mb (call (.ref 196) [.ref x]) (AL w x dx parts n k ti te ps qs rest)
    (fun h₀ L m s Q => ∀ (n : Nat) (ti te : Tok) (h' : Heap) (tk' : Nat), Fr h₀ L h' m → News h₀ L h' (AL w x dx [] n 0 ti te ps qs rest) → Q .none { s with heap := h', toks := tk' }) := by
  intro dp un gd cn cs a ccd cl outer A₀ base h₀ L m s Q E B F X N T hk G hd hu hret
  refine acc_resetN w mean mg mb ((176, tabObj ps) :: (183, tabObj qs) :: rest) x dx (refsOf parts) n k ti te (by rw [refs_size]; have := O.len; lia) (restNe O N) (restNe2 O N) O.lt dp un gd cn cs a ccd cl outer A₀ base h₀ L m s Q E B F X N T hk hd hu ?_
  intro n' ti' te' h' tk' F' N'
  exact hret n' ti' te' h' tk' F' N'
end
end Mine
end
section
open PySem PySem.W PyProof.Rows PySem.Calls Builtin Builtin.ObjectAttr Builtin.Getset_descriptor
set_option Elab.async false
set_option maxRecDepth 100000
set_option maxHeartbeats 0
namespace Mine
theorem lines_AccU_1 : True := by
  w_top off
  k_with_none
  k_with "m9:room" => ktr_room
  k_with "m9:inst" => (refine' inst_acc ?NQ8 ?h1Q8 ?h2Q8; (case NQ8 => k_asm); (case h1Q8 => k_mem); (case h2Q8 => k_mem))
  k_with "m9:all" => first | (with_reducible assumption) | exact allNe_lt (by assumption)
  k_with "m9:mem" => first | exact List.Mem.head _ | (refine' List.Mem.tail _ ?_; k_mem) | assumption
  k_with "m:eval Name" => dsimp only
  k_with "m:spliced" => dsimp only
  k_with "m:execs cons" => dsimp only
  k_with "m:eval Constant int" => dsimp only
  k_with "m:eval BinOp" => dsimp only
  k_with "m:execs nil" => dsimp only
  k_with "m:eval Call" => dsimp only
  k_with "m:storeName" => dsimp only
  k_with "m:exec Assign" => dsimp only
  k_with "m:callWith" => dsimp only
  k_with "m:eval Subscript" => dsimp only
  k_with "m:eval Call Attribute" => dsimp only
  k_with "m:evalPart none" => dsimp only
  k_with "m:truthy bool" => dsimp only
  k_with "m:callWith ref" => dsimp only
  k_with "m:call ref" => dsimp only
  k_with "m:isTrue Compare" => dsimp only
  k_with "m:getMethod ref" => dsimp only
  k_with "m:exec If" => dsimp only
  k_with "m:exec Return some" => dsimp only
  k_with "m:getAttr ref" => dsimp only
  k_with "m:eval Attribute Name" => dsimp only
  k_with "m:binaryOp Add int int" => dsimp only
  k_with "m:isTrue BoolOp" => dsimp only
  k_with "m:binaryOp Mod int int" => dsimp only
  k_with "m:subscriptTail Name Constant ref int" => dsimp only
  k_with "m:evalPart some" => dsimp only
  k_with "m:eval Slice" => dsimp only
  k_with "m:exec Expr" => dsimp only
  k_with "m:isTrue" => dsimp only
  k_with "m:eval Constant str" => dsimp only
  k_with "m:assignInOrder" => dsimp only
  k_with "m:call builtin:len" => dsimp only
  k_with "m:newTuple" => dsimp only
  k_with "m:eval Tuple" => dsimp only
  k_with "m:eval BoolOp" => dsimp only
  k_with "m:subscriptTail Name Slice str ref" => dsimp only
  k_with "m:getMethod str" => dsimp only
  k_with "m:setAttr ref" => dsimp only
  k_with "m:newList" => dsimp only
  k_with "m:eval List" => dsimp only
  k_with "m:binaryOp Mult int int" => dsimp only
  k_with "m:con_enter" => (refine wpAny_call ?_; k_dflt (first | cell_enter | (refine' code_defC ?k1Q8 ?k2Q8 ?k3Q8 ?k4Q8 ?k5Q8 ?kAQ8 ?kFQ8 ?kKQ8 ?k6Q8 ?k7Q8 ?k8Q8 ?k9Q8 ?kBQ8 ?kDQ8 ?_ ?c2Q8 ?c3Q8 ?c4Q8; (case kAQ8 => exact rfl); (case kFQ8 => exact rfl); (case kKQ8 => assumption); (case k1Q8 => k_asm); (case k2Q8 => k_asm); (case k3Q8 => k_asm); (case k4Q8 => k_asm); (case k5Q8 => k_asm); (case k6Q8 => k_is); (case k7Q8 => k_is); (case k8Q8 => ktr_room); (case k9Q8 => first | exact BindsTo.of_eq rfl | exact binds_K (by k_in) rfl (by k_is) rfl rfl rfl | fail "k_enter: no rule for these arguments"); (case kBQ8 => exact rfl); (case kDQ8 => decide +kernel); (case c2Q8 => exact rfl); (case c3Q8 => exact rfl); (case c4Q8 => exact rfl); k_whole; intro g'Q9 L'Q9 h'Q9 tk'Q9 cells'Q9 FG'Q9 F'Q9 N'Q9 Y'Q9 B'Q9 X'Q9 T'Q9 l1Q9; (try k_lt l1Q9); k_cells Y'Q9; (try simp only [List.cons_append, List.nil_append] at N'Q9); (try dsimp only); (try k_lift B'Q9); (try k_fold))))
  k_with "m:con_enterS" => (refine wpAny_call ?_; k_dflt (refine' code_defS ?k1Q8 ?k2Q8 ?k3Q8 ?k4Q8 ?k5Q8 ?kAQ8 ?kFQ8 ?kKQ8 ?k6Q8 ?k7Q8 ?k8Q8 ?k9Q8 ?kBQ8 ?_ ?c2Q8 ?c3Q8 ?c4Q8 ?c5Q8; (case kAQ8 => exact rfl); (case kFQ8 => exact rfl); (case kKQ8 => first | assumption | exact rfl); (case k1Q8 => k_asm); (case k2Q8 => k_asm); (case k3Q8 => k_asm); (case k4Q8 => k_asm); (case k5Q8 => k_asm); (case k6Q8 => k_is); (case k7Q8 => k_is); (case k8Q8 => ktr_room); (case k9Q8 => first | exact BindsTo.of_eq rfl | exact binds_K (by k_in) rfl (by k_is) rfl rfl rfl); (case c5Q8 => decide); (case kBQ8 => exact locs rfl); (case c2Q8 => exact rfl); (case c3Q8 => exact rfl); (case c4Q8 => exact rfl); k_whole; intro g'Q9 L'Q9 h'Q9 FG'Q9 F'Q9 N'Q9 B'Q9 X'Q9 T'Q9 l1Q9; (try dsimp only); (try k_lift B'Q9); (try k_fold)))
  k_with "m:getAttr ref" => (k_here; k_dflt (refine' acc_getK ?k1Q8 ?k2Q8 ?k3Q8 ?k4Q8 ?k5Q8 ?k6Q8 ?k7Q8 ?_; (case k1Q8 => k_asm); (case k2Q8 => k_asm); (case k3Q8 => k_inst); (case k4Q8 => k_is); (case k5Q8 => k_is); (case k6Q8 => k_get); (case k7Q8 => k_handed); k_whole))
  k_with "m:getMethod ref" => (k_here; k_dflt (refine' acc_methodK ?k1Q8 ?k2Q8 ?k3Q8 ?k4Q8 ?k5Q8 ?k6Q8 ?_; (case k1Q8 => k_asm); (case k2Q8 => k_asm); (case k3Q8 => k_inst); (case k4Q8 => k_is); (case k5Q8 => kernel_rfl); (case k6Q8 => k_get); k_whole))
  k_with "m:getMethod ref" => (k_here; k_dflt (first | (refine' super_init_K ?k1Q8 ?k2Q8 ?k3Q8 ?k4Q8 ?k5Q8 ?_; (case k1Q8 => k_asm); (case k2Q8 => k_asm); (case k3Q8 => k_asm); (case k4Q8 => k_mem); (case k5Q8 => k_inst)) | (refine' super_len_K ?k1Q8 ?k2Q8 ?k3Q8 ?k4Q8 ?k5Q8 ?_; (case k1Q8 => k_asm); (case k2Q8 => k_asm); (case k3Q8 => k_asm); (case k4Q8 => k_mem); (case k5Q8 => k_inst)) | (refine' super_pop_K ?k1Q8 ?k2Q8 ?k3Q8 ?k4Q8 ?k5Q8 ?_; (case k1Q8 => k_asm); (case k2Q8 => k_asm); (case k3Q8 => k_asm); (case k4Q8 => k_mem); (case k5Q8 => k_inst))); k_whole; intro q'Q9 h'Q9 F'Q9 N'Q9 l1Q9; (try k_lt l1Q9); (try k_sweep); (try dsimp only))
  k_with "m:setAttr ref" => (k_here; k_dflt (refine' acc_set ?k1Q8 ?k2Q8 ?k3Q8 ?k4Q8 ?k8Q8 ?k10Q8 ?k11Q8 ?k12Q8 ?k13Q8 ?_; (case k1Q8 => k_asm); (case k2Q8 => k_asm); (case k3Q8 => k_asm); (case k4Q8 => k_inst); (case k8Q8 => k_is); (case k10Q8 => k_get); (case k11Q8 => k_put); (case k12Q8 => k_upd); (case k13Q8 => exact Nat.le_of_ble_eq_true rfl); k_whole; intro h'Q9 F'Q9 N'Q9; (try k_sweep); (try dsimp only)))
  k_with "m:call ref" => (k_here; k_dflt (first | (refine' call_init_K ?k1Q8 ?k2Q8 ?k3Q8 ?k4Q8 ?_; (case k1Q8 => k_asm); (case k2Q8 => k_asm); (case k3Q8 => k_mem); (case k4Q8 => k_upd); k_whole; intro h'Q9 F'Q9 N'Q9; (try k_sweep)) | (refine' call_pop_K ?k1Q8 ?k0Q8 ?k2Q8 ?k3Q8 ?k4Q8 ?k5Q8 ?_; (case k1Q8 => k_asm); (case k0Q8 => k_asm); (case k2Q8 => k_asm); (case k3Q8 => k_mem); (case k4Q8 => k_upd); (case k5Q8 => omega); k_whole; intro h'Q9 F'Q9 N'Q9; (try k_sweep)) | (refine' call_len_K ?k2Q8 ?k3Q8 ?k4Q8 ?_; (case k2Q8 => k_asm); (case k3Q8 => k_mem); (case k4Q8 => k_mem); k_whole)))
  k_with "m:call builtin:list.append" => (k_here; k_dflt (refine' acc_append ?k1Q8 ?k0Q8 ?k2Q8 ?k3Q8 ?zQ8 ?_; (case k1Q8 => k_asm); (case k0Q8 => k_asm); (case k2Q8 => k_asm); (case k3Q8 => k_upd); (case zQ8 => omega); k_whole); intro h'Q9 F'Q9 N'Q9; (try k_sweep))
  k_with "m:acc_super_enter" => k_dflt (refine' ks_code_super ?k1Q8 ?k2Q8 ?k3Q8 ?k4Q8 ?k5Q8 ?kAQ8 ?kFQ8 ?kKQ8 ?k6Q8 ?k7Q8 ?k8Q8 ?k9Q8 ?kBQ8 ?_ ?c1Q8 ?c2Q8 ?c3Q8 ?c4Q8; (case kAQ8 => exact rfl); (case kFQ8 => exact rfl); (case kKQ8 => first | exact rfl | assumption); (case k1Q8 => k_asm); (case k2Q8 => k_asm); (case k3Q8 => k_asm); (case k4Q8 => k_asm); (case k5Q8 => k_asm); (case k6Q8 => k_is); (case k7Q8 => k_is); (case k8Q8 => k_room); (case k9Q8 => first | exact BindsTo.of_eq rfl | exact binds_K (by k_in) rfl (by k_is) rfl rfl rfl); (case kBQ8 => exact locs rfl); (case c1Q8 => decide); (case c2Q8 => exact rfl); (case c3Q8 => exact rfl); (case c4Q8 => exact rfl); intro g'Q9 L'Q9 h'Q9 FG'Q9 F'Q9 N'Q9 B'Q9 X'Q9 T'Q9 l1Q9; (try k_lt l1Q9); (try dsimp only); (try k_lift B'Q9))
  k_with "m:ks_go" => ((try dsimp only); first | refine ks_wpAt_execs_cons ?_ | refine ks_wpAt_Expr_any ?_ | refine ks_wpAt_Return_some ?_ | refine ks_wpAt_MethodCall ?_ | k_dflt (refine ks_node (by k_asm) (by k_asm) (by k_asm) (by k_asm) (by k_is) (by rfl) (by rfl) (by k_inst) (by k_is) (by rfl) (by first | rfl | decide +kernel) (by k_is) (by k_is) (by k_is) (by k_is) (by decide) (by rfl) (by rfl) (by rfl) (by rfl) (by decide +kernel) (by first | boot_by_name | rfl | kernel_rfl) ?_; intro so'Q9 h'Q9 F'Q9 N'Q9 l1Q9; (try k_lt l1Q9); (try dsimp only)))
  k_with "m:callWith ref" => (k_here; (with_reducible show wpAny _ _ (callWith _ (Value.ref _) [] (backTo _ (starEach [] _)) []) _ _ _); k_dflt (first | (refine' callWith_W0 ?k1Q8 ?k2Q8 ?_; (case k1Q8 => k_asm); (case k2Q8 => k_mem)) | (refine' callWith_B0 ?k1Q8 ?k2Q8 ?_; (case k1Q8 => k_asm); (case k2Q8 => k_mem))); k_whole)
  k_with "m:ks_if" => ((try dsimp only); (with_reducible show PySem.wpAt _ _ _ _ _ _ _); first | walk_at "ks_go" | refine ks_wpAt_If ?_)
  k_with "m:ks_run" => repeat' (first | walk_at "ks_if" | (k_unfold; (try dsimp only)) | (k_end; wrow_close) | walk1 | (dsimp only; walk1) | fail "no step")
  k_with "m:subscriptTail Name Slice ref ref" => (k_here; k_dflt (refine' acc_getslice_K ?k1Q8 ?k2Q8 ?k3Q8 ?k4Q8 ?k5Q8 ?k6Q8 ?_; (case k1Q8 => k_asm); (case k2Q8 => k_asm); (case k3Q8 => k_asm); (case k4Q8 => k_mem); (case k5Q8 => assumption); (case k6Q8 => omega); k_whole); intro l'Q9 h'Q9 F'Q9 N'Q9 l1Q9; (try k_lt l1Q9))
  k_with "m:setItem ref" => (k_here; k_dflt (first | (refine' acc_cut_K ?k1Q8 ?k2Q8 ?k3Q8 ?k4Q8 ?k5Q8 ?k6Q8 ?k7Q8 ?k8Q8 ?_; (case k1Q8 => k_asm); (case k2Q8 => k_asm); (case k3Q8 => k_asm); (case k4Q8 => k_mem); (case k5Q8 => k_upd); (case k6Q8 => first | assumption | exact ne_lt (by assumption) | (apply ne_lt1; assumption) | (apply ne_lt2; assumption)); (case k7Q8 => assumption); (case k8Q8 => omega)) | (refine' acc_fill_K ?k1Q8 ?k2Q8 ?k3Q8 ?k4Q8 ?k5Q8 ?k6Q8 ?k7Q8 ?k8Q8 ?_; (case k1Q8 => k_asm); (case k2Q8 => k_asm); (case k3Q8 => k_asm); (case k4Q8 => k_mem); (case k5Q8 => k_upd); (case k6Q8 => first | assumption | exact ne_lt (by assumption) | (apply ne_lt1; assumption) | (apply ne_lt2; assumption)); (case k7Q8 => omega); (case k8Q8 => first | omega | decide))); k_whole; intro h'Q9 F'Q9 N'Q9; (try k_sweep))
  k_with "m:truthy ref" => (k_here; k_dflt (refine' A_truthy ?hOQ8 ?hTQ8 ?h0Q8 ?h1Q8 _ _ _ _ _ _ _ _ _ _ _ _ _ _ _ _ _ ?k1Q8 ?k2Q8 ?k3Q8 ?k4Q8 ?k5Q8 ?kKQ8 ?kGQ8 ?kdQ8 ?kuQ8 ?_; (case k1Q8 => k_asm); (case k2Q8 => k_asm); (case k3Q8 => k_asm); (case k4Q8 => k_asm); (case k5Q8 => k_asm); (case kKQ8 => first | exact rfl | assumption); (case kGQ8 => k_asm); (case kdQ8 => ktr_room); (case kuQ8 => ktr_units); (case hOQ8 => assumption); (case hTQ8 => assumption); (case h0Q8 => omega); (case h1Q8 => omega); k_whole; intro tQ9 n'Q9 ti'Q9 te'Q9 ps'Q9 qs'Q9 h'Q9 g'Q9 d'Q9 tk'Q9 TT'Q9 F'Q9 N'Q9 G'Q9; (try k_sweep); (try dsimp only)))
  k_with "m:call builtin:len" => (k_here; k_dflt (refine' A_len ?hOQ8 ?hTQ8 ?h0Q8 ?h1Q8 _ _ _ _ _ _ _ _ _ _ _ _ _ _ _ _ _ ?k1Q8 ?k2Q8 ?k3Q8 ?k4Q8 ?k5Q8 ?kKQ8 ?kGQ8 ?kdQ8 ?kuQ8 ?_; (case k1Q8 => k_asm); (case k2Q8 => k_asm); (case k3Q8 => k_asm); (case k4Q8 => k_asm); (case k5Q8 => k_asm); (case kKQ8 => first | exact rfl | assumption); (case kGQ8 => k_asm); (case kdQ8 => ktr_room); (case kuQ8 => ktr_units); (case hOQ8 => assumption); (case hTQ8 => assumption); (case h0Q8 => omega); (case h1Q8 => omega); k_whole; intro tQ9 n'Q9 ti'Q9 te'Q9 ps'Q9 qs'Q9 h'Q9 g'Q9 d'Q9 tk'Q9 TT'Q9 F'Q9 N'Q9 G'Q9; (try k_sweep); (try dsimp only)))
  k_with "m:call type:str" => (k_here; k_dflt (refine' A_str ?hOQ8 ?hTQ8 _ _ _ _ _ _ _ _ _ _ _ _ _ _ _ _ _ ?k1Q8 ?k2Q8 ?k3Q8 ?k4Q8 ?k5Q8 ?kKQ8 ?kGQ8 ?kdQ8 ?kuQ8 ?_; (case k1Q8 => k_asm); (case k2Q8 => k_asm); (case k3Q8 => k_asm); (case k4Q8 => k_asm); (case k5Q8 => k_asm); (case kKQ8 => first | exact rfl | assumption); (case kGQ8 => k_asm); (case kdQ8 => ktr_room); (case kuQ8 => ktr_units); (case hOQ8 => assumption); (case hTQ8 => assumption); k_whole; intro tQ9 n'Q9 ti'Q9 te'Q9 ps'Q9 qs'Q9 h'Q9 g'Q9 d'Q9 tk'Q9 TT'Q9 F'Q9 N'Q9 G'Q9; (try k_sweep); (try dsimp only)))
  k_with "m:call builtin:str.isspace" => (k_here; k_dflt (refine' KXw.isspace rfl ?_))
  trivial
theorem acc_ws (w : World) (mean : ExcName → Option Value) (mg mb : Str → Option Value) (rest : List (Addr × Obj)) (x dx : Addr) (parts : List Part) (n : Nat) (k : Int) (ti te : Tok) (ps qs : Array Value) (O : Ok x dx parts rest) (TT : Tabs ps qs) (hk0 : k = 0) (h1 : 0 < lenOf parts) (hsp : Txt.isspace (textOf parts) = false) :
    ConG 14 90 w mean mg mb 203 (AL w x dx parts n k ti te ps qs rest) [.ref x] (APost w x dx parts k rest fun t => .bool false) := by
  dsimp only [ConG, APost, pr, lsV]; k_fill
  intros; rename_i hret
  walk_at "con_enterS"
  have hdx' := ltN O.lt
  k_steps
  · rw [hsp]
    exact hret 0 _ _ _ _ _ _ _ _ _ (by assumption) (by assumption) (by assumption) (by assumption)
  · omega
  · omega
end Mine
end
section
open PySem PySem.W PyProof.Rows PySem.Calls Builtin Builtin.ObjectAttr Builtin.Getset_descriptor
set_option Elab.async false
set_option maxRecDepth 100000
set_option maxHeartbeats 0
namespace Mine
theorem lines_AccG_1 : True := by
  w_top off
  k_with_none
  k_with "m9:room" => ktr_room
  k_with "m9:inst" => (refine' inst_acc ?NQ8 ?h1Q8 ?h2Q8; (case NQ8 => k_asm); (case h1Q8 => k_mem); (case h2Q8 => k_mem))
  k_with "m9:all" => first | (with_reducible assumption) | exact allNe_lt (by assumption)
  k_with "m:con_enter" => (refine wpAny_call ?_; k_dflt (first | cell_enter | (refine' code_defC ?k1Q8 ?k2Q8 ?k3Q8 ?k4Q8 ?k5Q8 ?kAQ8 ?kFQ8 ?kKQ8 ?k6Q8 ?k7Q8 ?k8Q8 ?k9Q8 ?kBQ8 ?kDQ8 ?_ ?c2Q8 ?c3Q8 ?c4Q8; (case kAQ8 => exact rfl); (case kFQ8 => exact rfl); (case kKQ8 => assumption); (case k1Q8 => k_asm); (case k2Q8 => k_asm); (case k3Q8 => k_asm); (case k4Q8 => k_asm); (case k5Q8 => k_asm); (case k6Q8 => k_is); (case k7Q8 => k_is); (case k8Q8 => ktr_room); (case k9Q8 => first | exact BindsTo.of_eq rfl | exact binds_K (by k_in) rfl (by k_is) rfl rfl rfl | fail "k_enter: no rule for these arguments"); (case kBQ8 => exact rfl); (case kDQ8 => decide +kernel); (case c2Q8 => exact rfl); (case c3Q8 => exact rfl); (case c4Q8 => exact rfl); k_whole; intro g'Q9 L'Q9 h'Q9 tk'Q9 cells'Q9 FG'Q9 F'Q9 N'Q9 Y'Q9 B'Q9 X'Q9 T'Q9 l1Q9; (try k_lt l1Q9); k_cells Y'Q9; (try simp only [List.cons_append, List.nil_append] at N'Q9); (try dsimp only); (try k_lift B'Q9); (try k_fold))))
  k_with "m:getAttr ref" => (k_here; k_dflt (refine' acc_getK ?k1Q8 ?k2Q8 ?k3Q8 ?k4Q8 ?k5Q8 ?k6Q8 ?k7Q8 ?_; (case k1Q8 => k_asm); (case k2Q8 => k_asm); (case k3Q8 => k_inst); (case k4Q8 => k_is); (case k5Q8 => k_is); (case k6Q8 => k_get); (case k7Q8 => k_handed); k_whole))
  k_with "m:getMethod ref" => (k_here; k_dflt (refine' acc_methodK ?k1Q8 ?k2Q8 ?k3Q8 ?k4Q8 ?k5Q8 ?k6Q8 ?_; (case k1Q8 => k_asm); (case k2Q8 => k_asm); (case k3Q8 => k_inst); (case k4Q8 => k_is); (case k5Q8 => kernel_rfl); (case k6Q8 => k_get); k_whole))
  k_with "m:getMethod ref" => (k_here; k_dflt (first | (refine' super_init_K ?k1Q8 ?k2Q8 ?k3Q8 ?k4Q8 ?k5Q8 ?_; (case k1Q8 => k_asm); (case k2Q8 => k_asm); (case k3Q8 => k_asm); (case k4Q8 => k_mem); (case k5Q8 => k_inst)) | (refine' super_len_K ?k1Q8 ?k2Q8 ?k3Q8 ?k4Q8 ?k5Q8 ?_; (case k1Q8 => k_asm); (case k2Q8 => k_asm); (case k3Q8 => k_asm); (case k4Q8 => k_mem); (case k5Q8 => k_inst)) | (refine' super_pop_K ?k1Q8 ?k2Q8 ?k3Q8 ?k4Q8 ?k5Q8 ?_; (case k1Q8 => k_asm); (case k2Q8 => k_asm); (case k3Q8 => k_asm); (case k4Q8 => k_mem); (case k5Q8 => k_inst))); k_whole; intro q'Q9 h'Q9 F'Q9 N'Q9 l1Q9; (try k_lt l1Q9); (try k_sweep); (try dsimp only))
  k_with "m:setAttr ref" => (k_here; k_dflt (refine' acc_set ?k1Q8 ?k2Q8 ?k3Q8 ?k4Q8 ?k8Q8 ?k10Q8 ?k11Q8 ?k12Q8 ?k13Q8 ?_; (case k1Q8 => k_asm); (case k2Q8 => k_asm); (case k3Q8 => k_asm); (case k4Q8 => k_inst); (case k8Q8 => k_is); (case k10Q8 => k_get); (case k11Q8 => k_put); (case k12Q8 => k_upd); (case k13Q8 => exact Nat.le_of_ble_eq_true rfl); k_whole; intro h'Q9 F'Q9 N'Q9; (try k_sweep); (try dsimp only)))
  k_with "m:call ref" => (k_here; k_dflt (first | (refine' call_init_K ?k1Q8 ?k2Q8 ?k3Q8 ?k4Q8 ?_; (case k1Q8 => k_asm); (case k2Q8 => k_asm); (case k3Q8 => k_mem); (case k4Q8 => k_upd); k_whole; intro h'Q9 F'Q9 N'Q9; (try k_sweep)) | (refine' call_pop_K ?k1Q8 ?k0Q8 ?k2Q8 ?k3Q8 ?k4Q8 ?k5Q8 ?_; (case k1Q8 => k_asm); (case k0Q8 => k_asm); (case k2Q8 => k_asm); (case k3Q8 => k_mem); (case k4Q8 => k_upd); (case k5Q8 => omega); k_whole; intro h'Q9 F'Q9 N'Q9; (try k_sweep)) | (refine' call_len_K ?k2Q8 ?k3Q8 ?k4Q8 ?_; (case k2Q8 => k_asm); (case k3Q8 => k_mem); (case k4Q8 => k_mem); k_whole)))
  k_with "m:call builtin:list.append" => (k_here; k_dflt (refine' acc_append ?k1Q8 ?k0Q8 ?k2Q8 ?k3Q8 ?zQ8 ?_; (case k1Q8 => k_asm); (case k0Q8 => k_asm); (case k2Q8 => k_asm); (case k3Q8 => k_upd); (case zQ8 => omega); k_whole); intro h'Q9 F'Q9 N'Q9; (try k_sweep))
  k_with "m:acc_super_enter" => k_dflt (refine' ks_code_super ?k1Q8 ?k2Q8 ?k3Q8 ?k4Q8 ?k5Q8 ?kAQ8 ?kFQ8 ?kKQ8 ?k6Q8 ?k7Q8 ?k8Q8 ?k9Q8 ?kBQ8 ?_ ?c1Q8 ?c2Q8 ?c3Q8 ?c4Q8; (case kAQ8 => exact rfl); (case kFQ8 => exact rfl); (case kKQ8 => first | exact rfl | assumption); (case k1Q8 => k_asm); (case k2Q8 => k_asm); (case k3Q8 => k_asm); (case k4Q8 => k_asm); (case k5Q8 => k_asm); (case k6Q8 => k_is); (case k7Q8 => k_is); (case k8Q8 => k_room); (case k9Q8 => first | exact BindsTo.of_eq rfl | exact binds_K (by k_in) rfl (by k_is) rfl rfl rfl); (case kBQ8 => exact locs rfl); (case c1Q8 => decide); (case c2Q8 => exact rfl); (case c3Q8 => exact rfl); (case c4Q8 => exact rfl); intro g'Q9 L'Q9 h'Q9 FG'Q9 F'Q9 N'Q9 B'Q9 X'Q9 T'Q9 l1Q9; (try k_lt l1Q9); (try dsimp only); (try k_lift B'Q9))
  k_with "m:ks_go" => ((try dsimp only); first | refine ks_wpAt_execs_cons ?_ | refine ks_wpAt_Expr_any ?_ | refine ks_wpAt_Return_some ?_ | refine ks_wpAt_MethodCall ?_ | k_dflt (refine ks_node (by k_asm) (by k_asm) (by k_asm) (by k_asm) (by k_is) (by rfl) (by rfl) (by k_inst) (by k_is) (by rfl) (by first | rfl | decide +kernel) (by k_is) (by k_is) (by k_is) (by k_is) (by decide) (by rfl) (by rfl) (by rfl) (by rfl) (by decide +kernel) (by first | boot_by_name | rfl | kernel_rfl) ?_; intro so'Q9 h'Q9 F'Q9 N'Q9 l1Q9; (try k_lt l1Q9); (try dsimp only)))
  k_with "m:callWith ref" => (k_here; (with_reducible show wpAny _ _ (callWith _ (Value.ref _) [] (backTo _ (starEach [] _)) []) _ _ _); k_dflt (first | (refine' callWith_W0 ?k1Q8 ?k2Q8 ?_; (case k1Q8 => k_asm); (case k2Q8 => k_mem)) | (refine' callWith_B0 ?k1Q8 ?k2Q8 ?_; (case k1Q8 => k_asm); (case k2Q8 => k_mem))); k_whole)
  trivial
theorem acc_make (w : World) (mean : ExcName → Option Value) (mg mb : Str → Option Value) (rest : List (Addr × Obj)) (k : Int) (t : Tok) :
    Con 8 60 w mean mg mb 214 rest [.int k t] (fun h₀ L m s Q => ∀ x dx tk h' tk', (∀ p ∈ rest, p.1 < dx) → dx < x → Fr h₀ L h' m → News h₀ L h' ((x, accObj dx #[] 0) :: (dx, iniD w k tk t) :: rest) → Q (.ref x) { s with heap := h', toks := tk' }) := by
  dsimp only [Con, pr, lsV]; k_fill
  intros; rename_i hret
  k_dflt (refine' call_acc_K ?k1 ?k2 ?k3 ?_; (case k1 => k_asm); (case k2 => k_asm); (case k3 => k_asm); k_whole; intro x' d' h' F' N' hl1 hl2; have l1 := hl1; have l2 := hl2; have n1 : ∀ p ∈ rest, p.1 ≠ d' := fun p hp => Nat.ne_of_lt (hl1 p hp); have n2 : ∀ p ∈ rest, p.1 ≠ x' := fun p hp => Nat.ne_of_lt (Nat.lt_trans (hl1 p hp) hl2); (try k_lt l1); (try k_lt2 l2); (try k_sweep))
  walk_at "acc_super_enter"
  iterate 6 (first | (k_unfold; (try dsimp only)) | walk1)
  repeat walk_at "ks_go"
  k_steps
  refine hret x' d' ?tk _ _ hl1 hl2 ?fr (news_drop2 (a := ?p1) (b := ?p2) ?nw)
  case nw => assumption
  case fr => assumption
end Mine
end
section
open PySem PySem.W PyProof.Rows PySem.Calls Builtin Builtin.ObjectAttr Builtin.Getset_descriptor
set_option Elab.async false
set_option maxRecDepth 100000
set_option maxHeartbeats 400000
namespace Mine
theorem none_FmA : True := by w_top off; k_with_none; trivial
theorem tc_units (A : Around) (a : Args) : (A.under (.builtin "type.__call__" a)).units = A.units + 1 := by kernel_rfl
structure FT where
  k1 : Tok
  k2 : Tok
  k3 : Tok
  k4 : Tok
  k5 : Tok
  k6 : Tok
  tb : Tok
  tc : Tok
  tl : Tok
  td : Tok
noncomputable abbrev fmtD (w : World) (mx : Int) (ll x : Addr) (T : FT) : Obj := dictOf [⟨PyData.keyHash w.params "_maxlen", .str "_maxlen" T.k1, .int mx T.tb⟩, ⟨PyData.keyHash w.params "_continuation_ws", .str "_continuation_ws" T.k2, .str " " T.tc⟩,
  ⟨PyData.keyHash w.params "_continuation_ws_len", .str "_continuation_ws_len" T.k3, .int 1 T.tl⟩, ⟨PyData.keyHash w.params "_splitchars", .str "_splitchars" T.k4, .str " " T.td⟩,
  ⟨PyData.keyHash w.params "_lines", .str "_lines" T.k5, .ref ll⟩, ⟨PyData.keyHash w.params "_current_line", .str "_current_line" T.k6, .ref x⟩] 6
noncomputable abbrev linesV (ls : List (Str × Tok)) : Array Value := (ls.map fun p => Value.str p.1 p.2).toArray
/-- what lies behind the own list's four objects -/
noncomputable abbrev FR (w : World) (f fd ll x : Addr) (mx : Int) (T : FT) (ls : List (Str × Tok)) (c : Nat) (rest : List (Addr × Obj)) : List (Addr × Obj) :=
  (ll, W.listOf (linesV ls) c) :: (f, instObj 130 fd) :: (fd, fmtD w mx ll x T) :: rest
structure FOk (f fd ll x dx : Addr) (parts : List Part) (rest : List (Addr × Obj)) : Prop where
  fd0 : (183 : Addr) < fd
  fdf : fd < f
  fll : f < ll
  lld : ll < dx
  lt : dx < x
  apart : ∀ p ∈ rest, p.1 ≠ x ∧ p.1 ≠ dx ∧ p.1 ≠ 176 ∧ p.1 ≠ 183 ∧ p.1 ≠ ll
  pin : PartsIn rest parts
  sz : ∀ p ∈ parts, p.2.1.1.length ≤ 1000 ∧ p.2.2.1.length ≤ 1000
  len : parts.length ≤ 99
section
variable {w : World} {f fd ll x dx : Addr} {parts : List Part} {rest : List (Addr × Obj)}
theorem lt_nn {a b c : Addr} (h : a < b) (h' : b < c) : a < c := Nat.lt_trans h h'
theorem FOk.ok {a b c : Obj} (O : FOk f fd ll x dx parts rest) : Ok x dx parts ((ll, a) :: (f, b) :: (fd, c) :: rest) where
  apart p hp := by
    have e0 : (176 : Addr) < fd := lt_nn (show (176 : Nat) < 183 by decide) O.fd0
    have e1 : fd < ll := lt_nn O.fdf O.fll
    have e2 : ll < x := lt_nn O.lld O.lt
    rcases List.mem_cons.mp hp with rfl | hp
    · exact ⟨ne_lt e2, ne_lt O.lld, (ne_lt (lt_nn e0 e1)).symm, (ne_lt (lt_nn O.fd0 e1)).symm⟩
    rcases List.mem_cons.mp hp with rfl | hp
    · exact ⟨ne_lt (lt_nn O.fll e2), ne_lt (lt_nn O.fll O.lld), (ne_lt (lt_nn e0 O.fdf)).symm, (ne_lt (lt_nn O.fd0 O.fdf)).symm⟩
    rcases List.mem_cons.mp hp with rfl | hp
    · exact ⟨ne_lt (lt_nn e1 e2), ne_lt (lt_nn e1 O.lld), (ne_lt e0).symm, (ne_lt O.fd0).symm⟩
    exact ⟨(O.apart p hp).1, (O.apart p hp).2.1, (O.apart p hp).2.2.1, (O.apart p hp).2.2.2.1⟩
  pin p hp := .tail _ (.tail _ (.tail _ (O.pin p hp)))
  lt := O.lt
  sz := O.sz
  len := O.len
end
end Mine
end
section
open PySem PySem.W PyProof.Rows PySem.Calls Builtin Builtin.ObjectAttr Builtin.Getset_descriptor
set_option Elab.async false
set_option maxRecDepth 100000
set_option maxHeartbeats 0
namespace Mine
theorem lines_FmB_1 : True := by
  w_top off
  k_with_none
  k_with "m9:room" => ktr_room
  k_with "m:eval Name" => dsimp only
  k_with "m:spliced" => dsimp only
  k_with "m:execs cons" => dsimp only
  k_with "m:eval Constant int" => dsimp only
  k_with "m:eval BinOp" => dsimp only
  k_with "m:execs nil" => dsimp only
  k_with "m:eval Call" => dsimp only
  k_with "m:storeName" => dsimp only
  k_with "m:exec Assign" => dsimp only
  k_with "m:callWith" => dsimp only
  k_with "m:eval Subscript" => dsimp only
  k_with "m:eval Call Attribute" => dsimp only
  k_with "m:evalPart none" => dsimp only
  k_with "m:truthy bool" => dsimp only
  k_with "m:callWith ref" => dsimp only
  k_with "m:call ref" => dsimp only
  k_with "m:isTrue Compare" => dsimp only
  k_with "m:getMethod ref" => dsimp only
  k_with "m:exec If" => dsimp only
  k_with "m:exec Return some" => dsimp only
  k_with "m:getAttr ref" => dsimp only
  k_with "m:eval Attribute Name" => dsimp only
  k_with "m:binaryOp Add int int" => dsimp only
  k_with "m:isTrue BoolOp" => dsimp only
  k_with "m:binaryOp Mod int int" => dsimp only
  k_with "m:subscriptTail Name Constant ref int" => dsimp only
  k_with "m:evalPart some" => dsimp only
  k_with "m:eval Slice" => dsimp only
  k_with "m:exec Expr" => dsimp only
  k_with "m:isTrue" => dsimp only
  k_with "m:eval Constant str" => dsimp only
  k_with "m:assignInOrder" => dsimp only
  k_with "m:call builtin:len" => dsimp only
  k_with "m:newTuple" => dsimp only
  k_with "m:eval Tuple" => dsimp only
  k_with "m:eval BoolOp" => dsimp only
  k_with "m:subscriptTail Name Slice str ref" => dsimp only
  k_with "m:getMethod str" => dsimp only
  k_with "m:setAttr ref" => dsimp only
  k_with "m:newList" => dsimp only
  k_with "m:eval List" => dsimp only
  k_with "m:binaryOp Mult int int" => dsimp only
  k_with "m:con_enter" => (refine wpAny_call ?_; k_dflt (first | cell_enter | (refine' code_defC ?k1Q8 ?k2Q8 ?k3Q8 ?k4Q8 ?k5Q8 ?kAQ8 ?kFQ8 ?kKQ8 ?k6Q8 ?k7Q8 ?k8Q8 ?k9Q8 ?kBQ8 ?kDQ8 ?_ ?c2Q8 ?c3Q8 ?c4Q8; (case kAQ8 => exact rfl); (case kFQ8 => exact rfl); (case kKQ8 => assumption); (case k1Q8 => k_asm); (case k2Q8 => k_asm); (case k3Q8 => k_asm); (case k4Q8 => k_asm); (case k5Q8 => k_asm); (case k6Q8 => k_is); (case k7Q8 => k_is); (case k8Q8 => ktr_room); (case k9Q8 => first | exact BindsTo.of_eq rfl | exact binds_K (by k_in) rfl (by k_is) rfl rfl rfl | fail "k_enter: no rule for these arguments"); (case kBQ8 => exact rfl); (case kDQ8 => decide +kernel); (case c2Q8 => exact rfl); (case c3Q8 => exact rfl); (case c4Q8 => exact rfl); k_whole; intro g'Q9 L'Q9 h'Q9 tk'Q9 cells'Q9 FG'Q9 F'Q9 N'Q9 Y'Q9 B'Q9 X'Q9 T'Q9 l1Q9; (try k_lt l1Q9); k_cells Y'Q9; (try simp only [List.cons_append, List.nil_append] at N'Q9); (try dsimp only); (try k_lift B'Q9); (try k_fold))))
  k_with "m:con_enterS" => (refine wpAny_call ?_; k_dflt (refine' code_defS ?k1Q8 ?k2Q8 ?k3Q8 ?k4Q8 ?k5Q8 ?kAQ8 ?kFQ8 ?kKQ8 ?k6Q8 ?k7Q8 ?k8Q8 ?k9Q8 ?kBQ8 ?_ ?c2Q8 ?c3Q8 ?c4Q8 ?c5Q8; (case kAQ8 => exact rfl); (case kFQ8 => exact rfl); (case kKQ8 => first | assumption | exact rfl); (case k1Q8 => k_asm); (case k2Q8 => k_asm); (case k3Q8 => k_asm); (case k4Q8 => k_asm); (case k5Q8 => k_asm); (case k6Q8 => k_is); (case k7Q8 => k_is); (case k8Q8 => ktr_room); (case k9Q8 => first | exact BindsTo.of_eq rfl | exact binds_K (by k_in) rfl (by k_is) rfl rfl rfl); (case c5Q8 => decide); (case kBQ8 => exact locs rfl); (case c2Q8 => exact rfl); (case c3Q8 => exact rfl); (case c4Q8 => exact rfl); k_whole; intro g'Q9 L'Q9 h'Q9 FG'Q9 F'Q9 N'Q9 B'Q9 X'Q9 T'Q9 l1Q9; (try dsimp only); (try k_lift B'Q9); (try k_fold)))
  k_with "m:con_enterT" => (k_dflt (refine' code_defS ?k1Q8 ?k2Q8 ?k3Q8 ?k4Q8 ?k5Q8 ?kAQ8 ?kFQ8 ?kKQ8 ?k6Q8 ?k7Q8 ?k8Q8 ?k9Q8 ?kBQ8 ?_ ?c2Q8 ?c3Q8 ?c4Q8 ?c5Q8; (case kAQ8 => exact rfl); (case kFQ8 => exact rfl); (case kKQ8 => first | assumption | exact rfl); (case k1Q8 => k_asm); (case k2Q8 => k_asm); (case k3Q8 => k_asm); (case k4Q8 => k_asm); (case k5Q8 => k_asm); (case k6Q8 => k_is); (case k7Q8 => k_is); (case k8Q8 => ktr_room); (case k9Q8 => first | exact BindsTo.of_eq rfl | exact binds_K (by k_in) rfl (by k_is) rfl rfl rfl); (case c5Q8 => decide); (case kBQ8 => exact locs rfl); (case c2Q8 => exact rfl); (case c3Q8 => exact rfl); (case c4Q8 => exact rfl); k_whole; intro g'Q9 L'Q9 h'Q9 FG'Q9 F'Q9 N'Q9 B'Q9 X'Q9 T'Q9 l1Q9; (try dsimp only); (try k_lift B'Q9); (try k_fold)))
  k_with "m:call ref" => (k_here; k_dflt (refine' acc_make _ _ _ _ _ _ _ _ _ _ _ _ _ _ _ _ _ _ _ _ _ _ _ _ ?k1Q8 ?k2Q8 ?k3Q8 ?k4Q8 ?k5Q8 ?kKQ8 ?kdQ8 ?kuQ8 ?_; (case k1Q8 => k_asm); (case k2Q8 => k_asm); (case k3Q8 => k_asm); (case k4Q8 => k_asm); (case k5Q8 => k_asm); (case kKQ8 => first | exact rfl | assumption); (case kdQ8 => ktr_room); (case kuQ8 => first | ktr_units | (rw [tc_units]; dsimp only [ktrTop]; omega)); k_whole; intro x'Q9 d'Q9 teQ9 h'Q9 tk'Q9 l1Q9 l2Q9 F'Q9 N'Q9; (try k_lt l1Q9); (try k_lt2 l2Q9); (try k_sweep); (try dsimp only)))
  trivial
theorem reord7 {h₀ h : Heap} {L : Addr} {a b c e f i j : Addr × Obj} {l : List (Addr × Obj)} (N : News h₀ L h (a :: b :: c :: e :: f :: i :: j :: l)) : News h₀ L h (a :: b :: i :: j :: c :: e :: f :: l) := fun p hp => N p (mem_sw (A := [c, e, f]) (B := [i, j]) [a, b] hp)
theorem fmt_make (w : World) (mean : ExcName → Option Value) (mg mb : Str → Option Value) (rest : List (Addr × Obj)) (room mx : Int) (ta tb tc td : Tok) (ps qs : Array Value) (hr : ∀ p ∈ rest, p.1 ≠ 176 ∧ p.1 ≠ 183) :
    ConG 14 90 w mean mg mb 130 ((176, tabObj ps) :: (183, tabObj qs) :: rest) [.int room ta, .int mx tb, .str " " tc, .str " " td] (fun h₀ L m s Q => ∀ f fd ll x dx T ti te h' tk', (∀ p ∈ rest, p.1 < fd) → FOk f fd ll x dx [] rest → Fr h₀ L h' m → News h₀ L h' (AL w x dx [] 0 room ti te ps qs (FR w f fd ll x mx T [] 0 rest)) → Q (.ref f) { s with heap := h', toks := tk' }) := by
  dsimp only [ConG, pr, lsV]; k_fill
  intros; rename_i hret
  k_dflt (refine' call_cls ?k1 ?k2 ?k3 ?k4 ?k5 ?k6 ?_; (case k1 => k_asm); (case k2 => k_asm); (case k3 => k_asm); (case k4 => k_is); (case k5 => k_is); (case k6 => k_is); k_whole; intro x' d' h' F' N' l1 l2; have q1 := l1; have q2 := l2; (try k_lt l1); (try k_lt2 l2); (try k_sweep))
  walk_at "con_enterT"
  k_steps
  rename _ ∧ _ ∧ _ ∧ _ ∧ _ ∧ AllLt _ _ => z2
  rename _ ∧ _ ∧ _ ∧ _ ∧ AllLt _ _ => z1
  (with_reducible rename Fr _ _ _ _ => FF)
  (with_reducible rename News _ _ _ _ => NN)
  refine hret x' d' _ _ _ ⟨_, _, _, _, _, _, _, _, _, _⟩ _ _ _ _ ?cA ?cB FF (by unfold AL FR; exact reord7 NN)
  case cA => exact fun p hp => q1 p (.tail _ (.tail _ hp))
  case cB =>
    refine ⟨q1 _ (.tail _ (.head _)), q2, z1.1, z2.1, by assumption, fun p hp => ?_, fun p hp => (nomatch hp), fun p hp => (nomatch hp), Nat.zero_le _⟩
    have e := q1 p (.tail _ (.tail _ hp))
    have e1 := lt_nn e z2.2.2.1
    have e2 := lt_nn e1 (by assumption)
    exact ⟨ne_lt e2, ne_lt e1, (hr p hp).1, (hr p hp).2, ne_lt (lt_nn e z1.2.1)⟩
end Mine
end
section
open PySem PySem.W PyProof.Rows PySem.Calls Builtin Builtin.ObjectAttr Builtin.Getset_descriptor
set_option Elab.async false
set_option maxRecDepth 100000
set_option maxHeartbeats 400000
set_option linter.unusedVariables false
namespace Mine
theorem none_FmC : True := by w_top off; k_with_none; trivial
section
variable {w : World} {mean : ExcName → Option Value} {mg mb : Str → Option Value} {f fd ll x dx : Addr} {mx : Int} {T : FT} {ls : List (Str × Tok)} {c : Nat} {parts : List Part} {n : Nat} {k : Int} {ti te : Tok} {ps qs : Array Value} {rest : List (Addr × Obj)}
theorem mid4 {h₀ h : Heap} {L : Addr} {a1 a2 a3 a4 a b c e : Addr × Obj} {l : List (Addr × Obj)} (N : News h₀ L h (a1 :: a2 :: a3 :: a4 :: a :: b :: c :: e :: l)) : News h₀ L h (a1 :: a2 :: a3 :: a4 :: b :: c :: e :: a :: l) := fun p hp => N p (mem_sw (A := [a]) (B := [b, c, e]) [a1, a2, a3, a4] hp)
theorem FOk.new {a : Addr × Obj} (O : FOk f fd ll x dx parts rest) (h : x < a.1) : FOk f fd ll x dx parts (a :: rest) where
  fd0 := O.fd0
  fdf := O.fdf
  fll := O.fll
  lld := O.lld
  lt := O.lt
  apart p hp := by
    rcases List.mem_cons.mp hp with rfl | hp
    · have e1 := lt_nn O.lt h
      have e2 := lt_nn O.lld e1
      have e3 := lt_nn O.fd0 (lt_nn O.fdf (lt_nn O.fll e2))
      exact ⟨(ne_lt h).symm, (ne_lt e1).symm, (ne_lt (lt_nn (show (176 : Nat) < 183 by decide) e3)).symm, (ne_lt e3).symm, (ne_lt e2).symm⟩
    · exact O.apart p hp
  pin p hp := .tail _ (O.pin p hp)
  sz := O.sz
  len := O.len
theorem FOk.withP {parts' : List Part} (O : FOk f fd ll x dx parts rest) (P : PartsIn rest parts') (hs : ∀ p ∈ parts', p.2.1.1.length ≤ 1000 ∧ p.2.2.1.length ≤ 1000) (hl : parts'.length ≤ 99) : FOk f fd ll x dx parts' rest where
  fd0 := O.fd0
  fdf := O.fdf
  fll := O.fll
  lld := O.lld
  lt := O.lt
  apart := O.apart
  pin := P
  sz := hs
  len := hl
theorem FOk.none (O : FOk f fd ll x dx parts rest) : FOk f fd ll x dx [] rest := O.withP (fun p hp => (nomatch hp)) (fun p hp => (nomatch hp)) (Nat.zero_le _)
theorem FOk.init {p : Part} (O : FOk f fd ll x dx (parts ++ [p]) rest) : FOk f fd ll x dx parts rest :=
  O.withP (fun q hq => O.pin q (List.mem_append_left _ hq)) (fun q hq => O.sz q (List.mem_append_left _ hq)) (by have := O.len; simp at this; lia)
theorem FOk.last {p : Part} (O : FOk f fd ll x dx (parts ++ [p]) rest) : FOk f fd ll x dx [p] rest :=
  O.withP (fun q hq => O.pin q (List.mem_append_right _ hq)) (fun q hq => O.sz q (List.mem_append_right _ hq)) (by simp)
theorem FOk.push {t : Addr} {a b : Str} {ta tb : Tok} (O : FOk f fd ll x dx parts rest) (hl : parts.length ≤ 98) (la : a.length ≤ 1000) (lb : b.length ≤ 1000) (h : x < t) : FOk f fd ll x dx (parts ++ [(t, (a, ta), (b, tb))]) ((t, tupO (.str a ta) (.str b tb)) :: rest) := by
  refine (O.new (a := (t, tupO (.str a ta) (.str b tb))) h).withP ?_ ?_ ?_
  · intro p hp
    rcases List.mem_append.mp hp with hp | hp
    · exact .tail _ (O.pin p hp)
    · rw [List.mem_singleton] at hp; subst hp; exact .head _
  · intro p hp
    rcases List.mem_append.mp hp with hp | hp
    · exact O.sz p hp
    · rw [List.mem_singleton] at hp; subst hp; exact ⟨la, lb⟩
  · simp; lia
theorem F_push {a b : Str} {ta tb : Tok} (O : FOk f fd ll x dx parts rest) (TT : Tabs ps qs) (hl : parts.length ≤ 98) (la : a.length ≤ 1000) (lb : b.length ≤ 1000) : ConT 8 60 w mean mg mb (call (.ref 158) [.ref x, .str a ta, .str b tb]) (AL w x dx parts n k ti te ps qs (FR w f fd ll x mx T ls c rest))
    (fun h₀ L m s Q => ∀ (t : Addr) (n : Nat) (h' : Heap) (tk' : Nat), (∀ q ∈ rest, q.1 < t) → FOk f fd ll x dx (parts ++ [(t, (a, ta), (b, tb))]) ((t, tupO (.str a ta) (.str b tb)) :: rest) → Fr h₀ L h' m → News h₀ L h' (AL w x dx (parts ++ [(t, (a, ta), (b, tb))]) n k ti te ps qs (FR w f fd ll x mx T ls c ((t, tupO (.str a ta) (.str b tb)) :: rest))) → Q .none { s with heap := h', toks := tk' }) := by
  intro dp un gd cn cs a ccd cl outer A₀ base h₀ L m s Q E B F X N T hk G hd hu hret
  refine A_push O.ok TT hl la lb dp un gd cn cs a ccd cl outer A₀ base h₀ L m s Q E B F X N T hk G hd hu ?_
  intro t n h' tk' _ h1 h2 _ F' N'
  exact hret t n h' tk' (fun q hq => h1 q (.tail _ (.tail _ (.tail _ hq)))) (O.push hl la lb h2) F' (mid4 N')
theorem F_pop {p : Part} (O : FOk f fd ll x dx (parts ++ [p]) rest) (TT : Tabs ps qs) : ConT 12 90 w mean mg mb (call (.ref 174) [.ref x]) (AL w x dx (parts ++ [p]) n k ti te ps qs (FR w f fd ll x mx T ls c rest))
    (fun h₀ L m s Q => ∀ (n : Nat) (h' : Heap) (tk' : Nat), FOk f fd ll x dx parts rest → Fr h₀ L h' m → News h₀ L h' (AL w x dx parts n k ti te ps qs (FR w f fd ll x mx T ls c rest)) → Q (.ref p.1) { s with heap := h', toks := tk' }) := by
  intro dp un gd cn cs a ccd cl outer A₀ base h₀ L m s Q E B F X N T hk G hd hu hret
  refine A_pop O.ok TT dp un gd cn cs a ccd cl outer A₀ base h₀ L m s Q E B F X N T hk G hd hu ?_
  intro n h' tk' _ F' N'
  exact hret n h' tk' O.init F' N'
theorem F_cut {p : Part} {i : Int} {tj : Tok} (O : FOk f fd ll x dx (parts ++ [p]) rest) (TT : Tabs ps qs) (hi : i = parts.length) : ConT 8 60 w mean mg mb (call (.ref 166) [.ref x, .int i tj]) (AL w x dx (parts ++ [p]) n k ti te ps qs (FR w f fd ll x mx T ls c rest))
    (fun h₀ L m s Q => ∀ (l : Addr) (n : Nat) (h' : Heap) (tk' : Nat), FOk f fd ll x dx parts ((l, W.listOf (refsOf [p]) 0) :: rest) → FOk f fd ll x dx [p] ((l, W.listOf (refsOf [p]) 0) :: rest) → Fr h₀ L h' m → News h₀ L h' (AL w x dx parts n k ti te ps qs (FR w f fd ll x mx T ls c ((l, W.listOf (refsOf [p]) 0) :: rest))) → Q (.ref l) { s with heap := h', toks := tk' }) := by
  intro dp un gd cn cs a ccd cl outer A₀ base h₀ L m s Q E B F X N T hk G hd hu hret
  refine A_cut O.ok TT hi dp un gd cn cs a ccd cl outer A₀ base h₀ L m s Q E B F X N T hk G hd hu ?_
  intro l n h' tk' _ _ h2 F' N'
  exact hret l n h' tk' (O.init.new h2) (O.last.new h2) F' (mid4 N')
theorem F_reset {parts' : List Part} {l : Addr} {c' : Nat} (O : FOk f fd ll x dx parts rest) (TT : Tabs ps qs) (hl : (l, W.listOf (refsOf parts') c') ∈ rest) (O' : FOk f fd ll x dx parts' rest) : ConT 8 60 w mean mg mb (call (.ref 196) [.ref x, .ref l]) (AL w x dx parts n k ti te ps qs (FR w f fd ll x mx T ls c rest))
    (fun h₀ L m s Q => ∀ (n : Nat) (ti te : Tok) (h' : Heap) (tk' : Nat), Fr h₀ L h' m → News h₀ L h' (AL w x dx parts' n 0 ti te ps qs (FR w f fd ll x mx T ls c rest)) → Q .none { s with heap := h', toks := tk' }) :=
  A_reset O.ok TT (.tail _ (.tail _ (.tail _ hl))) O'.ok
end
end Mine
end
section
open PySem PySem.W PyProof.Rows PySem.Calls Builtin Builtin.ObjectAttr Builtin.Getset_descriptor
set_option Elab.async false
set_option maxRecDepth 100000
set_option maxHeartbeats 400000
namespace Mine
section
variable {w : World} {A : Around} {E : Value → Shared → Prop} {h : Heap} {g : Array GenState} {d : Drawn} {t : Nat} {os : OsState} {x dx sl : Addr} {vs : Array Value} {v : Value} {n : Nat} {i : Int} {tj : Tok}
theorem acc_getint {Q : Value → Shared → Prop} (X : (hd.heap_39 w.params).In h) (ho : h.get? x = some (accObj dx vs n)) (h0 : 0 ≤ i) (hfit : i < 2 ^ 63) (hx : vs[i.toNat]? = some v)
    (hq : Q v ⟨h, g, d, t, os⟩) : wpAny (model pr w) A (getItem (.ref x) (.int i tj)) Q E ⟨h, g, d, t, os⟩ := by
  have t0 : Looks (model pr w) h (typeOf (.ref x)) (.ref 214) := (Looks.ld ho).andThen .now
  have LI : Looks (model pr w) h (isInstance (.ref x) (.type "list")) true := t0.andThen (list_acc X)
  have lk1 : Looks (model pr w) h (typeLookup (.ref 214) "__getitem__") (some (.builtin "list.__getitem__")) := Looks.of_peek X (by kernel_rfl)
  have sk : Looks (model pr w) h (sequenceKey (.ref x) (.int i tj) "__getitem__") (.int i tj) := by
    unfold sequenceKey
    exact t0.andThen (Looks.of_peek X (by kernel_rfl))
  unfold getItem
  refine wpAny_holding (wpAny_bind (sk.at (wpAny_bind ?_)))
  unfold callSpecial? specialOf
  refine wpAny_bind (wpAny_bind (t0.at (lk1.at (wpAny_holding ?_))))
  rw [gi_bind]
  refine wpAny_bind (wpAny_pure (wpAny_bind ?_))
  show wpAny _ _ (PySem.call (.builtin "list.__getitem__") [.ref x, .int i tj] []) _ _ _
  have ck' := gi_args (.ref x) (.int i tj)
  refine wpAny_call (codeAny_call_builtin gi_plain gi_entry ?_)
  have chk : ∀ {Q' : Unit → Shared → Prop} {E' : Value → Shared → Prop}, Q' () ⟨h, g, d, t, os⟩ → wpAny (model pr w) A.in1 (checkBuiltinCall "list.__getitem__" ⟨[.ref x, .int i tj], []⟩) Q' E' ⟨h, g, d, t, os⟩ := by
    intro Q' E' q
    simp only [checkBuiltinCall, gi_kind, gi_split]
    refine wpAny_bind (LI.at ?_)
    simp only [Bool.not_true, Bool.false_eq_true, if_false]
    cases hsig : Manifest.signature? "list.__getitem__" with
    | none => exact wpAny_pure q
    | some sig =>
      simp only [argsOk, hsig] at ck'
      show wpAny _ _ (Bind.checkArgs "list.__getitem__" sig ⟨[.ref x, .int i tj], []⟩) _ _ _
      rw [show Bind.checkArgs "list.__getitem__" sig ⟨[.ref x, .int i tj], []⟩ = pure () from ck']
      exact wpAny_pure q
  refine chk ?_
  unfold Builtin.«list.__getitem__»
  show wpAny _ _ (Builtin.List.listSubscript? (.int i tj) >>= _) _ _ _
  refine wpAny_bind (wpAny_listSubscript_int (fitsIndex_of h0 hfit) ?_)
  clear hfit
  obtain ⟨j, rfl⟩ := Int.eq_ofNat_of_zero_le h0
  have hx' : vs[j]? = some v := hx
  show wpAny _ _ ((seqItemAt x j >>= fun r => pure (r.map (j, ·))) >>= _) _ _ _
  refine wpAny_bind (wpAny_bind (wpAny_seqItemAt ho rfl (wpAny_pure ?_)))
  rw [hx']
  exact wpAny_pure (wpAny_pure (wpAny_pure hq))
end
section
variable {w : World} {A : Around} {E : Value → Shared → Prop} {s : Shared} {x dx L : Addr} {h₀ : Heap} {m : Str → Option Value} {news : List (Addr × Obj)} {vs : Array Value} {n : Nat} {i : Int} {tj : Tok} {v : Value}
theorem acc_getint_K {value slice : PySem.Expr} {Q : Value → Shared → Prop} (F : Fr h₀ L s.heap m) (X₀ : (hd.heap_39 w.params).In h₀) (N : News h₀ L s.heap news) (ho : (x, accObj dx vs n) ∈ news) (h0 : 0 ≤ i) (hfit : i < 2 ^ 63) (hx : vs[i.toNat]? = some v)
    (hs : subscripted slice false (.ref x) (.int i tj) = operate [.ref x, .int i tj] (getItem (.ref x) (.int i tj))) (h : Q v s) :
    wpAny (model pr w) A (subscriptTail value slice (.ref x) (.int i tj)) Q E s := by
  obtain ⟨hh, g, d, t, os⟩ := s
  exact acc_tail (X₀.keeps F.keep) (N _ ho).1 (acc_getint (X₀.keeps F.keep) (N _ ho).1 h0 hfit hx h) hs
end
end Mine
end
section
open PySem PySem.W PyProof.Rows PySem.Calls Builtin Builtin.ObjectAttr Builtin.Getset_descriptor
set_option Elab.async false
set_option maxRecDepth 100000
set_option maxHeartbeats 400000
namespace Mine
theorem MethodStar {M : Model} {A : Around} {E : Value → Shared → Prop} {s : Shared} {env : Env} {o a : PySem.Expr} {name : Str} {apos pos p : Pos} {Q : Value → Shared → Prop}
    (h : wpAny M A (eval o env) (fun ov s₁ => wpAny M A (getAttr ov name true) (fun f s₂ => wpAny M A (callWith pos f [] (backTo pos (starEach [.Starred a p] env)) []) Q E s₂) E s₁) E s)
    (he : eval (.Call (.Attribute o name apos) [.Starred a p] [] pos) env = (do
      let ov ← eval o env
      standAt apos.atName
      let (f, first) ← holding [ov] (do pure (← getAttr ov name true, []))
      callWith pos f first (backTo pos (starEach [.Starred a p] env)) []) := by rfl) :
    wpAny M A (eval (.Call (.Attribute o name apos) [.Starred a p] [] pos) env) Q E s := by
  rw [he]
  refine wpAny_bind (wpAny_mono h (fun ov s₁ h₁ => wpAny_bind (wpAny_standAt (wpAny_bind (wpAny_holding (wpAny_bind (wpAny_mono h₁ (fun fx s₂ h₂ => wpAny_pure ?_) fun _ _ x => x)))))) fun _ _ x => x)
  exact h₂
theorem callWith_MS {M : Model} {A : Around} {E : Value → Shared → Prop} {s : Shared} {K : Frag} {env : Env} {pos p : Pos} {first : List Value} {Q : Value → Shared → Prop} {h₀ : Heap} {L : Addr} {news : List (Addr × Obj)} {e : PySem.Expr} {q g : Addr} {self : Value}
    (X : K.In h₀) (N : News h₀ L s.heap news) (hq : (q, methodObj (.ref g) self) ∈ news) (hf : fnIn K g = true)
    (h : wpAny M A (eval e env) (fun v s₁ => StarOf M A E v (fun vs s₂ => MethP K q g self s₂.heap ∧ wpAny M A (call (.ref q) (first ++ vs)) Q E s₂) s₁) E s)
    (he : starEach [.Starred e p] env = [(true, eval e env)] := by rfl) :
    wpAny M A (callWith pos (.ref q) first (backTo pos (starEach [.Starred e p] env)) []) Q E s := by
  rw [he]
  exact ks_call rfl (keeps_M hf) (ks_lone h)
section
variable {w : World} {A : Around} {E : Value → Shared → Prop} {s : Shared} {x : Addr} {ox : Obj} {od : Option Obj} {name : Str}
theorem acc_getbind {g a : Value} {expr : Bool} {Q : Value → Shared → Prop} (X : (hd.heap_39 w.params).In s.heap) (I : InstAt s.heap x ox 214 od) (hf : findObj (hd.heap_39 w.params) 214 od name = some (.bind g a))
    (h : wpAny (model pr w) A.in1 (call g [a, .ref x, .ref 214]) (fun v s' => wpAny (model pr w) A (handedOut v) Q E s') (fun _ _ => False) { s with toks := s.toks + 1 }) : wpAny (model pr w) A (getAttr (.ref x) name expr) Q E s := by
  have hga : findIn (hd.heap_39 w.params) (.ref 214) "__getattribute__" = some (some (.builtin "list.__getattribute__")) := by kernel_rfl
  have hk : findIn (hd.heap_39 w.params) (.ref 214) "__getattr__" = some none := by kernel_rfl
  obtain ⟨hp, gg, d, t, os⟩ := s
  have L0 := I.type (M := model pr w)
  have L1 := looks_findIn (M := model pr w) X hga
  have L2 := looks_findIn (M := model pr w) X hk
  have L3 := looks_find (M := model pr w) X I hf
  have LI := inst_list X I
  unfold getAttr getAttrBy
  refine wpAny_bind (wpAny_mkText (wpAny_holding (wpAny_bind (L0.at (wpAny_bind (L1.at ?_))))))
  show wpAny _ _ (getAttrByItsOwn _ _ _ _ _ _) _ _ _
  unfold getAttrByItsOwn
  refine wpAny_bind ?_
  show wpAny _ _ (typeLookup (.ref 214) "__getattr__") _ _ _
  refine L2.at ?_
  refine wpAny_bind (wpAny_attempt (wpAny_holding ?_))
  have e : (expr && onTheHeap (Value.builtin "list.__getattribute__")) = false := by cases expr <;> rfl
  show wpAny _ _ (if (expr && onTheHeap (Value.builtin "list.__getattribute__")) = true then _ else boundAndCalled _ _ _) _ _ _
  rw [e]
  show wpAny _ _ (boundAndCalled _ _ _) _ _ _
  unfold boundAndCalled
  rw [lga_bind]
  refine wpAny_bind (wpAny_pure ?_)
  show wpAny _ _ (PySem.call (.builtin "list.__getattribute__") [.ref x, .str name t] []) _ _ _
  refine wpAny_call ?_
  refine codeAny_call_builtin lga_plain lga_entry ?_
  refine @check_slot (model pr w) _ _ _ "list.__getattribute__" "list" "__getattribute__" (.ref x) [.str name t] [] _ lga_kind lga_split LI (lga_args (.ref x) (.str name t)) ?_
  unfold Builtin.«object.__getattribute__»
  refine wpAny_bind (wpAny_pure (wpAny_bind (wpAny_pure (wpAny_bind (L0.at (wpAny_bind (L3.at ?_)))))))
  show wpAny _ _ (holding [a] (call g [a, .ref x, .ref 214]) >>= ret) _ _ _
  exact wpAny_bind (wpAny_holding (wpAny_mono h (fun v s' z => wpAny_pure z) fun _ _ z => z.elim))
end
section
variable {w : World} {A : Around} {E : Value → Shared → Prop} {s : Shared} {x dx L fa : Addr} {h₀ : Heap} {m : Str → Option Value} {news : List (Addr × Obj)} {es : List DictEntry} {n : Nat} {ox : Obj} {name : Str}
theorem acc_bound_K {expr : Bool} {Q : Value → Shared → Prop} (F : Fr h₀ L s.heap m) (X₀ : (hd.heap_39 w.params).In h₀) (N : News h₀ L s.heap news) (I : InstAt s.heap x ox 214 (some (dictOf es n)))
    (ha : findIn (hd.heap_39 w.params) (.ref 214) name = some (some (.ref fa))) (hf : isFn (hd.heap_39 w.params) (.ref fa) = true)
    (hgf : specialIn (hd.heap_39 w.params) (.ref fa) "__get__" = some (some (.builtin "function.__get__"))) (ht : takesIn (hd.heap_39 w.params) (.ref fa) = some false) (hc : copiedNames.contains name = false) (hl : getL name es = some none)
    (h : ∀ q h', Fr h₀ L h' m → News h₀ L h' ((q, methodObj (.ref fa) (.ref x)) :: news) → (∀ p ∈ news, p.1 < q) → Q (.ref q) { s with heap := h', toks := s.toks + 1 }) : wpAny (model pr w) A (getAttr (.ref x) name expr) Q E s :=
  acc_getbind (X₀.keeps F.keep) I (findObj_fn (K := hd.heap_39 w.params) (by kernel_rfl) ha hgf ht hc (by show lookIn name (dictOf es n) = _; rw [lookIn_dict, hl]))
    (wpAny_call (fn_get (s := { s with toks := s.toks + 1 }) (X₀.keeps F.keep) (beq_iff_eq.mp hf) (handed_on rfl (h s.heap.objs.size _ (F.push _) (N.push F _) fun p hp => Heap.lt_size (N p hp).1))))
end
/-- the contract of a code -/
noncomputable abbrev ConC (d u : Nat) (w : World) (mean : ExcName → Option Value) (mg mb : Str → Option Value) (f : Addr) (news : List (Addr × Obj)) (vs : List Value) (R : Heap → Addr → (Str → Option Value) → Shared → (Value → Shared → Prop) → Prop) : Prop :=
  ∀ (dp un : Nat) (gd : Option (List Code)) (cn : Str) (cs : Scope) (a : Addr) (ccd : Value) (cl : List (Str × Addr)) (outer : List Env) (A₀ : Around) (base h₀ : Heap) (L : Addr) (m : Str → Option Value) (s : Shared) (Q E : Value → Shared → Prop),
    Below A₀ base outer h₀ → Fr h₀ L s.heap m → (Mine.hd.heap_39 w.params).In h₀ → News h₀ L s.heap news → Top topProg lsV mean mg mb h₀ → cs.kind = .function →
      dp + d < recursionLimit → un + u < cLine → R h₀ L m s Q →
      codeAny (model pr w) (ktrTop dp un gd cn cs L a ccd cl outer) (.call (.ref f) ⟨vs, []⟩) (fun r s' => match r with | .ok (.ret v) => Q v s' | .ok _ => False | .error e => E e s') s
theorem lines_FmS_1 : True := by
  w_top off
  k_with_none
  k_with "m9:room" => ktr_room
  k_with "m9:inst" => (refine' inst_acc ?NQ8 ?h1Q8 ?h2Q8; (case NQ8 => k_asm); (case h1Q8 => k_mem); (case h2Q8 => k_mem))
  k_with "m9:all" => first | (with_reducible assumption) | exact allNe_lt (by assumption)
  k_with "m:eval Name" => dsimp only
  k_with "m:spliced" => dsimp only
  k_with "m:execs cons" => dsimp only
  k_with "m:eval Constant int" => dsimp only
  k_with "m:eval BinOp" => dsimp only
  k_with "m:execs nil" => dsimp only
  k_with "m:eval Call" => dsimp only
  k_with "m:storeName" => dsimp only
  k_with "m:exec Assign" => dsimp only
  k_with "m:callWith" => dsimp only
  k_with "m:eval Subscript" => dsimp only
  k_with "m:eval Call Attribute" => dsimp only
  k_with "m:evalPart none" => dsimp only
  k_with "m:truthy bool" => dsimp only
  k_with "m:callWith ref" => dsimp only
  k_with "m:call ref" => dsimp only
  k_with "m:isTrue Compare" => dsimp only
  k_with "m:getMethod ref" => dsimp only
  k_with "m:exec If" => dsimp only
  k_with "m:exec Return some" => dsimp only
  k_with "m:getAttr ref" => dsimp only
  k_with "m:eval Attribute Name" => dsimp only
  k_with "m:binaryOp Add int int" => dsimp only
  k_with "m:isTrue BoolOp" => dsimp only
  k_with "m:binaryOp Mod int int" => dsimp only
  k_with "m:subscriptTail Name Constant ref int" => dsimp only
  k_with "m:evalPart some" => dsimp only
  k_with "m:eval Slice" => dsimp only
  k_with "m:exec Expr" => dsimp only
  k_with "m:isTrue" => dsimp only
  k_with "m:eval Constant str" => dsimp only
  k_with "m:assignInOrder" => dsimp only
  k_with "m:call builtin:len" => dsimp only
  k_with "m:newTuple" => dsimp only
  k_with "m:eval Tuple" => dsimp only
  k_with "m:eval BoolOp" => dsimp only
  k_with "m:subscriptTail Name Slice str ref" => dsimp only
  k_with "m:getMethod str" => dsimp only
  k_with "m:setAttr ref" => dsimp only
  k_with "m:newList" => dsimp only
  k_with "m:eval List" => dsimp only
  k_with "m:binaryOp Mult int int" => dsimp only
  k_with "m:con_enter" => (refine wpAny_call ?_; k_dflt (first | cell_enter | (refine' code_defC ?k1Q8 ?k2Q8 ?k3Q8 ?k4Q8 ?k5Q8 ?kAQ8 ?kFQ8 ?kKQ8 ?k6Q8 ?k7Q8 ?k8Q8 ?k9Q8 ?kBQ8 ?kDQ8 ?_ ?c2Q8 ?c3Q8 ?c4Q8; (case kAQ8 => exact rfl); (case kFQ8 => exact rfl); (case kKQ8 => assumption); (case k1Q8 => k_asm); (case k2Q8 => k_asm); (case k3Q8 => k_asm); (case k4Q8 => k_asm); (case k5Q8 => k_asm); (case k6Q8 => k_is); (case k7Q8 => k_is); (case k8Q8 => ktr_room); (case k9Q8 => first | exact BindsTo.of_eq rfl | exact binds_K (by k_in) rfl (by k_is) rfl rfl rfl | fail "k_enter: no rule for these arguments"); (case kBQ8 => exact rfl); (case kDQ8 => decide +kernel); (case c2Q8 => exact rfl); (case c3Q8 => exact rfl); (case c4Q8 => exact rfl); k_whole; intro g'Q9 L'Q9 h'Q9 tk'Q9 cells'Q9 FG'Q9 F'Q9 N'Q9 Y'Q9 B'Q9 X'Q9 T'Q9 l1Q9; (try k_lt l1Q9); k_cells Y'Q9; (try simp only [List.cons_append, List.nil_append] at N'Q9); (try dsimp only); (try k_lift B'Q9); (try k_fold))))
  k_with "m:con_enterS" => (refine wpAny_call ?_; k_dflt (refine' code_defS ?k1Q8 ?k2Q8 ?k3Q8 ?k4Q8 ?k5Q8 ?kAQ8 ?kFQ8 ?kKQ8 ?k6Q8 ?k7Q8 ?k8Q8 ?k9Q8 ?kBQ8 ?_ ?c2Q8 ?c3Q8 ?c4Q8 ?c5Q8; (case kAQ8 => exact rfl); (case kFQ8 => exact rfl); (case kKQ8 => first | assumption | exact rfl); (case k1Q8 => k_asm); (case k2Q8 => k_asm); (case k3Q8 => k_asm); (case k4Q8 => k_asm); (case k5Q8 => k_asm); (case k6Q8 => k_is); (case k7Q8 => k_is); (case k8Q8 => ktr_room); (case k9Q8 => first | exact BindsTo.of_eq rfl | exact binds_K (by k_in) rfl (by k_is) rfl rfl rfl); (case c5Q8 => decide); (case kBQ8 => exact locs rfl); (case c2Q8 => exact rfl); (case c3Q8 => exact rfl); (case c4Q8 => exact rfl); k_whole; intro g'Q9 L'Q9 h'Q9 FG'Q9 F'Q9 N'Q9 B'Q9 X'Q9 T'Q9 l1Q9; (try dsimp only); (try k_lift B'Q9); (try k_fold)))
  k_with "m:getAttr ref" => (k_here; k_dflt (refine' acc_getK ?k1Q8 ?k2Q8 ?k3Q8 ?k4Q8 ?k5Q8 ?k6Q8 ?k7Q8 ?_; (case k1Q8 => k_asm); (case k2Q8 => k_asm); (case k3Q8 => k_inst); (case k4Q8 => k_is); (case k5Q8 => k_is); (case k6Q8 => k_get); (case k7Q8 => k_handed); k_whole))
  k_with "m:getMethod ref" => (k_here; k_dflt (refine' acc_methodK ?k1Q8 ?k2Q8 ?k3Q8 ?k4Q8 ?k5Q8 ?k6Q8 ?_; (case k1Q8 => k_asm); (case k2Q8 => k_asm); (case k3Q8 => k_inst); (case k4Q8 => k_is); (case k5Q8 => kernel_rfl); (case k6Q8 => k_get); k_whole))
  k_with "m:getMethod ref" => (k_here; k_dflt (first | (refine' super_init_K ?k1Q8 ?k2Q8 ?k3Q8 ?k4Q8 ?k5Q8 ?_; (case k1Q8 => k_asm); (case k2Q8 => k_asm); (case k3Q8 => k_asm); (case k4Q8 => k_mem); (case k5Q8 => k_inst)) | (refine' super_len_K ?k1Q8 ?k2Q8 ?k3Q8 ?k4Q8 ?k5Q8 ?_; (case k1Q8 => k_asm); (case k2Q8 => k_asm); (case k3Q8 => k_asm); (case k4Q8 => k_mem); (case k5Q8 => k_inst)) | (refine' super_pop_K ?k1Q8 ?k2Q8 ?k3Q8 ?k4Q8 ?k5Q8 ?_; (case k1Q8 => k_asm); (case k2Q8 => k_asm); (case k3Q8 => k_asm); (case k4Q8 => k_mem); (case k5Q8 => k_inst))); k_whole; intro q'Q9 h'Q9 F'Q9 N'Q9 l1Q9; (try k_lt l1Q9); (try k_sweep); (try dsimp only))
  k_with "m:setAttr ref" => (k_here; k_dflt (refine' acc_set ?k1Q8 ?k2Q8 ?k3Q8 ?k4Q8 ?k8Q8 ?k10Q8 ?k11Q8 ?k12Q8 ?k13Q8 ?_; (case k1Q8 => k_asm); (case k2Q8 => k_asm); (case k3Q8 => k_asm); (case k4Q8 => k_inst); (case k8Q8 => k_is); (case k10Q8 => k_get); (case k11Q8 => k_put); (case k12Q8 => k_upd); (case k13Q8 => exact Nat.le_of_ble_eq_true rfl); k_whole; intro h'Q9 F'Q9 N'Q9; (try k_sweep); (try dsimp only)))
  k_with "m:call ref" => (k_here; k_dflt (first | (refine' call_init_K ?k1Q8 ?k2Q8 ?k3Q8 ?k4Q8 ?_; (case k1Q8 => k_asm); (case k2Q8 => k_asm); (case k3Q8 => k_mem); (case k4Q8 => k_upd); k_whole; intro h'Q9 F'Q9 N'Q9; (try k_sweep)) | (refine' call_pop_K ?k1Q8 ?k0Q8 ?k2Q8 ?k3Q8 ?k4Q8 ?k5Q8 ?_; (case k1Q8 => k_asm); (case k0Q8 => k_asm); (case k2Q8 => k_asm); (case k3Q8 => k_mem); (case k4Q8 => k_upd); (case k5Q8 => omega); k_whole; intro h'Q9 F'Q9 N'Q9; (try k_sweep)) | (refine' call_len_K ?k2Q8 ?k3Q8 ?k4Q8 ?_; (case k2Q8 => k_asm); (case k3Q8 => k_mem); (case k4Q8 => k_mem); k_whole)))
  k_with "m:call builtin:list.append" => (k_here; k_dflt (refine' acc_append ?k1Q8 ?k0Q8 ?k2Q8 ?k3Q8 ?zQ8 ?_; (case k1Q8 => k_asm); (case k0Q8 => k_asm); (case k2Q8 => k_asm); (case k3Q8 => k_upd); (case zQ8 => omega); k_whole); intro h'Q9 F'Q9 N'Q9; (try k_sweep))
  k_with "m:acc_super_enter" => k_dflt (refine' ks_code_super ?k1Q8 ?k2Q8 ?k3Q8 ?k4Q8 ?k5Q8 ?kAQ8 ?kFQ8 ?kKQ8 ?k6Q8 ?k7Q8 ?k8Q8 ?k9Q8 ?kBQ8 ?_ ?c1Q8 ?c2Q8 ?c3Q8 ?c4Q8; (case kAQ8 => exact rfl); (case kFQ8 => exact rfl); (case kKQ8 => first | exact rfl | assumption); (case k1Q8 => k_asm); (case k2Q8 => k_asm); (case k3Q8 => k_asm); (case k4Q8 => k_asm); (case k5Q8 => k_asm); (case k6Q8 => k_is); (case k7Q8 => k_is); (case k8Q8 => k_room); (case k9Q8 => first | exact BindsTo.of_eq rfl | exact binds_K (by k_in) rfl (by k_is) rfl rfl rfl); (case kBQ8 => exact locs rfl); (case c1Q8 => decide); (case c2Q8 => exact rfl); (case c3Q8 => exact rfl); (case c4Q8 => exact rfl); intro g'Q9 L'Q9 h'Q9 FG'Q9 F'Q9 N'Q9 B'Q9 X'Q9 T'Q9 l1Q9; (try k_lt l1Q9); (try dsimp only); (try k_lift B'Q9))
  k_with "m:ks_go" => ((try dsimp only); first | refine ks_wpAt_execs_cons ?_ | refine ks_wpAt_Expr_any ?_ | refine ks_wpAt_Return_some ?_ | refine ks_wpAt_MethodCall ?_ | k_dflt (refine ks_node (by k_asm) (by k_asm) (by k_asm) (by k_asm) (by k_is) (by rfl) (by rfl) (by k_inst) (by k_is) (by rfl) (by first | rfl | decide +kernel) (by k_is) (by k_is) (by k_is) (by k_is) (by decide) (by rfl) (by rfl) (by rfl) (by rfl) (by decide +kernel) (by first | boot_by_name | rfl | kernel_rfl) ?_; intro so'Q9 h'Q9 F'Q9 N'Q9 l1Q9; (try k_lt l1Q9); (try dsimp only)))
  k_with "m:callWith ref" => (k_here; (with_reducible show wpAny _ _ (callWith _ (Value.ref _) [] (backTo _ (starEach [] _)) []) _ _ _); k_dflt (first | (refine' callWith_W0 ?k1Q8 ?k2Q8 ?_; (case k1Q8 => k_asm); (case k2Q8 => k_mem)) | (refine' callWith_B0 ?k1Q8 ?k2Q8 ?_; (case k1Q8 => k_asm); (case k2Q8 => k_mem))); k_whole)
  k_with "m:con_enterT" => (k_dflt (refine' code_defS ?k1Q8 ?k2Q8 ?k3Q8 ?k4Q8 ?k5Q8 ?kAQ8 ?kFQ8 ?kKQ8 ?k6Q8 ?k7Q8 ?k8Q8 ?k9Q8 ?kBQ8 ?_ ?c2Q8 ?c3Q8 ?c4Q8 ?c5Q8; (case kAQ8 => exact rfl); (case kFQ8 => exact rfl); (case kKQ8 => first | assumption | exact rfl); (case k1Q8 => k_asm); (case k2Q8 => k_asm); (case k3Q8 => k_asm); (case k4Q8 => k_asm); (case k5Q8 => k_asm); (case k6Q8 => k_is); (case k7Q8 => k_is); (case k8Q8 => ktr_room); (case k9Q8 => first | exact BindsTo.of_eq rfl | exact binds_K (by k_in) rfl (by k_is) rfl rfl rfl); (case c5Q8 => decide); (case kBQ8 => exact locs rfl); (case c2Q8 => exact rfl); (case c3Q8 => exact rfl); (case c4Q8 => exact rfl); k_whole; intro g'Q9 L'Q9 h'Q9 FG'Q9 F'Q9 N'Q9 B'Q9 X'Q9 T'Q9 l1Q9; (try dsimp only); (try k_lift B'Q9); (try k_fold)))
  trivial
theorem acc_pushC (w : World) (mean : ExcName → Option Value) (mg mb : Str → Option Value) (rest : List (Addr × Obj)) (x dx : Addr) (vs : Array Value) (n : Nat) (k : Int) (ti te ta tb : Tok) (a b : Str) (hz : vs.size ≤ 1000) (hx : ∀ p ∈ rest, p.1 ≠ x) (hdx : dx < x) :
    ConC 8 60 w mean mg mb 158 ((x, accObj dx vs n) :: (dx, iniD w k ti te) :: rest) [.ref x, .str a ta, .str b tb] (fun h₀ L m s Q => ∀ t h' tk', (∀ p ∈ rest, p.1 < t) → x < t → dx < t → Fr h₀ L h' m → News h₀ L h' ((x, accObj dx (vs.push (.ref t)) (n + 1)) :: (dx, iniD w k ti te) :: (t, tupO (.str a ta) (.str b tb)) :: rest) → Q .none { s with heap := h', toks := tk' }) := by
  dsimp only [ConC, pr, lsV]; k_fill
  intros; rename_i hret
  walk_at "con_enterT"
  (with_reducible rename ∀ p ∈ _, _ => LL)
  have hdx' := ltN hdx
  k_steps
  (with_reducible rename _ ∧ _ => L1)
  exact hret _ _ _ (allLt_mem L1.2.2) L1.1 L1.2.1 (by assumption) (news_rot (by assumption))
section
variable {w : World} {mean : ExcName → Option Value} {mg mb : Str → Option Value} {f fd ll x dx : Addr} {mx : Int} {T : FT} {ls : List (Str × Tok)} {c : Nat} {parts : List Part} {n : Nat} {k : Int} {ti te : Tok} {ps qs : Array Value} {rest : List (Addr × Obj)}
theorem F_pushC {a b : Str} {ta tb : Tok} (O : FOk f fd ll x dx parts rest) (TT : Tabs ps qs) (hl : parts.length ≤ 98) (la : a.length ≤ 1000) (lb : b.length ≤ 1000) : ConC 8 60 w mean mg mb 158 (AL w x dx parts n k ti te ps qs (FR w f fd ll x mx T ls c rest)) [.ref x, .str a ta, .str b tb]
    (fun h₀ L m s Q => ∀ (t : Addr) (n : Nat) (h' : Heap) (tk' : Nat), FOk f fd ll x dx (parts ++ [(t, (a, ta), (b, tb))]) ((t, tupO (.str a ta) (.str b tb)) :: rest) → Fr h₀ L h' m → News h₀ L h' (AL w x dx (parts ++ [(t, (a, ta), (b, tb))]) n k ti te ps qs (FR w f fd ll x mx T ls c ((t, tupO (.str a ta) (.str b tb)) :: rest))) → Q .none { s with heap := h', toks := tk' }) := by
  intro dp un gd cn cs a ccd cl outer A₀ base h₀ L m s Q E B F X N T hk hd hu hret
  have O' := O.ok (a := W.listOf (linesV ls) c) (b := instObj 130 fd) (c := fmtD w mx ll x ‹FT›)
  refine acc_pushC w mean mg mb ((176, tabObj ps) :: (183, tabObj qs) :: FR w f fd ll x mx _ ls c rest) x dx (refsOf parts) n k ti te ta tb _ _ (by rw [refs_size]; lia) (restNe O' N) O.lt dp un gd cn cs a ccd cl outer A₀ base h₀ L m s Q E B F X N T hk hd hu ?_
  intro t h' tk' h1 h2 h3 F' N'
  refine hret t (n + 1) h' tk' (O.push hl la lb h2) F' ?_
  have := mid4 (rot345 N')
  unfold AL
  rw [refs_snoc]
  exact this
/-- the bound push upon a part's two texts -/
theorem F_pushM {q : Addr} {A : Around} {a b : Str} {ta tb : Tok} {E : Value → Shared → Prop} {s : Shared} {Q : Value → Shared → Prop} (hq : s.heap.get? q = some (methodObj (.ref 158) (.ref x)))
    (h : codeAny (model pr w) A (.call (.ref 158) ⟨[.ref x, .str a ta, .str b tb], []⟩) (fun r s' => match r with | .ok (.ret v) => Q v s' | .ok _ => False | .error e => E e s') s) :
    wpAny (model pr w) A (call (.ref q) ([] ++ [.str a ta, .str b tb])) Q E s :=
  wpAny_call (method_call hq h)
end
end Mine
end
section
open PySem PySem.W PyProof.Rows PySem.Calls Builtin Builtin.ObjectAttr Builtin.Getset_descriptor
set_option Elab.async false
set_option maxRecDepth 100000
set_option maxHeartbeats 400000
namespace Mine
theorem none_FmG : True := by w_top off; k_with_none; trivial
section
variable {w : World} {A : Around} {E : Value → Shared → Prop} {s : Shared} {h₀ : Heap} {L f fd ll x : Addr} {m : Str → Option Value} {news : List (Addr × Obj)} {mx : Int} {T : FT} {expr : Bool} {Q : Value → Shared → Prop}
structure FAttr (w : World) (name : Str) : Prop where
  g : plainGet (hd.heap_39 w.params) 130 name = true
  h : hasDictIn (hd.heap_39 w.params) 130 = true
  a : findIn (hd.heap_39 w.params) (.ref 130) name = some none
theorem fa_cur : FAttr w "_current_line" := ⟨by kernel_rfl, by kernel_rfl, by kernel_rfl⟩
theorem fa_lines : FAttr w "_lines" := ⟨by kernel_rfl, by kernel_rfl, by kernel_rfl⟩
theorem fa_max : FAttr w "_maxlen" := ⟨by kernel_rfl, by kernel_rfl, by kernel_rfl⟩
theorem fa_split : FAttr w "_splitchars" := ⟨by kernel_rfl, by kernel_rfl, by kernel_rfl⟩
theorem F_get_cur (F : Fr h₀ L s.heap m) (X : (hd.heap_39 w.params).In h₀) (N : News h₀ L s.heap news) (h1 : (f, instObj 130 fd) ∈ news) (h2 : (fd, fmtD w mx ll x T) ∈ news) (h : Q (.ref x) { s with toks := s.toks + 1 }) : wpAny (model pr w) A (getAttr (.ref f) (Str.ofString "_current_line") expr) Q E s :=
  get_own F X ⟨(N _ h1).1, rfl, rfl, (N _ h2).1⟩ fa_cur.g fa_cur.h fa_cur.a rfl (by k_get) (by rfl) h
theorem F_get_lines (F : Fr h₀ L s.heap m) (X : (hd.heap_39 w.params).In h₀) (N : News h₀ L s.heap news) (h1 : (f, instObj 130 fd) ∈ news) (h2 : (fd, fmtD w mx ll x T) ∈ news) (h : Q (.ref ll) { s with toks := s.toks + 1 }) : wpAny (model pr w) A (getAttr (.ref f) (Str.ofString "_lines") expr) Q E s :=
  get_own F X ⟨(N _ h1).1, rfl, rfl, (N _ h2).1⟩ fa_lines.g fa_lines.h fa_lines.a rfl (by k_get) (by rfl) h
theorem F_get_max (F : Fr h₀ L s.heap m) (X : (hd.heap_39 w.params).In h₀) (N : News h₀ L s.heap news) (h1 : (f, instObj 130 fd) ∈ news) (h2 : (fd, fmtD w mx ll x T) ∈ news) (h : Q (.int mx T.tb) { s with toks := s.toks + 1 }) : wpAny (model pr w) A (getAttr (.ref f) (Str.ofString "_maxlen") expr) Q E s :=
  get_own F X ⟨(N _ h1).1, rfl, rfl, (N _ h2).1⟩ fa_max.g fa_max.h fa_max.a rfl (by k_get) (by rfl) h
theorem F_get_split (F : Fr h₀ L s.heap m) (X : (hd.heap_39 w.params).In h₀) (N : News h₀ L s.heap news) (h1 : (f, instObj 130 fd) ∈ news) (h2 : (fd, fmtD w mx ll x T) ∈ news) (h : Q (.str " " T.td) { s with toks := s.toks + 1 }) : wpAny (model pr w) A (getAttr (.ref f) (Str.ofString "_splitchars") expr) Q E s :=
  get_own F X ⟨(N _ h1).1, rfl, rfl, (N _ h2).1⟩ fa_split.g fa_split.h fa_split.a rfl (by k_get) (by rfl) h
end
section
variable {w : World} {A : Around} {E : Value → Shared → Prop} {s : Shared} {h₀ : Heap} {L x dx : Addr} {m : Str → Option Value} {news : List (Addr × Obj)} {vs : Array Value} {n : Nat} {es : List DictEntry} {n' : Nat} {pl : Sem Bool} {Q : Value × List Value → Shared → Prop}
structure AMeth (w : World) (name : Str) (a : Addr) : Prop where
  f : findIn (hd.heap_39 w.params) (.ref 214) name = some (some (.ref a))
  t : methTy (typeIn (hd.heap_39 w.params) (.ref a)) = true
theorem am_push : AMeth w "push" 158 := ⟨by kernel_rfl, by kernel_rfl⟩
theorem am_pop_from : AMeth w "pop_from" 166 := ⟨by kernel_rfl, by kernel_rfl⟩
theorem am_pop : AMeth w "pop" 174 := ⟨by kernel_rfl, by kernel_rfl⟩
theorem am_reset : AMeth w "reset" 196 := ⟨by kernel_rfl, by kernel_rfl⟩
theorem am_ws : AMeth w "is_onlyws" 203 := ⟨by kernel_rfl, by kernel_rfl⟩
theorem am_count : AMeth w "part_count" 211 := ⟨by kernel_rfl, by kernel_rfl⟩
theorem A_meth {name : Str} {a : Addr} {k : Int} {ti te : Tok} (C : AMeth w name a) (F : Fr h₀ L s.heap m) (X : (hd.heap_39 w.params).In h₀) (N : News h₀ L s.heap news) (h1 : (x, accObj dx vs n) ∈ news) (h2 : (dx, iniD w k ti te) ∈ news) (hl : ∀ es n, iniD w k ti te = dictOf es n → getL name es = some none)
    (h : Q (.ref a, [.ref x]) s) : wpAny (model pr w) A (getMethod (.ref x) name pl) Q E s :=
  acc_methodK F X (inst_acc N h1 h2) C.f C.t (hl _ _ rfl) h
theorem noIni {k : Int} {ti te : Tok} {name : Str} (hn : getL name [⟨PyData.keyHash w.params "_initial_size", .str "_initial_size" ti, .int k te⟩] = some none) : ∀ es n, iniD w k ti te = dictOf es n → getL name es = some none := by
  intro es n e
  have e1 : (dictOf [⟨PyData.keyHash w.params "_initial_size", .str "_initial_size" ti, .int k te⟩] 1).data = (dictOf es n).data := by rw [← e]
  have e2 : [⟨PyData.keyHash w.params "_initial_size", .str "_initial_size" ti, .int k te⟩] = es := by
    injection e1 with e3 _
    simpa using congrArg Array.toList e3
  rw [← e2]; exact hn
end
theorem refs_at_last {parts : List Part} {p : Part} : (refsOf (parts ++ [p]))[(((parts ++ [p]).length : Int) - 1).toNat]? = some (.ref p.1) := by
  rw [List.length_append, List.length_singleton, show (((parts.length + 1 : Nat) : Int) - 1).toNat = parts.length by lia]
  simp [refsOf]
end Mine
end
section
open PySem PySem.W PyProof.Rows PySem.Calls Builtin Builtin.ObjectAttr Builtin.Getset_descriptor
set_option Elab.async false
set_option maxRecDepth 100000
set_option maxHeartbeats 0
namespace Mine
section
variable {w : World} {mean : ExcName → Option Value} {mg mb : Str → Option Value} {f fd ll x dx : Addr} {mx : Int} {T : FT} {ls : List (Str × Tok)} {c : Nat} {parts : List Part} {n : Nat} {k : Int} {ti te : Tok} {ps qs : Array Value} {rest : List (Addr × Obj)}
theorem A_ws {x dx : Addr} (O : Ok x dx parts rest) (TT : Tabs ps qs) (hk0 : k = 0) (h1 : 0 < lenOf parts) (hsp : Txt.isspace (textOf parts) = false) : ConT 14 90 w mean mg mb (call (.ref 203) [.ref x]) (AL w x dx parts n k ti te ps qs rest) (APost w x dx parts k rest fun t => .bool false) :=
  acc_ws w mean mg mb rest x dx parts n k ti te ps qs O TT hk0 h1 hsp
theorem F_append {A : Around} {E : Value → Shared → Prop} {s : Shared} {h₀ : Heap} {L : Addr} {m : Str → Option Value} {a : Str} {ta : Tok} {Q : Value → Shared → Prop} (O : FOk f fd ll x dx parts rest) (F : Fr h₀ L s.heap m) (N : News h₀ L s.heap (AL w x dx parts n k ti te ps qs (FR w f fd ll x mx T ls c rest))) (hz : ls.length ≤ 1000)
    (h : ∀ h', Fr h₀ L h' m → News h₀ L h' (AL w x dx parts n k ti te ps qs (FR w f fd ll x mx T (ls ++ [(a, ta)]) (c + 1) rest)) → Q .none { s with heap := h' }) : wpAny (model pr w) A (call (.builtin "list.append") [.ref ll, .str a ta]) Q E s := by
  have e0 : (176 : Addr) < ll := lt_nn (show (176 : Nat) < 183 by decide) (lt_nn O.fd0 (lt_nn O.fdf O.fll))
  have e1 : (183 : Addr) < ll := lt_nn O.fd0 (lt_nn O.fdf O.fll)
  refine append_K (its := linesV ls) (n := c) F N (.tail (ne_lt (lt_nn O.lld O.lt)).symm (.tail (ne_lt O.lld).symm (.tail (ne_lt e0) (.tail (ne_lt e1) (.head ?_))))) (fun h' F' N' => h h' F' ?_) (by rw [sizeLine_eq]; simp; omega)
  · intro p hp
    rcases List.mem_cons.mp hp with rfl | hp
    · exact ne_lt O.fll
    rcases List.mem_cons.mp hp with rfl | hp
    · exact ne_lt (lt_nn O.fdf O.fll)
    exact (O.apart p hp).2.2.2.2
  · have e : (linesV ls).push (.str a ta) = linesV (ls ++ [(a, ta)]) := by simp [linesV]
    rw [e] at N'
    exact N'
theorem shaped2 {a b : Str} (ha : PyData.strOk a = true) (hb : PyData.strOk b = true) : SeqAt.shaped (PyData.tuple [.str a, .str b]) = true := by
  simp [SeqAt.shaped, PyData.canLay0, PyData.canLayAll0, PyData.depth, PyData.depthAll, ha, hb]
theorem F_ne {A : Around} {E : Value → Shared → Prop} {s : Shared} {h₀ : Heap} {L p q : Addr} {news : List (Addr × Obj)} {b : Str} {t1 t2 t3 t4 : Tok} {Q : Value → Shared → Prop} (N : News h₀ L s.heap news) (h1 : (p, tupO (.str (Str.ofString " ") t1) (.str b t2)) ∈ news) (h2 : (q, tupO (.str (Str.ofString " ") t3) (.str (Str.ofString "") t4)) ∈ news) (hb : b.length = 1) (hk : PyData.strOk b = true) (hu : A.units + 64 < cLine)
    (h : Q (.bool true) s) : wpAny (model pr w) A (compareOp .NotEq (.ref p) (.ref q)) Q E s := by
  refine ne_dataH (da := .tuple [.str (Str.ofString " "), .str b]) (db := .tuple [.str (Str.ofString " "), .str (Str.ofString "")]) (reads_tuple_at (N _ h1).1 rfl rfl (ReadsAll.cons (Reads.str _ _) (ReadsAll.cons (Reads.str _ _) ReadsAll.nil))) (reads_tuple_at (N _ h2).1 rfl rfl (ReadsAll.cons (Reads.str _ _) (ReadsAll.cons (Reads.str _ _) ReadsAll.nil))) (shaped2 (by decide +kernel) hk) (shaped2 (by decide +kernel) (by decide +kernel)) hu ?_
  have e : (!PyData.eqv (.tuple [.str (Str.ofString " "), .str b]) (.tuple [.str (Str.ofString " "), .str (Str.ofString "")])) = true := by
    have hne : (b == Str.ofString "") = false := by
      rw [beq_eq_false_iff_ne]; intro e; subst e; exact absurd hb (by decide)
    simp only [PyData.eqv, PyData.eqvAll, hne, beq_self_eq_true, Bool.true_and, Bool.and_true, Bool.false_and, Bool.and_false, Bool.not_false]
  rw [e]; exact h
end
noncomputable abbrev bp (tp : Addr) (ta : Tok) (b : Str) (tb : Tok) : Part := (tp, (Str.ofString " ", ta), (b, tb))
structure NlOk (parts : List Part) (ta : Tok) (b : Str) (tb : Tok) (tx : Str) : Prop where
  len : ∀ t : Addr, 0 < lenOf (parts ++ [bp t ta b tb])
  txt : ∀ t : Addr, textOf (parts ++ [bp t ta b tb]) = tx
  ws : Txt.isspace tx = false
  one : b.length = 1
  ok : PyData.strOk b = true
theorem NlOk.sp {parts : List Part} {ta : Tok} {b : Str} {tb : Tok} {tx : Str} (h : NlOk parts ta b tb tx) (t : Addr) : Txt.isspace (textOf (parts ++ [bp t ta b tb])) = false := by rw [h.txt]; exact h.ws
noncomputable abbrev NewlineR (w : World) (f fd ll x dx : Addr) (mx : Int) (T : FT) (ls : List (Str × Tok)) (tx : Str) (rest : List (Addr × Obj)) : Heap → Addr → (Str → Option Value) → Shared → (Value → Shared → Prop) → Prop :=
  fun h₀ L m s Q => ∀ (rest' : List (Addr × Obj)) (tt : Tok) (n c : Nat) (ti te : Tok) (ps qs : Array Value) (h' : Heap) (g' : Array GenState) (d' : Drawn) (tk' : Nat), Tabs ps qs → FOk f fd ll x dx [] rest' → (∀ q ∈ rest, q ∈ rest') →
    Fr h₀ L h' m → News h₀ L h' (AL w x dx [] n 0 ti te ps qs (FR w f fd ll x mx T (ls ++ [(tx, tt)]) c rest')) → AllBare g' → Q .none ⟨h', g', d', tk', s.os⟩
theorem lines_FmD_1 : True := by
  w_top off
  k_with_none
  k_with "m9:room" => ktr_room
  k_with "m9:inst" => (refine' inst_acc ?NQ8 ?h1Q8 ?h2Q8; (case NQ8 => k_asm); (case h1Q8 => k_mem); (case h2Q8 => k_mem))
  k_with "m9:all" => first | (with_reducible assumption) | exact allNe_lt (by assumption)
  k_with "m9:mem" => first | exact List.Mem.head _ | (refine' List.Mem.tail _ ?_; k_mem) | assumption
  k_with "m:eval Name" => dsimp only
  k_with "m:spliced" => dsimp only
  k_with "m:execs cons" => dsimp only
  k_with "m:eval Constant int" => dsimp only
  k_with "m:eval BinOp" => dsimp only
  k_with "m:execs nil" => dsimp only
  k_with "m:eval Call" => dsimp only
  k_with "m:storeName" => dsimp only
  k_with "m:exec Assign" => dsimp only
  k_with "m:callWith" => dsimp only
  k_with "m:eval Subscript" => dsimp only
  k_with "m:eval Call Attribute" => dsimp only
  k_with "m:evalPart none" => dsimp only
  k_with "m:truthy bool" => dsimp only
  k_with "m:callWith ref" => dsimp only
  k_with "m:call ref" => dsimp only
  k_with "m:isTrue Compare" => dsimp only
  k_with "m:getMethod ref" => dsimp only
  k_with "m:exec If" => dsimp only
  k_with "m:exec Return some" => dsimp only
  k_with "m:getAttr ref" => dsimp only
  k_with "m:eval Attribute Name" => dsimp only
  k_with "m:binaryOp Add int int" => dsimp only
  k_with "m:isTrue BoolOp" => dsimp only
  k_with "m:binaryOp Mod int int" => dsimp only
  k_with "m:subscriptTail Name Constant ref int" => dsimp only
  k_with "m:evalPart some" => dsimp only
  k_with "m:eval Slice" => dsimp only
  k_with "m:exec Expr" => dsimp only
  k_with "m:isTrue" => dsimp only
  k_with "m:eval Constant str" => dsimp only
  k_with "m:assignInOrder" => dsimp only
  k_with "m:call builtin:len" => dsimp only
  k_with "m:newTuple" => dsimp only
  k_with "m:eval Tuple" => dsimp only
  k_with "m:eval BoolOp" => dsimp only
  k_with "m:subscriptTail Name Slice str ref" => dsimp only
  k_with "m:getMethod str" => dsimp only
  k_with "m:setAttr ref" => dsimp only
  k_with "m:newList" => dsimp only
  k_with "m:eval List" => dsimp only
  k_with "m:binaryOp Mult int int" => dsimp only
  k_with "m:con_enter" => (refine wpAny_call ?_; k_dflt (first | cell_enter | (refine' code_defC ?k1Q8 ?k2Q8 ?k3Q8 ?k4Q8 ?k5Q8 ?kAQ8 ?kFQ8 ?kKQ8 ?k6Q8 ?k7Q8 ?k8Q8 ?k9Q8 ?kBQ8 ?kDQ8 ?_ ?c2Q8 ?c3Q8 ?c4Q8; (case kAQ8 => exact rfl); (case kFQ8 => exact rfl); (case kKQ8 => assumption); (case k1Q8 => k_asm); (case k2Q8 => k_asm); (case k3Q8 => k_asm); (case k4Q8 => k_asm); (case k5Q8 => k_asm); (case k6Q8 => k_is); (case k7Q8 => k_is); (case k8Q8 => ktr_room); (case k9Q8 => first | exact BindsTo.of_eq rfl | exact binds_K (by k_in) rfl (by k_is) rfl rfl rfl | fail "k_enter: no rule for these arguments"); (case kBQ8 => exact rfl); (case kDQ8 => decide +kernel); (case c2Q8 => exact rfl); (case c3Q8 => exact rfl); (case c4Q8 => exact rfl); k_whole; intro g'Q9 L'Q9 h'Q9 tk'Q9 cells'Q9 FG'Q9 F'Q9 N'Q9 Y'Q9 B'Q9 X'Q9 T'Q9 l1Q9; (try k_lt l1Q9); k_cells Y'Q9; (try simp only [List.cons_append, List.nil_append] at N'Q9); (try dsimp only); (try k_lift B'Q9); (try k_fold))))
  k_with "m:con_enterS" => (refine wpAny_call ?_; k_dflt (refine' code_defS ?k1Q8 ?k2Q8 ?k3Q8 ?k4Q8 ?k5Q8 ?kAQ8 ?kFQ8 ?kKQ8 ?k6Q8 ?k7Q8 ?k8Q8 ?k9Q8 ?kBQ8 ?_ ?c2Q8 ?c3Q8 ?c4Q8 ?c5Q8; (case kAQ8 => exact rfl); (case kFQ8 => exact rfl); (case kKQ8 => first | assumption | exact rfl); (case k1Q8 => k_asm); (case k2Q8 => k_asm); (case k3Q8 => k_asm); (case k4Q8 => k_asm); (case k5Q8 => k_asm); (case k6Q8 => k_is); (case k7Q8 => k_is); (case k8Q8 => ktr_room); (case k9Q8 => first | exact BindsTo.of_eq rfl | exact binds_K (by k_in) rfl (by k_is) rfl rfl rfl); (case c5Q8 => decide); (case kBQ8 => exact locs rfl); (case c2Q8 => exact rfl); (case c3Q8 => exact rfl); (case c4Q8 => exact rfl); k_whole; intro g'Q9 L'Q9 h'Q9 FG'Q9 F'Q9 N'Q9 B'Q9 X'Q9 T'Q9 l1Q9; (try dsimp only); (try k_lift B'Q9); (try k_fold)))
  k_with "m:con_enterT" => (k_dflt (refine' code_defS ?k1Q8 ?k2Q8 ?k3Q8 ?k4Q8 ?k5Q8 ?kAQ8 ?kFQ8 ?kKQ8 ?k6Q8 ?k7Q8 ?k8Q8 ?k9Q8 ?kBQ8 ?_ ?c2Q8 ?c3Q8 ?c4Q8 ?c5Q8; (case kAQ8 => exact rfl); (case kFQ8 => exact rfl); (case kKQ8 => first | assumption | exact rfl); (case k1Q8 => k_asm); (case k2Q8 => k_asm); (case k3Q8 => k_asm); (case k4Q8 => k_asm); (case k5Q8 => k_asm); (case k6Q8 => k_is); (case k7Q8 => k_is); (case k8Q8 => ktr_room); (case k9Q8 => first | exact BindsTo.of_eq rfl | exact binds_K (by k_in) rfl (by k_is) rfl rfl rfl); (case c5Q8 => decide); (case kBQ8 => exact locs rfl); (case c2Q8 => exact rfl); (case c3Q8 => exact rfl); (case c4Q8 => exact rfl); k_whole; intro g'Q9 L'Q9 h'Q9 FG'Q9 F'Q9 N'Q9 B'Q9 X'Q9 T'Q9 l1Q9; (try dsimp only); (try k_lift B'Q9); (try k_fold)))
  k_with "m:call builtin:str.isspace" => (k_here; k_dflt (refine' KXw.isspace rfl ?_))
  k_with "m:call ref" => (k_here; k_dflt (first | (refine' F_push ?hOQ8 ?hTQ8 ?a1Q8 ?a2Q8 ?a3Q8 _ _ _ _ _ _ _ _ _ _ _ _ _ _ _ _ _ ?k1Q8 ?k2Q8 ?k3Q8 ?k4Q8 ?k5Q8 ?kKQ8 ?kGQ8 ?kdQ8 ?kuQ8 ?_; (case k1Q8 => k_asm); (case k2Q8 => k_asm); (case k3Q8 => k_asm); (case k4Q8 => first | k_asm | exact news_drop1 (by k_asm) | exact news_drop2 (by k_asm) | exact news_drop1 (news_drop2 (by k_asm))); (case k5Q8 => k_asm); (case kKQ8 => first | exact rfl | assumption); (case kGQ8 => k_asm); (case kdQ8 => ktr_room); (case kuQ8 => first | ktr_units | (rw [tc_units]; dsimp only [ktrTop]; (first | (law_clear; lia) | omega))); (case hOQ8 => assumption); (case hTQ8 => assumption); (case a1Q8 => first | assumption | (first | (law_clear; lia) | omega) | decide); (case a2Q8 => first | assumption | (first | (law_clear; lia) | omega) | decide); (case a3Q8 => first | assumption | (first | (law_clear; lia) | omega) | decide); k_whole; intro t'Q9 n'Q9 h'Q9 tk'Q9 O'Q9 F'Q9 N'Q9; (try k_sweep); (try dsimp only)) | (refine' F_pop ?hOQ8 ?hTQ8 _ _ _ _ _ _ _ _ _ _ _ _ _ _ _ _ _ ?k1Q8 ?k2Q8 ?k3Q8 ?k4Q8 ?k5Q8 ?kKQ8 ?kGQ8 ?kdQ8 ?kuQ8 ?_; (case k1Q8 => k_asm); (case k2Q8 => k_asm); (case k3Q8 => k_asm); (case k4Q8 => first | k_asm | exact news_drop1 (by k_asm) | exact news_drop2 (by k_asm) | exact news_drop1 (news_drop2 (by k_asm))); (case k5Q8 => k_asm); (case kKQ8 => first | exact rfl | assumption); (case kGQ8 => k_asm); (case kdQ8 => ktr_room); (case kuQ8 => first | ktr_units | (rw [tc_units]; dsimp only [ktrTop]; (first | (law_clear; lia) | omega))); (case hOQ8 => assumption); (case hTQ8 => assumption); k_whole; intro n'Q9 h'Q9 tk'Q9 O'Q9 F'Q9 N'Q9; (try k_sweep); (try dsimp only)) | (refine' F_cut ?hOQ8 ?hTQ8 ?a1Q8 _ _ _ _ _ _ _ _ _ _ _ _ _ _ _ _ _ ?k1Q8 ?k2Q8 ?k3Q8 ?k4Q8 ?k5Q8 ?kKQ8 ?kGQ8 ?kdQ8 ?kuQ8 ?_; (case k1Q8 => k_asm); (case k2Q8 => k_asm); (case k3Q8 => k_asm); (case k4Q8 => first | k_asm | exact news_drop1 (by k_asm) | exact news_drop2 (by k_asm) | exact news_drop1 (news_drop2 (by k_asm))); (case k5Q8 => k_asm); (case kKQ8 => first | exact rfl | assumption); (case kGQ8 => k_asm); (case kdQ8 => ktr_room); (case kuQ8 => first | ktr_units | (rw [tc_units]; dsimp only [ktrTop]; (first | (law_clear; lia) | omega))); (case hOQ8 => assumption); (case hTQ8 => assumption); (case a1Q8 => first | assumption | (first | (law_clear; lia) | omega) | decide); k_whole; intro l'Q9 n'Q9 h'Q9 tk'Q9 O1'Q9 O2'Q9 F'Q9 N'Q9; (try k_sweep); (try dsimp only)) | (refine' F_reset ?hOQ8 ?hTQ8 ?a1Q8 ?a2Q8 _ _ _ _ _ _ _ _ _ _ _ _ _ _ _ _ _ ?k1Q8 ?k2Q8 ?k3Q8 ?k4Q8 ?k5Q8 ?kKQ8 ?kGQ8 ?kdQ8 ?kuQ8 ?_; (case k1Q8 => k_asm); (case k2Q8 => k_asm); (case k3Q8 => k_asm); (case k4Q8 => first | k_asm | exact news_drop1 (by k_asm) | exact news_drop2 (by k_asm) | exact news_drop1 (news_drop2 (by k_asm))); (case k5Q8 => k_asm); (case kKQ8 => first | exact rfl | assumption); (case kGQ8 => k_asm); (case kdQ8 => ktr_room); (case kuQ8 => first | ktr_units | (rw [tc_units]; dsimp only [ktrTop]; (first | (law_clear; lia) | omega))); (case hOQ8 => assumption); (case hTQ8 => assumption); (case a1Q8 => k_mem); (case a2Q8 => assumption); k_whole; intro n'Q9 ti'Q9 te'Q9 h'Q9 tk'Q9 F'Q9 N'Q9; (try k_sweep); (try dsimp only)) | (refine' A_resetN ?hOQ8 ?hTQ8 _ _ _ _ _ _ _ _ _ _ _ _ _ _ _ _ _ ?k1Q8 ?k2Q8 ?k3Q8 ?k4Q8 ?k5Q8 ?kKQ8 ?kGQ8 ?kdQ8 ?kuQ8 ?_; (case k1Q8 => k_asm); (case k2Q8 => k_asm); (case k3Q8 => k_asm); (case k4Q8 => first | k_asm | exact news_drop1 (by k_asm) | exact news_drop2 (by k_asm) | exact news_drop1 (news_drop2 (by k_asm))); (case k5Q8 => k_asm); (case kKQ8 => first | exact rfl | assumption); (case kGQ8 => k_asm); (case kdQ8 => ktr_room); (case kuQ8 => first | ktr_units | (rw [tc_units]; dsimp only [ktrTop]; (first | (law_clear; lia) | omega))); (case hOQ8 => exact FOk.ok (by assumption)); (case hTQ8 => assumption); k_whole; intro n'Q9 ti'Q9 te'Q9 h'Q9 tk'Q9 F'Q9 N'Q9; (try k_sweep); (try dsimp only)) | (refine' A_ws ?hOQ8 ?hTQ8 ?a1Q8 ?a2Q8 ?a3Q8 _ _ _ _ _ _ _ _ _ _ _ _ _ _ _ _ _ ?k1Q8 ?k2Q8 ?k3Q8 ?k4Q8 ?k5Q8 ?kKQ8 ?kGQ8 ?kdQ8 ?kuQ8 ?_; (case k1Q8 => k_asm); (case k2Q8 => k_asm); (case k3Q8 => k_asm); (case k4Q8 => first | k_asm | exact news_drop1 (by k_asm) | exact news_drop2 (by k_asm) | exact news_drop1 (news_drop2 (by k_asm))); (case k5Q8 => k_asm); (case kKQ8 => first | exact rfl | assumption); (case kGQ8 => k_asm); (case kdQ8 => ktr_room); (case kuQ8 => first | ktr_units | (rw [tc_units]; dsimp only [ktrTop]; (first | (law_clear; lia) | omega))); (case hOQ8 => exact FOk.ok (by assumption)); (case hTQ8 => assumption); (case a1Q8 => first | rfl | (first | (law_clear; lia) | omega) | assumption); (case a2Q8 => exact NlOk.len (by assumption) _); (case a3Q8 => exact NlOk.sp (by assumption) _); k_whole; intro t'Q9 n'Q9 ti'Q9 te'Q9 ps'Q9 qs'Q9 h'Q9 g'Q9 d'Q9 tk'Q9 TT'Q9 F'Q9 N'Q9 G'Q9; (try k_sweep); (try dsimp only)) | (refine' A_count ?hOQ8 ?hTQ8 _ _ _ _ _ _ _ _ _ _ _ _ _ _ _ _ _ ?k1Q8 ?k2Q8 ?k3Q8 ?k4Q8 ?k5Q8 ?kKQ8 ?kGQ8 ?kdQ8 ?kuQ8 ?_; (case k1Q8 => k_asm); (case k2Q8 => k_asm); (case k3Q8 => k_asm); (case k4Q8 => first | k_asm | exact news_drop1 (by k_asm) | exact news_drop2 (by k_asm) | exact news_drop1 (news_drop2 (by k_asm))); (case k5Q8 => k_asm); (case kKQ8 => first | exact rfl | assumption); (case kGQ8 => k_asm); (case kdQ8 => ktr_room); (case kuQ8 => first | ktr_units | (rw [tc_units]; dsimp only [ktrTop]; (first | (law_clear; lia) | omega))); (case hOQ8 => exact FOk.ok (by assumption)); (case hTQ8 => assumption); k_whole; intro t'Q9 h'Q9 tk'Q9 F'Q9 N'Q9; (try k_sweep); (try dsimp only))))
  k_with "m:call builtin:len" => (k_here; k_dflt (first | (refine' A_len ?hOQ8 ?hTQ8 ?h0Q8 ?h1Q8 _ _ _ _ _ _ _ _ _ _ _ _ _ _ _ _ _ ?k1Q8 ?k2Q8 ?k3Q8 ?k4Q8 ?k5Q8 ?kKQ8 ?kGQ8 ?kdQ8 ?kuQ8 ?_; (case k1Q8 => k_asm); (case k2Q8 => k_asm); (case k3Q8 => k_asm); (case k4Q8 => first | k_asm | exact news_drop1 (by k_asm) | exact news_drop2 (by k_asm) | exact news_drop1 (news_drop2 (by k_asm))); (case k5Q8 => k_asm); (case kKQ8 => first | exact rfl | assumption); (case kGQ8 => k_asm); (case kdQ8 => ktr_room); (case kuQ8 => first | ktr_units | (rw [tc_units]; dsimp only [ktrTop]; (first | (law_clear; lia) | omega))); (case hOQ8 => exact FOk.ok (by assumption)); (case hTQ8 => assumption); (case h0Q8 => first | (first | (law_clear; lia) | omega) | decide); (case h1Q8 => first | (first | (law_clear; lia) | omega) | decide); k_whole; intro t'Q9 n'Q9 ti'Q9 te'Q9 ps'Q9 qs'Q9 h'Q9 g'Q9 d'Q9 tk'Q9 TT'Q9 F'Q9 N'Q9 G'Q9; (try k_sweep); (try dsimp only))))
  k_with "m:call type:str" => (k_here; k_dflt (first | (refine' A_str ?hOQ8 ?hTQ8 _ _ _ _ _ _ _ _ _ _ _ _ _ _ _ _ _ ?k1Q8 ?k2Q8 ?k3Q8 ?k4Q8 ?k5Q8 ?kKQ8 ?kGQ8 ?kdQ8 ?kuQ8 ?_; (case k1Q8 => k_asm); (case k2Q8 => k_asm); (case k3Q8 => k_asm); (case k4Q8 => first | k_asm | exact news_drop1 (by k_asm) | exact news_drop2 (by k_asm) | exact news_drop1 (news_drop2 (by k_asm))); (case k5Q8 => k_asm); (case kKQ8 => first | exact rfl | assumption); (case kGQ8 => k_asm); (case kdQ8 => ktr_room); (case kuQ8 => first | ktr_units | (rw [tc_units]; dsimp only [ktrTop]; (first | (law_clear; lia) | omega))); (case hOQ8 => exact FOk.ok (by assumption)); (case hTQ8 => assumption); k_whole; intro t'Q9 n'Q9 ti'Q9 te'Q9 ps'Q9 qs'Q9 h'Q9 g'Q9 d'Q9 tk'Q9 TT'Q9 F'Q9 N'Q9 G'Q9; (try k_sweep); (try dsimp only))))
  k_with "m:truthy ref" => (k_here; k_dflt (first | (refine' A_truthy ?hOQ8 ?hTQ8 ?h0Q8 ?h1Q8 _ _ _ _ _ _ _ _ _ _ _ _ _ _ _ _ _ ?k1Q8 ?k2Q8 ?k3Q8 ?k4Q8 ?k5Q8 ?kKQ8 ?kGQ8 ?kdQ8 ?kuQ8 ?_; (case k1Q8 => k_asm); (case k2Q8 => k_asm); (case k3Q8 => k_asm); (case k4Q8 => first | k_asm | exact news_drop1 (by k_asm) | exact news_drop2 (by k_asm) | exact news_drop1 (news_drop2 (by k_asm))); (case k5Q8 => k_asm); (case kKQ8 => first | exact rfl | assumption); (case kGQ8 => k_asm); (case kdQ8 => ktr_room); (case kuQ8 => first | ktr_units | (rw [tc_units]; dsimp only [ktrTop]; (first | (law_clear; lia) | omega))); (case hOQ8 => exact FOk.ok (by assumption)); (case hTQ8 => assumption); (case h0Q8 => first | (first | (law_clear; lia) | omega) | decide); (case h1Q8 => first | (first | (law_clear; lia) | omega) | decide); k_whole; intro t'Q9 n'Q9 ti'Q9 te'Q9 ps'Q9 qs'Q9 h'Q9 g'Q9 d'Q9 tk'Q9 TT'Q9 F'Q9 N'Q9 G'Q9; (try k_sweep); (try dsimp only))))
  k_with "m:call builtin:list.append" => (k_here; k_dflt (refine' F_append ?hOQ8 ?k1Q8 ?k2Q8 ?zQ8 ?_; (case k1Q8 => k_asm); (case k2Q8 => k_asm); (case hOQ8 => assumption); (case zQ8 => first | assumption | (first | (law_clear; lia) | omega)); k_whole); intro h'Q9 F'Q9 N'Q9; (try k_sweep))
  k_with "m:subscriptTail" => (k_here; k_dflt (refine' acc_getint_K ?k1Q8 ?k2Q8 ?k3Q8 ?k4Q8 ?k5Q8 ?k6Q8 ?k7Q8 ?k8Q8 ?_; (case k1Q8 => k_asm); (case k2Q8 => k_asm); (case k3Q8 => k_asm); (case k4Q8 => k_mem); (case k5Q8 => (first | (law_clear; lia) | omega)); (case k6Q8 => (first | (law_clear; lia) | omega)); (case k7Q8 => first | assumption | exact refs_at_last); (case k8Q8 => with_unfolding_all rfl); k_whole))
  k_with "m:getAttr ref" => (k_here; (with_reducible show wpAny _ _ (getAttr (Value.ref _) (PySem.Str.ofString "_current_line") _) _ _ _); k_dflt (refine' F_get_cur ?k1Q8 ?k2Q8 ?k3Q8 ?k4Q8 ?k5Q8 ?_; (case k1Q8 => k_asm); (case k2Q8 => k_asm); (case k3Q8 => k_asm); (case k4Q8 => k_mem); (case k5Q8 => k_mem); k_whole))
  k_with "m:getAttr ref" => (k_here; (with_reducible show wpAny _ _ (getAttr (Value.ref _) (PySem.Str.ofString "_lines") _) _ _ _); k_dflt (refine' F_get_lines ?k1Q8 ?k2Q8 ?k3Q8 ?k4Q8 ?k5Q8 ?_; (case k1Q8 => k_asm); (case k2Q8 => k_asm); (case k3Q8 => k_asm); (case k4Q8 => k_mem); (case k5Q8 => k_mem); k_whole))
  k_with "m:getAttr ref" => (k_here; (with_reducible show wpAny _ _ (getAttr (Value.ref _) (PySem.Str.ofString "_maxlen") _) _ _ _); k_dflt (refine' F_get_max ?k1Q8 ?k2Q8 ?k3Q8 ?k4Q8 ?k5Q8 ?_; (case k1Q8 => k_asm); (case k2Q8 => k_asm); (case k3Q8 => k_asm); (case k4Q8 => k_mem); (case k5Q8 => k_mem); k_whole))
  k_with "m:getAttr ref" => (k_here; (with_reducible show wpAny _ _ (getAttr (Value.ref _) (PySem.Str.ofString "_splitchars") _) _ _ _); k_dflt (refine' F_get_split ?k1Q8 ?k2Q8 ?k3Q8 ?k4Q8 ?k5Q8 ?_; (case k1Q8 => k_asm); (case k2Q8 => k_asm); (case k3Q8 => k_asm); (case k4Q8 => k_mem); (case k5Q8 => k_mem); k_whole))
  k_with "m:getMethod ref" => (k_here; (with_reducible show wpAny _ _ (getMethod (Value.ref _) (PySem.Str.ofString "push") _) _ _ _); k_dflt (refine' A_meth am_push ?k1Q8 ?k2Q8 ?k3Q8 ?k4Q8 ?k5Q8 ?k6Q8 ?_; (case k1Q8 => k_asm); (case k2Q8 => k_asm); (case k3Q8 => k_asm); (case k4Q8 => k_mem); (case k5Q8 => k_mem); (case k6Q8 => exact noIni (by k_get)); k_whole))
  k_with "m:getMethod ref" => (k_here; (with_reducible show wpAny _ _ (getMethod (Value.ref _) (PySem.Str.ofString "pop_from") _) _ _ _); k_dflt (refine' A_meth am_pop_from ?k1Q8 ?k2Q8 ?k3Q8 ?k4Q8 ?k5Q8 ?k6Q8 ?_; (case k1Q8 => k_asm); (case k2Q8 => k_asm); (case k3Q8 => k_asm); (case k4Q8 => k_mem); (case k5Q8 => k_mem); (case k6Q8 => exact noIni (by k_get)); k_whole))
  k_with "m:getMethod ref" => (k_here; (with_reducible show wpAny _ _ (getMethod (Value.ref _) (PySem.Str.ofString "pop") _) _ _ _); k_dflt (refine' A_meth am_pop ?k1Q8 ?k2Q8 ?k3Q8 ?k4Q8 ?k5Q8 ?k6Q8 ?_; (case k1Q8 => k_asm); (case k2Q8 => k_asm); (case k3Q8 => k_asm); (case k4Q8 => k_mem); (case k5Q8 => k_mem); (case k6Q8 => exact noIni (by k_get)); k_whole))
  k_with "m:getMethod ref" => (k_here; (with_reducible show wpAny _ _ (getMethod (Value.ref _) (PySem.Str.ofString "reset") _) _ _ _); k_dflt (refine' A_meth am_reset ?k1Q8 ?k2Q8 ?k3Q8 ?k4Q8 ?k5Q8 ?k6Q8 ?_; (case k1Q8 => k_asm); (case k2Q8 => k_asm); (case k3Q8 => k_asm); (case k4Q8 => k_mem); (case k5Q8 => k_mem); (case k6Q8 => exact noIni (by k_get)); k_whole))
  k_with "m:getMethod ref" => (k_here; (with_reducible show wpAny _ _ (getMethod (Value.ref _) (PySem.Str.ofString "is_onlyws") _) _ _ _); k_dflt (refine' A_meth am_ws ?k1Q8 ?k2Q8 ?k3Q8 ?k4Q8 ?k5Q8 ?k6Q8 ?_; (case k1Q8 => k_asm); (case k2Q8 => k_asm); (case k3Q8 => k_asm); (case k4Q8 => k_mem); (case k5Q8 => k_mem); (case k6Q8 => exact noIni (by k_get)); k_whole))
  k_with "m:getMethod ref" => (k_here; (with_reducible show wpAny _ _ (getMethod (Value.ref _) (PySem.Str.ofString "part_count") _) _ _ _); k_dflt (refine' A_meth am_count ?k1Q8 ?k2Q8 ?k3Q8 ?k4Q8 ?k5Q8 ?k6Q8 ?_; (case k1Q8 => k_asm); (case k2Q8 => k_asm); (case k3Q8 => k_asm); (case k4Q8 => k_mem); (case k5Q8 => k_mem); (case k6Q8 => exact noIni (by k_get)); k_whole))
  k_with "m:compareOp NotEq ref ref" => (k_here; k_dflt (refine' F_ne ?k1Q8 ?k2Q8 ?k3Q8 ?k4Q8 ?kkQ8 ?k5Q8 ?_; (case k1Q8 => k_asm); (case k2Q8 => k_mem); (case k3Q8 => k_mem); (case k4Q8 => assumption); (case kkQ8 => assumption); (case k5Q8 => ktr_units); k_whole))
  k_with "m:eval Call Attribute" => (k_here; (with_reducible show wpAny _ _ (eval (Expr.Call (Expr.Attribute _ _ _) [Expr.Starred _ _] _ _) _) _ _ _); refine MethodStar ?_)
  k_with "m:callWith ref" => (k_here; (with_reducible show wpAny _ _ (callWith _ (Value.ref _) _ (backTo _ (starEach [Expr.Starred _ _] _)) []) _ _ _); k_dflt (refine' callWith_MS ?k1Q8 ?k2Q8 ?k3Q8 ?k4Q8 ?_; (case k1Q8 => k_asm); (case k2Q8 => k_asm); (case k3Q8 => k_mem); (case k4Q8 => k_is); k_whole))
  k_with "m:getAttr ref" => (k_here; (with_reducible show wpAny _ _ (getAttr (Value.ref _) (PySem.Str.ofString "push") _) _ _ _); k_dflt (refine' acc_bound_K ?k1Q8 ?k2Q8 ?k3Q8 ?kIQ8 ?k4Q8 ?k5Q8 ?k6Q8 ?k7Q8 ?k8Q8 ?k9Q8 ?_; (case k1Q8 => k_asm); (case k2Q8 => k_asm); (case k3Q8 => k_asm); (case kIQ8 => k_inst); (case k4Q8 => k_is); (case k5Q8 => k_is); (case k6Q8 => k_is); (case k7Q8 => k_is); (case k8Q8 => decide +kernel); (case k9Q8 => k_get); k_whole; intro q'Q9 h'Q9 F'Q9 N'Q9 l1Q9; (try k_lt l1Q9); (try k_sweep); (try dsimp only)))
  k_with "m:call ref" => (k_here; k_dflt (refine' F_pushM ?hqQ8 ?_; (case hqQ8 => exact (News.get (by k_asm) (by k_mem))); (refine' F_pushC ?hOQ8 ?hTQ8 ?a1Q8 ?a2Q8 ?a3Q8 _ _ _ _ _ _ _ _ _ _ _ _ _ _ _ _ _ ?k1Q8 ?k2Q8 ?k3Q8 ?k4Q8 ?k5Q8 ?kKQ8 ?kdQ8 ?kuQ8 ?_; (case k1Q8 => k_asm); (case k2Q8 => k_asm); (case k3Q8 => k_asm); (case k4Q8 => first | k_asm | exact news_drop1 (by k_asm) | exact news_drop2 (by k_asm) | exact news_drop1 (news_drop2 (by k_asm))); (case k5Q8 => k_asm); (case kKQ8 => first | exact rfl | assumption); (case kdQ8 => ktr_room); (case kuQ8 => first | ktr_units | (rw [tc_units]; dsimp only [ktrTop]; (first | (law_clear; lia) | omega))); (case hOQ8 => assumption); (case hTQ8 => assumption); (case a1Q8 => first | assumption | (first | (law_clear; lia) | omega) | decide); (case a2Q8 => first | assumption | (first | (law_clear; lia) | omega) | decide); (case a3Q8 => first | assumption | (first | (law_clear; lia) | omega) | decide); k_whole; intro t'Q9 n'Q9 h'Q9 tk'Q9 O'Q9 F'Q9 N'Q9; (try (have hLen9Q9 := NlOk.len (by assumption) t'Q9)); (try k_sweep); (try dsimp only))))
  trivial
theorem fmt_newline (w : World) (mean : ExcName → Option Value) (mg mb : Str → Option Value) (f fd ll x dx : Addr) (mx : Int) (T : FT) (ls : List (Str × Tok)) (c : Nat) (parts : List Part) (tp : Addr) (b tx : Str) (ta tb : Tok) (n : Nat) (ti te : Tok) (ps qs : Array Value) (rest : List (Addr × Obj))
    (O : FOk f fd ll x dx (parts ++ [bp tp ta b tb]) rest) (TT : Tabs ps qs) (hN : NlOk parts ta b tb tx) (hz : ls.length ≤ 900) :
    ConG 24 150 w mean mg mb 92 (AL w x dx (parts ++ [bp tp ta b tb]) n 0 ti te ps qs (FR w f fd ll x mx T ls c rest)) [.ref f] (NewlineR w f fd ll x dx mx T ls tx rest) := by
  dsimp only [ConG, NewlineR, pr, lsV]; k_fill
  intros; rename_i hret
  have hlp : parts.length ≤ 98 := by have := O.len; simp at this; omega
  have hmem := O.pin _ (List.mem_append_right parts (List.mem_singleton.mpr rfl))
  have hb := hN.one
  have hk := hN.ok
  dsimp only at hmem
  walk_at "con_enter"
  k_steps
  all_goals (with_reducible rename Fr _ _ _ _ => FF)
  all_goals (with_reducible rename News _ _ _ _ => NN)
  all_goals (with_reducible rename FOk _ _ _ _ _ (_ ++ [_]) _ => OO)
  all_goals (with_reducible rename 0 < lenOf _ => LL)
  --T
  · rw [hN.txt] at NN
    exact hret _ _ _ _ _ _ _ _ _ _ _ _ (by assumption) OO.none (fun q hq => .tail _ hq) FF NN (by assumption)
  · (with_reducible rename ¬ _ => z)
    exact absurd LL (by simpa using z)
end Mine
end
section
open PySem PySem.W PyProof.Rows PySem.Calls Builtin Builtin.ObjectAttr Builtin.Getset_descriptor
set_option Elab.async false
set_option maxRecDepth 100000
set_option maxHeartbeats 400000
namespace Mine
theorem none_FmO : True := by w_top off; k_with_none; trivial
/-- the end of a first turn that leaves the loop -/
noncomputable def OnceQ (Q : Flow → Shared → Prop) : Flow → Shared → Prop
  | .brk, s => Q .next s
  | .ret v, s => Q (.ret v) s
  | _, _ => False
section
variable {prog : Program} {w : World} {A : Around} {E : Value → Shared → Prop} {s : Shared} {env : Env} {h₀ : Heap} {x : Str} {body els : List Stmt} {Q : Flow → Shared → Prop}
noncomputable def FirstAt (prog : Program) (w : World) (A : Around) (h₀ : Heap) (env : Env) (x : Str) (body : List Stmt) (Q : Flow → Shared → Prop) (E : Value → Shared → Prop) (it : Value) (s₂ : Shared) : Prop :=
  ∃ (I : Addr) (fp : List Addr) (n : Nat) (P : Nat → Value → Prop) (St : Nat → Heap → Prop) (m : Str → Option Value) (news : List (Addr × Obj)),
    it = .ref I ∧ Walks prog w A I fp [I] n P St ∧ 0 < n ∧ St 0 s₂.heap ∧ Fr h₀ env.locals s₂.heap m ∧ News h₀ env.locals s₂.heap news ∧ env.locals ≠ I ∧ h₀.get? I = none ∧ (∀ p ∈ news, p.1 ≠ I) ∧
    ∀ v h' tk, P 0 v → Fr h₀ env.locals h' m → News h₀ env.locals h' news → wpAny (model prog w) A (storeName env x v) (fun _ s₃ => wpAny (model prog w) A (execs body env) (OnceQ Q) E s₃) E { s₂ with heap := h', toks := tk }
theorem For_once {px pos : Pos} {iter : PySem.Expr} {m₀ : Str → Option Value} (_F : Fr h₀ env.locals s.heap m₀) (h : wpAny (model prog w) A (eval iter env) (fun xv s₁ => wpAny (model prog w) A (pyIter xv) (fun it s₂ => FirstAt prog w A h₀ env x body Q E it s₂) E s₁) E s)
    (hs : ∀ x, foldedSetIterable iter env x = pure x := by intro _; rfl)
    (hE : PassesOwn (model prog w) A env E := by passes_own) :
    wpAny (model prog w) A (exec (.For (.Name x px) iter body els pos) env) Q E s := by
  refine wpAny_For (wpAny_mono h (fun xv s₁ h₁ => wpAny_mono h₁ (fun it s₂ h₂ => ?_) fun _ _ e => e) fun _ _ e => e) hs
  obtain ⟨I, fp, n, P, St, m, news, rfl, W, hn, st, F, N, hL, hI, hnw, turn⟩ := h₂
  refine codeAny_forLoop_any (fun k s' => s' = s₂) ?_ 0 rfl
  rintro k s' rfl
  refine W.item 0 _ _ _ hn st fun v h' tk hP st' hk => ?_
  have F' : Fr h₀ env.locals h' m := ⟨F.ns.at' fun o e => hk _ o (by simpa using hL) e, fun b o e => hk b o (by simp only [List.mem_singleton]; intro e2; rw [e2, hI] at e; cases e) (F.keep b o e), F.above⟩
  have N' : News h₀ env.locals h' news := fun p hp => ⟨hk _ _ (by simpa using hnw p hp) (N p hp).1, (N p hp).2⟩
  refine wpAny_pure (a := ()) ?_
  show wpAny _ _ (assign (.Name x px) env v) _ _ _
  refine wpAny_assign_Name ?_
  refine wpAny_mono (turn v h' tk hP F' N') (fun _ s₃ h₃ => wpAny_mono h₃ (fun f s₄ h₄ => ?_) fun _ _ x => hE _ _ x) fun _ _ x => hE _ _ x
  cases f with
  | ret v => exact h₄
  | brk => exact h₄
  | next => exact h₄.elim
  | cont => exact h₄.elim
theorem first_range {r : Addr} {a b c : Int} {t u v : Tok} {n : Nat} {m : Str → Option Value} {news : List (Addr × Obj)}
    (hh : A.handled = none) (hr : IsRange s.heap r a b c t u v) (hsmall : Builtin.Range.small a b c = true) (hn : Builtin.Range.rangeSize a b c = (n : Int)) (hpos : 0 < n) (F : Fr h₀ env.locals s.heap m) (N : News h₀ env.locals s.heap news)
    (turn : ∀ tv h' tk, Fr h₀ env.locals h' m → News h₀ env.locals h' news → wpAny (model prog w) A (storeName env x (.int a tv)) (fun _ s₃ => wpAny (model prog w) A (execs body env) (OnceQ Q) E s₃) E { s with heap := h', toks := tk }) :
    wpAny (model prog w) A (pyIter (.ref r)) (fun it s₂ => FirstAt prog w A h₀ env x body Q E it s₂) E s := by
  refine wpAny_pyIter_range hr hsmall ?_
  refine ⟨s.heap.objs.size, _, n, _, _, m, news, rfl, Walks.range hh _ a c n, hpos, ?_, F.push _, (fun p hp => ⟨Heap.get?_push_of_some _ (N p hp).1, (N p hp).2⟩), Nat.ne_of_lt F.ns.lt, next_is_new F, fun p hp => Nat.ne_of_lt (Heap.lt_size (N p hp).1), ?_⟩
  · show IsRangeIter _ _ _ _ _
    rw [hn]
    simpa using Heap.get?_push_size _ rfl
  · rintro v h' tk ⟨tv, rfl⟩ F' N'
    have := turn tv h' tk F' N'
    simpa using this
theorem first_str {y : Str} {cc : Nat} {t : Tok} {m : Str → Option Value} {news : List (Addr × Obj)}
    (hh : A.handled = none) (hy : y.cps[0]? = some cc) (F : Fr h₀ env.locals s.heap m) (N : News h₀ env.locals s.heap news)
    (turn : ∀ tv h' tk, Fr h₀ env.locals h' m → News h₀ env.locals h' news → wpAny (model prog w) A (storeName env x (.str ⟨#[cc]⟩ tv)) (fun _ s₃ => wpAny (model prog w) A (execs body env) (OnceQ Q) E s₃) E { s with heap := h', toks := tk }) :
    wpAny (model prog w) A (pyIter (.str y t)) (fun it s₂ => FirstAt prog w A h₀ env x body Q E it s₂) E s := by
  refine wpAny_pyIter_str fun o St W st => ?_
  refine ⟨s.heap.objs.size, _, _, _, St, m, news, rfl, W _ hh, ?_, st, F.push _, (fun p hp => ⟨Heap.get?_push_of_some _ (N p hp).1, (N p hp).2⟩), Nat.ne_of_lt F.ns.lt, next_is_new F, fun p hp => Nat.ne_of_lt (Heap.lt_size (N p hp).1), ?_⟩
  · rcases Nat.eq_zero_or_pos y.cps.size with e | e
    · rw [Array.getElem?_eq_none (by lia)] at hy; cases hy
    · exact e
  · rintro v h' tk ⟨c, u, hc, rfl⟩ F' N'
    rw [hy] at hc
    cases hc
    exact turn u h' tk F' N'
end
end Mine
end
section
open PySem PySem.W PyProof.Rows PySem.Calls Builtin Builtin.ObjectAttr Builtin.Getset_descriptor
set_option Elab.async false
set_option maxRecDepth 100000
set_option maxHeartbeats 0
namespace Mine
structure FitOk (parts : List Part) (k mx : Int) (a : Str) (ta : Tok) (b : Str) (tb : Tok) : Prop where
  le : ∀ t : Addr, k + lenOf (parts ++ [(t, (a, ta), (b, tb))]) ≤ mx
structure CutOk (parts : List Part) (k mx : Int) (a : Str) (ta : Tok) (b : Str) (tb : Tok) : Prop where
  le : ∀ t : Addr, mx < k + lenOf (parts ++ [(t, (a, ta), (b, tb))])
theorem lines_FmE_1 : True := by
  w_top off
  k_with_none
  k_with "m9:room" => ktr_room
  k_with "m9:inst" => (refine' inst_acc ?NQ8 ?h1Q8 ?h2Q8; (case NQ8 => k_asm); (case h1Q8 => k_mem); (case h2Q8 => k_mem))
  k_with "m9:all" => first | (with_reducible assumption) | exact allNe_lt (by assumption)
  k_with "m9:mem" => first | exact List.Mem.head _ | (refine' List.Mem.tail _ ?_; k_mem) | assumption
  k_with "m:eval Name" => dsimp only
  k_with "m:spliced" => dsimp only
  k_with "m:execs cons" => dsimp only
  k_with "m:eval Constant int" => dsimp only
  k_with "m:eval BinOp" => dsimp only
  k_with "m:execs nil" => dsimp only
  k_with "m:eval Call" => dsimp only
  k_with "m:storeName" => dsimp only
  k_with "m:exec Assign" => dsimp only
  k_with "m:callWith" => dsimp only
  k_with "m:eval Subscript" => dsimp only
  k_with "m:eval Call Attribute" => dsimp only
  k_with "m:evalPart none" => dsimp only
  k_with "m:truthy bool" => dsimp only
  k_with "m:callWith ref" => dsimp only
  k_with "m:call ref" => dsimp only
  k_with "m:isTrue Compare" => dsimp only
  k_with "m:getMethod ref" => dsimp only
  k_with "m:exec If" => dsimp only
  k_with "m:exec Return some" => dsimp only
  k_with "m:getAttr ref" => dsimp only
  k_with "m:eval Attribute Name" => dsimp only
  k_with "m:binaryOp Add int int" => dsimp only
  k_with "m:isTrue BoolOp" => dsimp only
  k_with "m:binaryOp Mod int int" => dsimp only
  k_with "m:subscriptTail Name Constant ref int" => dsimp only
  k_with "m:evalPart some" => dsimp only
  k_with "m:eval Slice" => dsimp only
  k_with "m:exec Expr" => dsimp only
  k_with "m:isTrue" => dsimp only
  k_with "m:eval Constant str" => dsimp only
  k_with "m:assignInOrder" => dsimp only
  k_with "m:call builtin:len" => dsimp only
  k_with "m:newTuple" => dsimp only
  k_with "m:eval Tuple" => dsimp only
  k_with "m:eval BoolOp" => dsimp only
  k_with "m:subscriptTail Name Slice str ref" => dsimp only
  k_with "m:getMethod str" => dsimp only
  k_with "m:setAttr ref" => dsimp only
  k_with "m:newList" => dsimp only
  k_with "m:eval List" => dsimp only
  k_with "m:binaryOp Mult int int" => dsimp only
  k_with "m:con_enter" => (refine wpAny_call ?_; k_dflt (first | cell_enter | (refine' code_defC ?k1Q8 ?k2Q8 ?k3Q8 ?k4Q8 ?k5Q8 ?kAQ8 ?kFQ8 ?kKQ8 ?k6Q8 ?k7Q8 ?k8Q8 ?k9Q8 ?kBQ8 ?kDQ8 ?_ ?c2Q8 ?c3Q8 ?c4Q8; (case kAQ8 => exact rfl); (case kFQ8 => exact rfl); (case kKQ8 => assumption); (case k1Q8 => k_asm); (case k2Q8 => k_asm); (case k3Q8 => k_asm); (case k4Q8 => k_asm); (case k5Q8 => k_asm); (case k6Q8 => k_is); (case k7Q8 => k_is); (case k8Q8 => ktr_room); (case k9Q8 => first | exact BindsTo.of_eq rfl | exact binds_K (by k_in) rfl (by k_is) rfl rfl rfl | fail "k_enter: no rule for these arguments"); (case kBQ8 => exact rfl); (case kDQ8 => decide +kernel); (case c2Q8 => exact rfl); (case c3Q8 => exact rfl); (case c4Q8 => exact rfl); k_whole; intro g'Q9 L'Q9 h'Q9 tk'Q9 cells'Q9 FG'Q9 F'Q9 N'Q9 Y'Q9 B'Q9 X'Q9 T'Q9 l1Q9; (try k_lt l1Q9); k_cells Y'Q9; (try simp only [List.cons_append, List.nil_append] at N'Q9); (try dsimp only); (try k_lift B'Q9); (try k_fold))))
  k_with "m:con_enterS" => (refine wpAny_call ?_; k_dflt (refine' code_defS ?k1Q8 ?k2Q8 ?k3Q8 ?k4Q8 ?k5Q8 ?kAQ8 ?kFQ8 ?kKQ8 ?k6Q8 ?k7Q8 ?k8Q8 ?k9Q8 ?kBQ8 ?_ ?c2Q8 ?c3Q8 ?c4Q8 ?c5Q8; (case kAQ8 => exact rfl); (case kFQ8 => exact rfl); (case kKQ8 => first | assumption | exact rfl); (case k1Q8 => k_asm); (case k2Q8 => k_asm); (case k3Q8 => k_asm); (case k4Q8 => k_asm); (case k5Q8 => k_asm); (case k6Q8 => k_is); (case k7Q8 => k_is); (case k8Q8 => ktr_room); (case k9Q8 => first | exact BindsTo.of_eq rfl | exact binds_K (by k_in) rfl (by k_is) rfl rfl rfl); (case c5Q8 => decide); (case kBQ8 => exact locs rfl); (case c2Q8 => exact rfl); (case c3Q8 => exact rfl); (case c4Q8 => exact rfl); k_whole; intro g'Q9 L'Q9 h'Q9 FG'Q9 F'Q9 N'Q9 B'Q9 X'Q9 T'Q9 l1Q9; (try dsimp only); (try k_lift B'Q9); (try k_fold)))
  k_with "m:con_enterT" => (k_dflt (refine' code_defS ?k1Q8 ?k2Q8 ?k3Q8 ?k4Q8 ?k5Q8 ?kAQ8 ?kFQ8 ?kKQ8 ?k6Q8 ?k7Q8 ?k8Q8 ?k9Q8 ?kBQ8 ?_ ?c2Q8 ?c3Q8 ?c4Q8 ?c5Q8; (case kAQ8 => exact rfl); (case kFQ8 => exact rfl); (case kKQ8 => first | assumption | exact rfl); (case k1Q8 => k_asm); (case k2Q8 => k_asm); (case k3Q8 => k_asm); (case k4Q8 => k_asm); (case k5Q8 => k_asm); (case k6Q8 => k_is); (case k7Q8 => k_is); (case k8Q8 => ktr_room); (case k9Q8 => first | exact BindsTo.of_eq rfl | exact binds_K (by k_in) rfl (by k_is) rfl rfl rfl); (case c5Q8 => decide); (case kBQ8 => exact locs rfl); (case c2Q8 => exact rfl); (case c3Q8 => exact rfl); (case c4Q8 => exact rfl); k_whole; intro g'Q9 L'Q9 h'Q9 FG'Q9 F'Q9 N'Q9 B'Q9 X'Q9 T'Q9 l1Q9; (try dsimp only); (try k_lift B'Q9); (try k_fold)))
  k_with "m:call builtin:str.isspace" => (k_here; k_dflt (refine KXw.isspace (b := true) (by decide +kernel) ?_))
  k_with "m:call ref" => (k_here; k_dflt (first | (refine' F_push ?hOQ8 ?hTQ8 ?a1Q8 ?a2Q8 ?a3Q8 _ _ _ _ _ _ _ _ _ _ _ _ _ _ _ _ _ ?k1Q8 ?k2Q8 ?k3Q8 ?k4Q8 ?k5Q8 ?kKQ8 ?kGQ8 ?kdQ8 ?kuQ8 ?_; (case k1Q8 => k_asm); (case k2Q8 => k_asm); (case k3Q8 => k_asm); (case k4Q8 => first | k_asm | exact news_drop1 (by k_asm) | exact news_drop2 (by k_asm) | exact news_drop1 (news_drop2 (by k_asm))); (case k5Q8 => k_asm); (case kKQ8 => first | exact rfl | assumption); (case kGQ8 => k_asm); (case kdQ8 => ktr_room); (case kuQ8 => first | ktr_units | (rw [tc_units]; dsimp only [ktrTop]; (first | (law_clear; lia) | omega))); (case hOQ8 => assumption); (case hTQ8 => assumption); (case a1Q8 => first | assumption | (first | (law_clear; lia) | omega) | decide); (case a2Q8 => first | assumption | (first | (law_clear; lia) | omega) | decide); (case a3Q8 => first | assumption | (first | (law_clear; lia) | omega) | decide); k_whole; intro t'Q9 n'Q9 h'Q9 tk'Q9 hfr'Q9 O'Q9 F'Q9 N'Q9; (try (have hLen9Q9 := FitOk.le (by assumption) t'Q9)); (try (have hLen9Q9 := CutOk.le (by assumption) t'Q9)); (try k_sweep); (try dsimp only)) | (refine' F_pop ?hOQ8 ?hTQ8 _ _ _ _ _ _ _ _ _ _ _ _ _ _ _ _ _ ?k1Q8 ?k2Q8 ?k3Q8 ?k4Q8 ?k5Q8 ?kKQ8 ?kGQ8 ?kdQ8 ?kuQ8 ?_; (case k1Q8 => k_asm); (case k2Q8 => k_asm); (case k3Q8 => k_asm); (case k4Q8 => first | k_asm | exact news_drop1 (by k_asm) | exact news_drop2 (by k_asm) | exact news_drop1 (news_drop2 (by k_asm))); (case k5Q8 => k_asm); (case kKQ8 => first | exact rfl | assumption); (case kGQ8 => k_asm); (case kdQ8 => ktr_room); (case kuQ8 => first | ktr_units | (rw [tc_units]; dsimp only [ktrTop]; (first | (law_clear; lia) | omega))); (case hOQ8 => assumption); (case hTQ8 => assumption); k_whole; intro n'Q9 h'Q9 tk'Q9 O'Q9 F'Q9 N'Q9; (try k_sweep); (try dsimp only)) | (refine' F_cut ?hOQ8 ?hTQ8 ?a1Q8 _ _ _ _ _ _ _ _ _ _ _ _ _ _ _ _ _ ?k1Q8 ?k2Q8 ?k3Q8 ?k4Q8 ?k5Q8 ?kKQ8 ?kGQ8 ?kdQ8 ?kuQ8 ?_; (case k1Q8 => k_asm); (case k2Q8 => k_asm); (case k3Q8 => k_asm); (case k4Q8 => first | k_asm | exact news_drop1 (by k_asm) | exact news_drop2 (by k_asm) | exact news_drop1 (news_drop2 (by k_asm))); (case k5Q8 => k_asm); (case kKQ8 => first | exact rfl | assumption); (case kGQ8 => k_asm); (case kdQ8 => ktr_room); (case kuQ8 => first | ktr_units | (rw [tc_units]; dsimp only [ktrTop]; (first | (law_clear; lia) | omega))); (case hOQ8 => assumption); (case hTQ8 => assumption); (case a1Q8 => first | assumption | (first | (law_clear; lia) | omega) | (simp only [List.length_append, List.length_cons, List.length_nil]; (first | (law_clear; lia) | omega))); k_whole; intro l'Q9 n'Q9 h'Q9 tk'Q9 O1'Q9 O2'Q9 F'Q9 N'Q9; (try k_sweep); (try dsimp only)) | (refine' F_reset ?hOQ8 ?hTQ8 ?a1Q8 ?a2Q8 _ _ _ _ _ _ _ _ _ _ _ _ _ _ _ _ _ ?k1Q8 ?k2Q8 ?k3Q8 ?k4Q8 ?k5Q8 ?kKQ8 ?kGQ8 ?kdQ8 ?kuQ8 ?_; (case k1Q8 => k_asm); (case k2Q8 => k_asm); (case k3Q8 => k_asm); (case k4Q8 => first | k_asm | exact news_drop1 (by k_asm) | exact news_drop2 (by k_asm) | exact news_drop1 (news_drop2 (by k_asm))); (case k5Q8 => k_asm); (case kKQ8 => first | exact rfl | assumption); (case kGQ8 => k_asm); (case kdQ8 => ktr_room); (case kuQ8 => first | ktr_units | (rw [tc_units]; dsimp only [ktrTop]; (first | (law_clear; lia) | omega))); (case hOQ8 => assumption); (case hTQ8 => assumption); (case a1Q8 => k_mem); (case a2Q8 => assumption); k_whole; intro n'Q9 ti'Q9 te'Q9 h'Q9 tk'Q9 F'Q9 N'Q9; (try k_sweep); (try dsimp only)) | (refine' A_resetN ?hOQ8 ?hTQ8 _ _ _ _ _ _ _ _ _ _ _ _ _ _ _ _ _ ?k1Q8 ?k2Q8 ?k3Q8 ?k4Q8 ?k5Q8 ?kKQ8 ?kGQ8 ?kdQ8 ?kuQ8 ?_; (case k1Q8 => k_asm); (case k2Q8 => k_asm); (case k3Q8 => k_asm); (case k4Q8 => first | k_asm | exact news_drop1 (by k_asm) | exact news_drop2 (by k_asm) | exact news_drop1 (news_drop2 (by k_asm))); (case k5Q8 => k_asm); (case kKQ8 => first | exact rfl | assumption); (case kGQ8 => k_asm); (case kdQ8 => ktr_room); (case kuQ8 => first | ktr_units | (rw [tc_units]; dsimp only [ktrTop]; (first | (law_clear; lia) | omega))); (case hOQ8 => exact FOk.ok (by assumption)); (case hTQ8 => assumption); k_whole; intro n'Q9 ti'Q9 te'Q9 h'Q9 tk'Q9 F'Q9 N'Q9; (try k_sweep); (try dsimp only)) | (refine' A_ws ?hOQ8 ?hTQ8 ?a1Q8 ?a2Q8 ?a3Q8 _ _ _ _ _ _ _ _ _ _ _ _ _ _ _ _ _ ?k1Q8 ?k2Q8 ?k3Q8 ?k4Q8 ?k5Q8 ?kKQ8 ?kGQ8 ?kdQ8 ?kuQ8 ?_; (case k1Q8 => k_asm); (case k2Q8 => k_asm); (case k3Q8 => k_asm); (case k4Q8 => first | k_asm | exact news_drop1 (by k_asm) | exact news_drop2 (by k_asm) | exact news_drop1 (news_drop2 (by k_asm))); (case k5Q8 => k_asm); (case kKQ8 => first | exact rfl | assumption); (case kGQ8 => k_asm); (case kdQ8 => ktr_room); (case kuQ8 => first | ktr_units | (rw [tc_units]; dsimp only [ktrTop]; (first | (law_clear; lia) | omega))); (case hOQ8 => exact FOk.ok (by assumption)); (case hTQ8 => assumption); (case a1Q8 => first | rfl | (first | (law_clear; lia) | omega) | assumption); (case a2Q8 => exact NlOk.len (by assumption) _); (case a3Q8 => exact NlOk.sp (by assumption) _); k_whole; intro t'Q9 n'Q9 ti'Q9 te'Q9 ps'Q9 qs'Q9 h'Q9 g'Q9 d'Q9 tk'Q9 TT'Q9 F'Q9 N'Q9 G'Q9; (try k_sweep); (try dsimp only)) | (refine' A_count ?hOQ8 ?hTQ8 _ _ _ _ _ _ _ _ _ _ _ _ _ _ _ _ _ ?k1Q8 ?k2Q8 ?k3Q8 ?k4Q8 ?k5Q8 ?kKQ8 ?kGQ8 ?kdQ8 ?kuQ8 ?_; (case k1Q8 => k_asm); (case k2Q8 => k_asm); (case k3Q8 => k_asm); (case k4Q8 => first | k_asm | exact news_drop1 (by k_asm) | exact news_drop2 (by k_asm) | exact news_drop1 (news_drop2 (by k_asm))); (case k5Q8 => k_asm); (case kKQ8 => first | exact rfl | assumption); (case kGQ8 => k_asm); (case kdQ8 => ktr_room); (case kuQ8 => first | ktr_units | (rw [tc_units]; dsimp only [ktrTop]; (first | (law_clear; lia) | omega))); (case hOQ8 => exact FOk.ok (by assumption)); (case hTQ8 => assumption); k_whole; intro t'Q9 h'Q9 tk'Q9 F'Q9 N'Q9; (try k_sweep); (try dsimp only))))
  k_with "m:call builtin:len" => (k_here; k_dflt (first | (refine' A_len ?hOQ8 ?hTQ8 ?h0Q8 ?h1Q8 _ _ _ _ _ _ _ _ _ _ _ _ _ _ _ _ _ ?k1Q8 ?k2Q8 ?k3Q8 ?k4Q8 ?k5Q8 ?kKQ8 ?kGQ8 ?kdQ8 ?kuQ8 ?_; (case k1Q8 => k_asm); (case k2Q8 => k_asm); (case k3Q8 => k_asm); (case k4Q8 => first | k_asm | exact news_drop1 (by k_asm) | exact news_drop2 (by k_asm) | exact news_drop1 (news_drop2 (by k_asm))); (case k5Q8 => k_asm); (case kKQ8 => first | exact rfl | assumption); (case kGQ8 => k_asm); (case kdQ8 => ktr_room); (case kuQ8 => first | ktr_units | (rw [tc_units]; dsimp only [ktrTop]; (first | (law_clear; lia) | omega))); (case hOQ8 => exact FOk.ok (by assumption)); (case hTQ8 => assumption); (case h0Q8 => first | (first | (law_clear; lia) | omega) | decide); (case h1Q8 => first | (first | (law_clear; lia) | omega) | decide); k_whole; intro t'Q9 n'Q9 ti'Q9 te'Q9 ps'Q9 qs'Q9 h'Q9 g'Q9 d'Q9 tk'Q9 TT'Q9 F'Q9 N'Q9 G'Q9; (try k_sweep); (try dsimp only))))
  k_with "m:call type:str" => (k_here; k_dflt (first | (refine' A_str ?hOQ8 ?hTQ8 _ _ _ _ _ _ _ _ _ _ _ _ _ _ _ _ _ ?k1Q8 ?k2Q8 ?k3Q8 ?k4Q8 ?k5Q8 ?kKQ8 ?kGQ8 ?kdQ8 ?kuQ8 ?_; (case k1Q8 => k_asm); (case k2Q8 => k_asm); (case k3Q8 => k_asm); (case k4Q8 => first | k_asm | exact news_drop1 (by k_asm) | exact news_drop2 (by k_asm) | exact news_drop1 (news_drop2 (by k_asm))); (case k5Q8 => k_asm); (case kKQ8 => first | exact rfl | assumption); (case kGQ8 => k_asm); (case kdQ8 => ktr_room); (case kuQ8 => first | ktr_units | (rw [tc_units]; dsimp only [ktrTop]; (first | (law_clear; lia) | omega))); (case hOQ8 => exact FOk.ok (by assumption)); (case hTQ8 => assumption); k_whole; intro t'Q9 n'Q9 ti'Q9 te'Q9 ps'Q9 qs'Q9 h'Q9 g'Q9 d'Q9 tk'Q9 TT'Q9 F'Q9 N'Q9 G'Q9; (try k_sweep); (try dsimp only))))
  k_with "m:truthy ref" => (k_here; k_dflt (first | (refine' A_truthy ?hOQ8 ?hTQ8 ?h0Q8 ?h1Q8 _ _ _ _ _ _ _ _ _ _ _ _ _ _ _ _ _ ?k1Q8 ?k2Q8 ?k3Q8 ?k4Q8 ?k5Q8 ?kKQ8 ?kGQ8 ?kdQ8 ?kuQ8 ?_; (case k1Q8 => k_asm); (case k2Q8 => k_asm); (case k3Q8 => k_asm); (case k4Q8 => first | k_asm | exact news_drop1 (by k_asm) | exact news_drop2 (by k_asm) | exact news_drop1 (news_drop2 (by k_asm))); (case k5Q8 => k_asm); (case kKQ8 => first | exact rfl | assumption); (case kGQ8 => k_asm); (case kdQ8 => ktr_room); (case kuQ8 => first | ktr_units | (rw [tc_units]; dsimp only [ktrTop]; (first | (law_clear; lia) | omega))); (case hOQ8 => exact FOk.ok (by assumption)); (case hTQ8 => assumption); (case h0Q8 => first | (first | (law_clear; lia) | omega) | decide); (case h1Q8 => first | (first | (law_clear; lia) | omega) | decide); k_whole; intro t'Q9 n'Q9 ti'Q9 te'Q9 ps'Q9 qs'Q9 h'Q9 g'Q9 d'Q9 tk'Q9 TT'Q9 F'Q9 N'Q9 G'Q9; (try k_sweep); (try dsimp only))))
  k_with "m:call builtin:list.append" => (k_here; k_dflt (refine' F_append ?hOQ8 ?k1Q8 ?k2Q8 ?zQ8 ?_; (case k1Q8 => k_asm); (case k2Q8 => k_asm); (case hOQ8 => assumption); (case zQ8 => first | assumption | (first | (law_clear; lia) | omega)); k_whole); intro h'Q9 F'Q9 N'Q9; (try k_sweep))
  k_with "m:subscriptTail" => (k_here; k_dflt (refine' acc_getint_K ?k1Q8 ?k2Q8 ?k3Q8 ?k4Q8 ?k5Q8 ?k6Q8 ?k7Q8 ?k8Q8 ?_; (case k1Q8 => k_asm); (case k2Q8 => k_asm); (case k3Q8 => k_asm); (case k4Q8 => k_mem); (case k5Q8 => first | (first | (law_clear; lia) | omega) | (simp only [List.length_append, List.length_cons, List.length_nil]; (first | (law_clear; lia) | omega))); (case k6Q8 => first | (first | (law_clear; lia) | omega) | (simp only [List.length_append, List.length_cons, List.length_nil]; (first | (law_clear; lia) | omega))); (case k7Q8 => first | assumption | exact refs_at_last); (case k8Q8 => with_unfolding_all rfl); k_whole))
  k_with "m:getAttr ref" => (k_here; (with_reducible show wpAny _ _ (getAttr (Value.ref _) (PySem.Str.ofString "_current_line") _) _ _ _); k_dflt (refine' F_get_cur ?k1Q8 ?k2Q8 ?k3Q8 ?k4Q8 ?k5Q8 ?_; (case k1Q8 => k_asm); (case k2Q8 => k_asm); (case k3Q8 => k_asm); (case k4Q8 => k_mem); (case k5Q8 => k_mem); k_whole))
  k_with "m:getAttr ref" => (k_here; (with_reducible show wpAny _ _ (getAttr (Value.ref _) (PySem.Str.ofString "_lines") _) _ _ _); k_dflt (refine' F_get_lines ?k1Q8 ?k2Q8 ?k3Q8 ?k4Q8 ?k5Q8 ?_; (case k1Q8 => k_asm); (case k2Q8 => k_asm); (case k3Q8 => k_asm); (case k4Q8 => k_mem); (case k5Q8 => k_mem); k_whole))
  k_with "m:getAttr ref" => (k_here; (with_reducible show wpAny _ _ (getAttr (Value.ref _) (PySem.Str.ofString "_maxlen") _) _ _ _); k_dflt (refine' F_get_max ?k1Q8 ?k2Q8 ?k3Q8 ?k4Q8 ?k5Q8 ?_; (case k1Q8 => k_asm); (case k2Q8 => k_asm); (case k3Q8 => k_asm); (case k4Q8 => k_mem); (case k5Q8 => k_mem); k_whole))
  k_with "m:getAttr ref" => (k_here; (with_reducible show wpAny _ _ (getAttr (Value.ref _) (PySem.Str.ofString "_splitchars") _) _ _ _); k_dflt (refine' F_get_split ?k1Q8 ?k2Q8 ?k3Q8 ?k4Q8 ?k5Q8 ?_; (case k1Q8 => k_asm); (case k2Q8 => k_asm); (case k3Q8 => k_asm); (case k4Q8 => k_mem); (case k5Q8 => k_mem); k_whole))
  k_with "m:getMethod ref" => (k_here; (with_reducible show wpAny _ _ (getMethod (Value.ref _) (PySem.Str.ofString "push") _) _ _ _); k_dflt (refine' A_meth am_push ?k1Q8 ?k2Q8 ?k3Q8 ?k4Q8 ?k5Q8 ?k6Q8 ?_; (case k1Q8 => k_asm); (case k2Q8 => k_asm); (case k3Q8 => k_asm); (case k4Q8 => k_mem); (case k5Q8 => k_mem); (case k6Q8 => exact noIni (by k_get)); k_whole))
  k_with "m:getMethod ref" => (k_here; (with_reducible show wpAny _ _ (getMethod (Value.ref _) (PySem.Str.ofString "pop_from") _) _ _ _); k_dflt (refine' A_meth am_pop_from ?k1Q8 ?k2Q8 ?k3Q8 ?k4Q8 ?k5Q8 ?k6Q8 ?_; (case k1Q8 => k_asm); (case k2Q8 => k_asm); (case k3Q8 => k_asm); (case k4Q8 => k_mem); (case k5Q8 => k_mem); (case k6Q8 => exact noIni (by k_get)); k_whole))
  k_with "m:getMethod ref" => (k_here; (with_reducible show wpAny _ _ (getMethod (Value.ref _) (PySem.Str.ofString "pop") _) _ _ _); k_dflt (refine' A_meth am_pop ?k1Q8 ?k2Q8 ?k3Q8 ?k4Q8 ?k5Q8 ?k6Q8 ?_; (case k1Q8 => k_asm); (case k2Q8 => k_asm); (case k3Q8 => k_asm); (case k4Q8 => k_mem); (case k5Q8 => k_mem); (case k6Q8 => exact noIni (by k_get)); k_whole))
  k_with "m:getMethod ref" => (k_here; (with_reducible show wpAny _ _ (getMethod (Value.ref _) (PySem.Str.ofString "reset") _) _ _ _); k_dflt (refine' A_meth am_reset ?k1Q8 ?k2Q8 ?k3Q8 ?k4Q8 ?k5Q8 ?k6Q8 ?_; (case k1Q8 => k_asm); (case k2Q8 => k_asm); (case k3Q8 => k_asm); (case k4Q8 => k_mem); (case k5Q8 => k_mem); (case k6Q8 => exact noIni (by k_get)); k_whole))
  k_with "m:getMethod ref" => (k_here; (with_reducible show wpAny _ _ (getMethod (Value.ref _) (PySem.Str.ofString "is_onlyws") _) _ _ _); k_dflt (refine' A_meth am_ws ?k1Q8 ?k2Q8 ?k3Q8 ?k4Q8 ?k5Q8 ?k6Q8 ?_; (case k1Q8 => k_asm); (case k2Q8 => k_asm); (case k3Q8 => k_asm); (case k4Q8 => k_mem); (case k5Q8 => k_mem); (case k6Q8 => exact noIni (by k_get)); k_whole))
  k_with "m:getMethod ref" => (k_here; (with_reducible show wpAny _ _ (getMethod (Value.ref _) (PySem.Str.ofString "part_count") _) _ _ _); k_dflt (refine' A_meth am_count ?k1Q8 ?k2Q8 ?k3Q8 ?k4Q8 ?k5Q8 ?k6Q8 ?_; (case k1Q8 => k_asm); (case k2Q8 => k_asm); (case k3Q8 => k_asm); (case k4Q8 => k_mem); (case k5Q8 => k_mem); (case k6Q8 => exact noIni (by k_get)); k_whole))
  k_with "m:compareOp NotEq ref ref" => (k_here; k_dflt (refine' F_ne ?k1Q8 ?k2Q8 ?k3Q8 ?k4Q8 ?kkQ8 ?k5Q8 ?_; (case k1Q8 => k_asm); (case k2Q8 => k_mem); (case k3Q8 => k_mem); (case k4Q8 => assumption); (case kkQ8 => assumption); (case k5Q8 => ktr_units); k_whole))
  k_with "m:eval Call Attribute" => (k_here; (with_reducible show wpAny _ _ (eval (Expr.Call (Expr.Attribute _ _ _) [Expr.Starred _ _] _ _) _) _ _ _); refine MethodStar ?_)
  k_with "m:callWith ref" => (k_here; (with_reducible show wpAny _ _ (callWith _ (Value.ref _) _ (backTo _ (starEach [Expr.Starred _ _] _)) []) _ _ _); k_dflt (refine' callWith_MS ?k1Q8 ?k2Q8 ?k3Q8 ?k4Q8 ?_; (case k1Q8 => k_asm); (case k2Q8 => k_asm); (case k3Q8 => k_mem); (case k4Q8 => k_is); k_whole))
  k_with "m:getAttr ref" => (k_here; (with_reducible show wpAny _ _ (getAttr (Value.ref _) (PySem.Str.ofString "push") _) _ _ _); k_dflt (refine' acc_bound_K ?k1Q8 ?k2Q8 ?k3Q8 ?kIQ8 ?k4Q8 ?k5Q8 ?k6Q8 ?k7Q8 ?k8Q8 ?k9Q8 ?_; (case k1Q8 => k_asm); (case k2Q8 => k_asm); (case k3Q8 => k_asm); (case kIQ8 => k_inst); (case k4Q8 => k_is); (case k5Q8 => k_is); (case k6Q8 => k_is); (case k7Q8 => k_is); (case k8Q8 => decide +kernel); (case k9Q8 => k_get); k_whole; intro q'Q9 h'Q9 F'Q9 N'Q9 l1Q9; (try k_lt l1Q9); (try k_sweep); (try dsimp only)))
  k_with "m:call ref" => (k_here; k_dflt (refine' F_pushM ?hqQ8 ?_; (case hqQ8 => exact (News.get (by k_asm) (by k_mem))); (refine' F_pushC ?hOQ8 ?hTQ8 ?a1Q8 ?a2Q8 ?a3Q8 _ _ _ _ _ _ _ _ _ _ _ _ _ _ _ _ _ ?k1Q8 ?k2Q8 ?k3Q8 ?k4Q8 ?k5Q8 ?kKQ8 ?kdQ8 ?kuQ8 ?_; (case k1Q8 => k_asm); (case k2Q8 => k_asm); (case k3Q8 => k_asm); (case k4Q8 => first | k_asm | exact news_drop1 (by k_asm) | exact news_drop2 (by k_asm) | exact news_drop1 (news_drop2 (by k_asm))); (case k5Q8 => k_asm); (case kKQ8 => first | exact rfl | assumption); (case kdQ8 => ktr_room); (case kuQ8 => first | ktr_units | (rw [tc_units]; dsimp only [ktrTop]; (first | (law_clear; lia) | omega))); (case hOQ8 => assumption); (case hTQ8 => assumption); (case a1Q8 => first | assumption | (first | (law_clear; lia) | omega) | decide); (case a2Q8 => first | assumption | (first | (law_clear; lia) | omega) | decide); (case a3Q8 => first | assumption | (first | (law_clear; lia) | omega) | decide); k_whole; intro t'Q9 n'Q9 h'Q9 tk'Q9 O'Q9 F'Q9 N'Q9; (try (have hLen9Q9 := NlOk.len (by assumption) t'Q9)); (try k_sweep); (try dsimp only))))
  k_with "m:exec For" => (k_here; (with_reducible rename Fr _ _ _ _ => lF9); (refine For_once lF9 ?_))
  k_with "m:pyIter str" => (k_here; k_dflt (refine' first_str ?hQ8 ?yQ8 ?k1Q8 ?k2Q8 ?_; (case hQ8 => exact rfl); (case yQ8 => exact rfl); (case k1Q8 => k_asm); (case k2Q8 => k_asm); k_whole); intro tv9Q9 h'Q9 tk'Q9 F'Q9 N'Q9; (try k_sweep); (try dsimp only))
  k_with "m:pyIter ref" => (k_here; k_dflt (refine' first_range ?hQ8 ?rQ8 ?zQ8 ?nQ8 ?pQ8 ?k1Q8 ?k2Q8 ?_; (case hQ8 => exact rfl); (case rQ8 => assumption); (case zQ8 => exact small_down (by simp only [List.length_append, List.length_cons, List.length_nil]; (first | (law_clear; lia) | omega)) (by simp only [List.length_append, List.length_cons, List.length_nil]; (first | (law_clear; lia) | omega)) (by (first | (law_clear; lia) | omega)) (by (first | (law_clear; lia) | omega))); (case nQ8 => exact rangeSize_downNat _ _); (case pQ8 => simp only [List.length_append, List.length_cons, List.length_nil]; (first | (law_clear; lia) | omega)); (case k1Q8 => k_asm); (case k2Q8 => k_asm); k_whole); intro tv9Q9 h'Q9 tk'Q9 F'Q9 N'Q9; (try k_sweep); (try dsimp only))
  k_with "m:OnceQ" => (with_reducible show OnceQ _ _ _; (first | dsimp only [OnceQ] | unfold OnceQ); (try dsimp only))
  trivial
theorem fmt_fit (w : World) (mean : ExcName → Option Value) (mg mb : Str → Option Value) (f fd ll x dx : Addr) (mx : Int) (T : FT) (ls : List (Str × Tok)) (c : Nat) (parts : List Part) (a b : Str) (ta tb : Tok) (n : Nat) (k : Int) (ti te : Tok) (ps qs : Array Value) (rest : List (Addr × Obj))
    (O : FOk f fd ll x dx parts rest) (TT : Tabs ps qs) (hp : parts.length ≤ 98) (la : a.length ≤ 1) (lb : b.length ≤ 1) (hk0 : 0 ≤ k) (hk1 : k ≤ 1000) (hF : FitOk parts k mx a ta b tb) :
    ConG 24 150 w mean mg mb 127 (AL w x dx parts n k ti te ps qs (FR w f fd ll x mx T ls c rest)) [.ref f, .str a ta, .str b tb]
      (fun h₀ L m s Q => ∀ (t : Addr) (n : Nat) (ti te : Tok) (ps qs : Array Value) (h' : Heap) (g' : Array GenState) (d' : Drawn) (tk' : Nat), (∀ q ∈ rest, q.1 < t) → Tabs ps qs → FOk f fd ll x dx (parts ++ [(t, (a, ta), (b, tb))]) ((t, tupO (.str a ta) (.str b tb)) :: rest) →
        Fr h₀ L h' m → News h₀ L h' (AL w x dx (parts ++ [(t, (a, ta), (b, tb))]) n k ti te ps qs (FR w f fd ll x mx T ls c ((t, tupO (.str a ta) (.str b tb)) :: rest))) → AllBare g' → Q .none ⟨h', g', d', tk', s.os⟩) := by
  dsimp only [ConG, pr, lsV]; k_fill
  intros; rename_i hret
  walk_at "con_enter"
  k_steps
  exact hret _ _ _ _ _ _ _ _ _ _ (by assumption) (by assumption) (by assumption) (by assumption) (by assumption) (by assumption)
theorem fmt_cut (w : World) (mean : ExcName → Option Value) (mg mb : Str → Option Value) (f fd ll x dx : Addr) (mx : Int) (T : FT) (ls : List (Str × Tok)) (c : Nat) (parts : List Part) (b : Str) (ta tb : Tok) (n : Nat) (k : Int) (ti te : Tok) (ps qs : Array Value) (rest : List (Addr × Obj))
    (O : FOk f fd ll x dx parts rest) (TT : Tabs ps qs) (hp : parts.length ≤ 98) (hp1 : 1 ≤ parts.length) (lb : b.length ≤ 1) (hk0 : 0 ≤ k) (hk1 : k ≤ 1000) (hF : CutOk parts k mx (Str.ofString " ") ta b tb) (hz : ls.length ≤ 900) :
    ConG 24 150 w mean mg mb 127 (AL w x dx parts n k ti te ps qs (FR w f fd ll x mx T ls c rest)) [.ref f, .str (Str.ofString " ") ta, .str b tb]
      (fun h₀ L m s Q => ∀ (rest' : List (Addr × Obj)) (t : Addr) (tt : Tok) (n c : Nat) (ti te : Tok) (ps qs : Array Value) (h' : Heap) (g' : Array GenState) (d' : Drawn) (tk' : Nat), (∀ q ∈ rest, q.1 < t) → Tabs ps qs → FOk f fd ll x dx [(t, (Str.ofString " ", ta), (b, tb))] rest' → (∀ q ∈ rest, q ∈ rest') →
        Fr h₀ L h' m → News h₀ L h' (AL w x dx [(t, (Str.ofString " ", ta), (b, tb))] n 0 ti te ps qs (FR w f fd ll x mx T (ls ++ [(textOf parts, tt)]) c rest')) → AllBare g' → Q .none ⟨h', g', d', tk', s.os⟩) := by
  dsimp only [ConG, pr, lsV]; k_fill
  intros; rename_i hret
  walk_at "con_enter"
  k_steps
  exact hret _ _ _ _ _ _ _ _ _ _ _ _ _ (by assumption) (by assumption) (by assumption) (fun q hq => List.Mem.tail _ (List.Mem.tail _ hq)) (by assumption) (by assumption) (by assumption)
end Mine
end
section
open PySem PySem.W PyProof.Rows PySem.Calls Builtin Builtin.ObjectAttr Builtin.Getset_descriptor
set_option Elab.async false
set_option maxRecDepth 100000
set_option maxHeartbeats 0
namespace Mine
theorem F_join {w : World} {A : Around} {E : Value → Shared → Prop} {s : Shared} {h₀ : Heap} {L : Addr} {f fd ll x dx : Addr} {mx : Int} {T : FT} {ls : List (Str × Tok)} {c : Nat} {parts : List Part} {n : Nat} {k : Int} {ti te : Tok} {ps qs : Array Value} {rest : List (Addr × Obj)} {sep : Str} {t : Tok} {Q : Value → Shared → Prop}
    (N : News h₀ L s.heap (AL w x dx parts n k ti te ps qs (FR w f fd ll x mx T ls c rest))) (hJ : JoinOk sep (ls.map (·.1)) = true)
    (h : ∀ t' tk', Q (.str (Txt.join sep (ls.map (·.1))) t') { s with toks := tk' }) : wpAny (model pr w) A (call (.builtin "str.join") [.str sep t, .ref ll]) Q E s := by
  have z := N (ll, W.listOf (linesV ls) c) (.tail _ (.tail _ (.tail _ (.tail _ (.head _)))))
  exact SC.join (l := ls) ⟨_, z.1, rfl, _, rfl⟩ rfl hJ h
theorem news_tail {w : World} {h₀ h' : Heap} {L : Addr} {f fd ll x dx : Addr} {mx : Int} {T : FT} {ls : List (Str × Tok)} {c : Nat} {parts : List Part} {n : Nat} {k : Int} {ti te : Tok} {ps qs : Array Value} {rest rest' : List (Addr × Obj)}
    (N : News h₀ L h' (AL w x dx parts n k ti te ps qs (FR w f fd ll x mx T ls c rest'))) (hs : ∀ q ∈ rest, q ∈ rest') : News h₀ L h' ((176, tabObj ps) :: (183, tabObj qs) :: rest) := by
  intro p hp
  rcases List.mem_cons.mp hp with rfl | hp
  · exact N _ (.tail _ (.tail _ (.head _)))
  rcases List.mem_cons.mp hp with rfl | hp
  · exact N _ (.tail _ (.tail _ (.tail _ (.head _))))
  exact N _ (.tail _ (.tail _ (.tail _ (.tail _ (.tail _ (.tail _ (.tail _ (hs _ hp))))))))
theorem lines_FmF_1 : True := by
  w_top off
  k_with_none
  k_with "m9:room" => ktr_room
  k_with "m9:inst" => (refine' inst_acc ?NQ8 ?h1Q8 ?h2Q8; (case NQ8 => k_asm); (case h1Q8 => k_mem); (case h2Q8 => k_mem))
  k_with "m9:all" => first | (with_reducible assumption) | exact allNe_lt (by assumption)
  k_with "m9:mem" => first | exact List.Mem.head _ | (refine' List.Mem.tail _ ?_; k_mem) | assumption
  k_with "m:eval Name" => dsimp only
  k_with "m:spliced" => dsimp only
  k_with "m:execs cons" => dsimp only
  k_with "m:eval Constant int" => dsimp only
  k_with "m:eval BinOp" => dsimp only
  k_with "m:execs nil" => dsimp only
  k_with "m:eval Call" => dsimp only
  k_with "m:storeName" => dsimp only
  k_with "m:exec Assign" => dsimp only
  k_with "m:callWith" => dsimp only
  k_with "m:eval Subscript" => dsimp only
  k_with "m:eval Call Attribute" => dsimp only
  k_with "m:evalPart none" => dsimp only
  k_with "m:truthy bool" => dsimp only
  k_with "m:callWith ref" => dsimp only
  k_with "m:call ref" => dsimp only
  k_with "m:isTrue Compare" => dsimp only
  k_with "m:getMethod ref" => dsimp only
  k_with "m:exec If" => dsimp only
  k_with "m:exec Return some" => dsimp only
  k_with "m:getAttr ref" => dsimp only
  k_with "m:eval Attribute Name" => dsimp only
  k_with "m:binaryOp Add int int" => dsimp only
  k_with "m:isTrue BoolOp" => dsimp only
  k_with "m:binaryOp Mod int int" => dsimp only
  k_with "m:subscriptTail Name Constant ref int" => dsimp only
  k_with "m:evalPart some" => dsimp only
  k_with "m:eval Slice" => dsimp only
  k_with "m:exec Expr" => dsimp only
  k_with "m:isTrue" => dsimp only
  k_with "m:eval Constant str" => dsimp only
  k_with "m:assignInOrder" => dsimp only
  k_with "m:call builtin:len" => dsimp only
  k_with "m:newTuple" => dsimp only
  k_with "m:eval Tuple" => dsimp only
  k_with "m:eval BoolOp" => dsimp only
  k_with "m:subscriptTail Name Slice str ref" => dsimp only
  k_with "m:getMethod str" => dsimp only
  k_with "m:setAttr ref" => dsimp only
  k_with "m:newList" => dsimp only
  k_with "m:eval List" => dsimp only
  k_with "m:binaryOp Mult int int" => dsimp only
  k_with "m:con_enter" => (refine wpAny_call ?_; k_dflt (first | cell_enter | (refine' code_defC ?k1Q8 ?k2Q8 ?k3Q8 ?k4Q8 ?k5Q8 ?kAQ8 ?kFQ8 ?kKQ8 ?k6Q8 ?k7Q8 ?k8Q8 ?k9Q8 ?kBQ8 ?kDQ8 ?_ ?c2Q8 ?c3Q8 ?c4Q8; (case kAQ8 => exact rfl); (case kFQ8 => exact rfl); (case kKQ8 => assumption); (case k1Q8 => k_asm); (case k2Q8 => k_asm); (case k3Q8 => k_asm); (case k4Q8 => k_asm); (case k5Q8 => k_asm); (case k6Q8 => k_is); (case k7Q8 => k_is); (case k8Q8 => ktr_room); (case k9Q8 => first | exact BindsTo.of_eq rfl | exact binds_K (by k_in) rfl (by k_is) rfl rfl rfl | fail "k_enter: no rule for these arguments"); (case kBQ8 => exact rfl); (case kDQ8 => decide +kernel); (case c2Q8 => exact rfl); (case c3Q8 => exact rfl); (case c4Q8 => exact rfl); k_whole; intro g'Q9 L'Q9 h'Q9 tk'Q9 cells'Q9 FG'Q9 F'Q9 N'Q9 Y'Q9 B'Q9 X'Q9 T'Q9 l1Q9; (try k_lt l1Q9); k_cells Y'Q9; (try simp only [List.cons_append, List.nil_append] at N'Q9); (try dsimp only); (try k_lift B'Q9); (try k_fold))))
  k_with "m:con_enterS" => (refine wpAny_call ?_; k_dflt (refine' code_defS ?k1Q8 ?k2Q8 ?k3Q8 ?k4Q8 ?k5Q8 ?kAQ8 ?kFQ8 ?kKQ8 ?k6Q8 ?k7Q8 ?k8Q8 ?k9Q8 ?kBQ8 ?_ ?c2Q8 ?c3Q8 ?c4Q8 ?c5Q8; (case kAQ8 => exact rfl); (case kFQ8 => exact rfl); (case kKQ8 => first | assumption | exact rfl); (case k1Q8 => k_asm); (case k2Q8 => k_asm); (case k3Q8 => k_asm); (case k4Q8 => k_asm); (case k5Q8 => k_asm); (case k6Q8 => k_is); (case k7Q8 => k_is); (case k8Q8 => ktr_room); (case k9Q8 => first | exact BindsTo.of_eq rfl | exact binds_K (by k_in) rfl (by k_is) rfl rfl rfl); (case c5Q8 => decide); (case kBQ8 => exact locs rfl); (case c2Q8 => exact rfl); (case c3Q8 => exact rfl); (case c4Q8 => exact rfl); k_whole; intro g'Q9 L'Q9 h'Q9 FG'Q9 F'Q9 N'Q9 B'Q9 X'Q9 T'Q9 l1Q9; (try dsimp only); (try k_lift B'Q9); (try k_fold)))
  k_with "m:con_enterT" => (k_dflt (refine' code_defS ?k1Q8 ?k2Q8 ?k3Q8 ?k4Q8 ?k5Q8 ?kAQ8 ?kFQ8 ?kKQ8 ?k6Q8 ?k7Q8 ?k8Q8 ?k9Q8 ?kBQ8 ?_ ?c2Q8 ?c3Q8 ?c4Q8 ?c5Q8; (case kAQ8 => exact rfl); (case kFQ8 => exact rfl); (case kKQ8 => first | assumption | exact rfl); (case k1Q8 => k_asm); (case k2Q8 => k_asm); (case k3Q8 => k_asm); (case k4Q8 => k_asm); (case k5Q8 => k_asm); (case k6Q8 => k_is); (case k7Q8 => k_is); (case k8Q8 => ktr_room); (case k9Q8 => first | exact BindsTo.of_eq rfl | exact binds_K (by k_in) rfl (by k_is) rfl rfl rfl); (case c5Q8 => decide); (case kBQ8 => exact locs rfl); (case c2Q8 => exact rfl); (case c3Q8 => exact rfl); (case c4Q8 => exact rfl); k_whole; intro g'Q9 L'Q9 h'Q9 FG'Q9 F'Q9 N'Q9 B'Q9 X'Q9 T'Q9 l1Q9; (try dsimp only); (try k_lift B'Q9); (try k_fold)))
  k_with "m:call builtin:str.isspace" => (k_here; k_dflt (refine KXw.isspace (b := true) (by decide +kernel) ?_))
  k_with "m:call ref" => (k_here; k_dflt (first | (refine' F_push ?hOQ8 ?hTQ8 ?a1Q8 ?a2Q8 ?a3Q8 _ _ _ _ _ _ _ _ _ _ _ _ _ _ _ _ _ ?k1Q8 ?k2Q8 ?k3Q8 ?k4Q8 ?k5Q8 ?kKQ8 ?kGQ8 ?kdQ8 ?kuQ8 ?_; (case k1Q8 => k_asm); (case k2Q8 => k_asm); (case k3Q8 => k_asm); (case k4Q8 => first | k_asm | exact news_drop1 (by k_asm) | exact news_drop2 (by k_asm) | exact news_drop1 (news_drop2 (by k_asm))); (case k5Q8 => k_asm); (case kKQ8 => first | exact rfl | assumption); (case kGQ8 => k_asm); (case kdQ8 => ktr_room); (case kuQ8 => first | ktr_units | (rw [tc_units]; dsimp only [ktrTop]; (first | (law_clear; lia) | omega))); (case hOQ8 => assumption); (case hTQ8 => assumption); (case a1Q8 => first | assumption | (first | (law_clear; lia) | omega) | decide); (case a2Q8 => first | assumption | (first | (law_clear; lia) | omega) | decide); (case a3Q8 => first | assumption | (first | (law_clear; lia) | omega) | decide); k_whole; intro t'Q9 n'Q9 h'Q9 tk'Q9 hfr'Q9 O'Q9 F'Q9 N'Q9; (try (have hLen9Q9 := FitOk.le (by assumption) t'Q9)); (try (have hLen9Q9 := CutOk.le (by assumption) t'Q9)); (try k_sweep); (try dsimp only)) | (refine' F_pop ?hOQ8 ?hTQ8 _ _ _ _ _ _ _ _ _ _ _ _ _ _ _ _ _ ?k1Q8 ?k2Q8 ?k3Q8 ?k4Q8 ?k5Q8 ?kKQ8 ?kGQ8 ?kdQ8 ?kuQ8 ?_; (case k1Q8 => k_asm); (case k2Q8 => k_asm); (case k3Q8 => k_asm); (case k4Q8 => first | k_asm | exact news_drop1 (by k_asm) | exact news_drop2 (by k_asm) | exact news_drop1 (news_drop2 (by k_asm))); (case k5Q8 => k_asm); (case kKQ8 => first | exact rfl | assumption); (case kGQ8 => k_asm); (case kdQ8 => ktr_room); (case kuQ8 => first | ktr_units | (rw [tc_units]; dsimp only [ktrTop]; (first | (law_clear; lia) | omega))); (case hOQ8 => assumption); (case hTQ8 => assumption); k_whole; intro n'Q9 h'Q9 tk'Q9 O'Q9 F'Q9 N'Q9; (try k_sweep); (try dsimp only)) | (refine' F_cut ?hOQ8 ?hTQ8 ?a1Q8 _ _ _ _ _ _ _ _ _ _ _ _ _ _ _ _ _ ?k1Q8 ?k2Q8 ?k3Q8 ?k4Q8 ?k5Q8 ?kKQ8 ?kGQ8 ?kdQ8 ?kuQ8 ?_; (case k1Q8 => k_asm); (case k2Q8 => k_asm); (case k3Q8 => k_asm); (case k4Q8 => first | k_asm | exact news_drop1 (by k_asm) | exact news_drop2 (by k_asm) | exact news_drop1 (news_drop2 (by k_asm))); (case k5Q8 => k_asm); (case kKQ8 => first | exact rfl | assumption); (case kGQ8 => k_asm); (case kdQ8 => ktr_room); (case kuQ8 => first | ktr_units | (rw [tc_units]; dsimp only [ktrTop]; (first | (law_clear; lia) | omega))); (case hOQ8 => assumption); (case hTQ8 => assumption); (case a1Q8 => first | assumption | (first | (law_clear; lia) | omega) | (simp only [List.length_append, List.length_cons, List.length_nil]; (first | (law_clear; lia) | omega))); k_whole; intro l'Q9 n'Q9 h'Q9 tk'Q9 O1'Q9 O2'Q9 F'Q9 N'Q9; (try k_sweep); (try dsimp only)) | (refine' F_reset ?hOQ8 ?hTQ8 ?a1Q8 ?a2Q8 _ _ _ _ _ _ _ _ _ _ _ _ _ _ _ _ _ ?k1Q8 ?k2Q8 ?k3Q8 ?k4Q8 ?k5Q8 ?kKQ8 ?kGQ8 ?kdQ8 ?kuQ8 ?_; (case k1Q8 => k_asm); (case k2Q8 => k_asm); (case k3Q8 => k_asm); (case k4Q8 => first | k_asm | exact news_drop1 (by k_asm) | exact news_drop2 (by k_asm) | exact news_drop1 (news_drop2 (by k_asm))); (case k5Q8 => k_asm); (case kKQ8 => first | exact rfl | assumption); (case kGQ8 => k_asm); (case kdQ8 => ktr_room); (case kuQ8 => first | ktr_units | (rw [tc_units]; dsimp only [ktrTop]; (first | (law_clear; lia) | omega))); (case hOQ8 => assumption); (case hTQ8 => assumption); (case a1Q8 => k_mem); (case a2Q8 => assumption); k_whole; intro n'Q9 ti'Q9 te'Q9 h'Q9 tk'Q9 F'Q9 N'Q9; (try k_sweep); (try dsimp only)) | (refine' A_resetN ?hOQ8 ?hTQ8 _ _ _ _ _ _ _ _ _ _ _ _ _ _ _ _ _ ?k1Q8 ?k2Q8 ?k3Q8 ?k4Q8 ?k5Q8 ?kKQ8 ?kGQ8 ?kdQ8 ?kuQ8 ?_; (case k1Q8 => k_asm); (case k2Q8 => k_asm); (case k3Q8 => k_asm); (case k4Q8 => first | k_asm | exact news_drop1 (by k_asm) | exact news_drop2 (by k_asm) | exact news_drop1 (news_drop2 (by k_asm))); (case k5Q8 => k_asm); (case kKQ8 => first | exact rfl | assumption); (case kGQ8 => k_asm); (case kdQ8 => ktr_room); (case kuQ8 => first | ktr_units | (rw [tc_units]; dsimp only [ktrTop]; (first | (law_clear; lia) | omega))); (case hOQ8 => exact FOk.ok (by assumption)); (case hTQ8 => assumption); k_whole; intro n'Q9 ti'Q9 te'Q9 h'Q9 tk'Q9 F'Q9 N'Q9; (try k_sweep); (try dsimp only)) | (refine' A_ws ?hOQ8 ?hTQ8 ?a1Q8 ?a2Q8 ?a3Q8 _ _ _ _ _ _ _ _ _ _ _ _ _ _ _ _ _ ?k1Q8 ?k2Q8 ?k3Q8 ?k4Q8 ?k5Q8 ?kKQ8 ?kGQ8 ?kdQ8 ?kuQ8 ?_; (case k1Q8 => k_asm); (case k2Q8 => k_asm); (case k3Q8 => k_asm); (case k4Q8 => first | k_asm | exact news_drop1 (by k_asm) | exact news_drop2 (by k_asm) | exact news_drop1 (news_drop2 (by k_asm))); (case k5Q8 => k_asm); (case kKQ8 => first | exact rfl | assumption); (case kGQ8 => k_asm); (case kdQ8 => ktr_room); (case kuQ8 => first | ktr_units | (rw [tc_units]; dsimp only [ktrTop]; (first | (law_clear; lia) | omega))); (case hOQ8 => exact FOk.ok (by assumption)); (case hTQ8 => assumption); (case a1Q8 => first | rfl | (first | (law_clear; lia) | omega) | assumption); (case a2Q8 => exact NlOk.len (by assumption) _); (case a3Q8 => exact NlOk.sp (by assumption) _); k_whole; intro t'Q9 n'Q9 ti'Q9 te'Q9 ps'Q9 qs'Q9 h'Q9 g'Q9 d'Q9 tk'Q9 TT'Q9 F'Q9 N'Q9 G'Q9; (try k_sweep); (try dsimp only)) | (refine' A_count ?hOQ8 ?hTQ8 _ _ _ _ _ _ _ _ _ _ _ _ _ _ _ _ _ ?k1Q8 ?k2Q8 ?k3Q8 ?k4Q8 ?k5Q8 ?kKQ8 ?kGQ8 ?kdQ8 ?kuQ8 ?_; (case k1Q8 => k_asm); (case k2Q8 => k_asm); (case k3Q8 => k_asm); (case k4Q8 => first | k_asm | exact news_drop1 (by k_asm) | exact news_drop2 (by k_asm) | exact news_drop1 (news_drop2 (by k_asm))); (case k5Q8 => k_asm); (case kKQ8 => first | exact rfl | assumption); (case kGQ8 => k_asm); (case kdQ8 => ktr_room); (case kuQ8 => first | ktr_units | (rw [tc_units]; dsimp only [ktrTop]; (first | (law_clear; lia) | omega))); (case hOQ8 => exact FOk.ok (by assumption)); (case hTQ8 => assumption); k_whole; intro t'Q9 h'Q9 tk'Q9 F'Q9 N'Q9; (try k_sweep); (try dsimp only))))
  k_with "m:call builtin:len" => (k_here; k_dflt (first | (refine' A_len ?hOQ8 ?hTQ8 ?h0Q8 ?h1Q8 _ _ _ _ _ _ _ _ _ _ _ _ _ _ _ _ _ ?k1Q8 ?k2Q8 ?k3Q8 ?k4Q8 ?k5Q8 ?kKQ8 ?kGQ8 ?kdQ8 ?kuQ8 ?_; (case k1Q8 => k_asm); (case k2Q8 => k_asm); (case k3Q8 => k_asm); (case k4Q8 => first | k_asm | exact news_drop1 (by k_asm) | exact news_drop2 (by k_asm) | exact news_drop1 (news_drop2 (by k_asm))); (case k5Q8 => k_asm); (case kKQ8 => first | exact rfl | assumption); (case kGQ8 => k_asm); (case kdQ8 => ktr_room); (case kuQ8 => first | ktr_units | (rw [tc_units]; dsimp only [ktrTop]; (first | (law_clear; lia) | omega))); (case hOQ8 => exact FOk.ok (by assumption)); (case hTQ8 => assumption); (case h0Q8 => first | (first | (law_clear; lia) | omega) | decide); (case h1Q8 => first | (first | (law_clear; lia) | omega) | decide); k_whole; intro t'Q9 n'Q9 ti'Q9 te'Q9 ps'Q9 qs'Q9 h'Q9 g'Q9 d'Q9 tk'Q9 TT'Q9 F'Q9 N'Q9 G'Q9; (try k_sweep); (try dsimp only))))
  k_with "m:call type:str" => (k_here; k_dflt (first | (refine' A_str ?hOQ8 ?hTQ8 _ _ _ _ _ _ _ _ _ _ _ _ _ _ _ _ _ ?k1Q8 ?k2Q8 ?k3Q8 ?k4Q8 ?k5Q8 ?kKQ8 ?kGQ8 ?kdQ8 ?kuQ8 ?_; (case k1Q8 => k_asm); (case k2Q8 => k_asm); (case k3Q8 => k_asm); (case k4Q8 => first | k_asm | exact news_drop1 (by k_asm) | exact news_drop2 (by k_asm) | exact news_drop1 (news_drop2 (by k_asm))); (case k5Q8 => k_asm); (case kKQ8 => first | exact rfl | assumption); (case kGQ8 => k_asm); (case kdQ8 => ktr_room); (case kuQ8 => first | ktr_units | (rw [tc_units]; dsimp only [ktrTop]; (first | (law_clear; lia) | omega))); (case hOQ8 => exact FOk.ok (by assumption)); (case hTQ8 => assumption); k_whole; intro t'Q9 n'Q9 ti'Q9 te'Q9 ps'Q9 qs'Q9 h'Q9 g'Q9 d'Q9 tk'Q9 TT'Q9 F'Q9 N'Q9 G'Q9; (try k_sweep); (try dsimp only))))
  k_with "m:truthy ref" => (k_here; k_dflt (first | (refine' A_truthy ?hOQ8 ?hTQ8 ?h0Q8 ?h1Q8 _ _ _ _ _ _ _ _ _ _ _ _ _ _ _ _ _ ?k1Q8 ?k2Q8 ?k3Q8 ?k4Q8 ?k5Q8 ?kKQ8 ?kGQ8 ?kdQ8 ?kuQ8 ?_; (case k1Q8 => k_asm); (case k2Q8 => k_asm); (case k3Q8 => k_asm); (case k4Q8 => first | k_asm | exact news_drop1 (by k_asm) | exact news_drop2 (by k_asm) | exact news_drop1 (news_drop2 (by k_asm))); (case k5Q8 => k_asm); (case kKQ8 => first | exact rfl | assumption); (case kGQ8 => k_asm); (case kdQ8 => ktr_room); (case kuQ8 => first | ktr_units | (rw [tc_units]; dsimp only [ktrTop]; (first | (law_clear; lia) | omega))); (case hOQ8 => exact FOk.ok (by assumption)); (case hTQ8 => assumption); (case h0Q8 => first | (first | (law_clear; lia) | omega) | decide); (case h1Q8 => first | (first | (law_clear; lia) | omega) | decide); k_whole; intro t'Q9 n'Q9 ti'Q9 te'Q9 ps'Q9 qs'Q9 h'Q9 g'Q9 d'Q9 tk'Q9 TT'Q9 F'Q9 N'Q9 G'Q9; (try k_sweep); (try dsimp only))))
  k_with "m:call builtin:list.append" => (k_here; k_dflt (refine' F_append ?hOQ8 ?k1Q8 ?k2Q8 ?zQ8 ?_; (case k1Q8 => k_asm); (case k2Q8 => k_asm); (case hOQ8 => assumption); (case zQ8 => first | assumption | (first | (law_clear; lia) | omega)); k_whole); intro h'Q9 F'Q9 N'Q9; (try k_sweep))
  k_with "m:subscriptTail" => (k_here; k_dflt (refine' acc_getint_K ?k1Q8 ?k2Q8 ?k3Q8 ?k4Q8 ?k5Q8 ?k6Q8 ?k7Q8 ?k8Q8 ?_; (case k1Q8 => k_asm); (case k2Q8 => k_asm); (case k3Q8 => k_asm); (case k4Q8 => k_mem); (case k5Q8 => first | (first | (law_clear; lia) | omega) | (simp only [List.length_append, List.length_cons, List.length_nil]; (first | (law_clear; lia) | omega))); (case k6Q8 => first | (first | (law_clear; lia) | omega) | (simp only [List.length_append, List.length_cons, List.length_nil]; (first | (law_clear; lia) | omega))); (case k7Q8 => first | assumption | exact refs_at_last); (case k8Q8 => with_unfolding_all rfl); k_whole))
  k_with "m:getAttr ref" => (k_here; (with_reducible show wpAny _ _ (getAttr (Value.ref _) (PySem.Str.ofString "_current_line") _) _ _ _); k_dflt (refine' F_get_cur ?k1Q8 ?k2Q8 ?k3Q8 ?k4Q8 ?k5Q8 ?_; (case k1Q8 => k_asm); (case k2Q8 => k_asm); (case k3Q8 => k_asm); (case k4Q8 => k_mem); (case k5Q8 => k_mem); k_whole))
  k_with "m:getAttr ref" => (k_here; (with_reducible show wpAny _ _ (getAttr (Value.ref _) (PySem.Str.ofString "_lines") _) _ _ _); k_dflt (refine' F_get_lines ?k1Q8 ?k2Q8 ?k3Q8 ?k4Q8 ?k5Q8 ?_; (case k1Q8 => k_asm); (case k2Q8 => k_asm); (case k3Q8 => k_asm); (case k4Q8 => k_mem); (case k5Q8 => k_mem); k_whole))
  k_with "m:getAttr ref" => (k_here; (with_reducible show wpAny _ _ (getAttr (Value.ref _) (PySem.Str.ofString "_maxlen") _) _ _ _); k_dflt (refine' F_get_max ?k1Q8 ?k2Q8 ?k3Q8 ?k4Q8 ?k5Q8 ?_; (case k1Q8 => k_asm); (case k2Q8 => k_asm); (case k3Q8 => k_asm); (case k4Q8 => k_mem); (case k5Q8 => k_mem); k_whole))
  k_with "m:getAttr ref" => (k_here; (with_reducible show wpAny _ _ (getAttr (Value.ref _) (PySem.Str.ofString "_splitchars") _) _ _ _); k_dflt (refine' F_get_split ?k1Q8 ?k2Q8 ?k3Q8 ?k4Q8 ?k5Q8 ?_; (case k1Q8 => k_asm); (case k2Q8 => k_asm); (case k3Q8 => k_asm); (case k4Q8 => k_mem); (case k5Q8 => k_mem); k_whole))
  k_with "m:getMethod ref" => (k_here; (with_reducible show wpAny _ _ (getMethod (Value.ref _) (PySem.Str.ofString "push") _) _ _ _); k_dflt (refine' A_meth am_push ?k1Q8 ?k2Q8 ?k3Q8 ?k4Q8 ?k5Q8 ?k6Q8 ?_; (case k1Q8 => k_asm); (case k2Q8 => k_asm); (case k3Q8 => k_asm); (case k4Q8 => k_mem); (case k5Q8 => k_mem); (case k6Q8 => exact noIni (by k_get)); k_whole))
  k_with "m:getMethod ref" => (k_here; (with_reducible show wpAny _ _ (getMethod (Value.ref _) (PySem.Str.ofString "pop_from") _) _ _ _); k_dflt (refine' A_meth am_pop_from ?k1Q8 ?k2Q8 ?k3Q8 ?k4Q8 ?k5Q8 ?k6Q8 ?_; (case k1Q8 => k_asm); (case k2Q8 => k_asm); (case k3Q8 => k_asm); (case k4Q8 => k_mem); (case k5Q8 => k_mem); (case k6Q8 => exact noIni (by k_get)); k_whole))
  k_with "m:getMethod ref" => (k_here; (with_reducible show wpAny _ _ (getMethod (Value.ref _) (PySem.Str.ofString "pop") _) _ _ _); k_dflt (refine' A_meth am_pop ?k1Q8 ?k2Q8 ?k3Q8 ?k4Q8 ?k5Q8 ?k6Q8 ?_; (case k1Q8 => k_asm); (case k2Q8 => k_asm); (case k3Q8 => k_asm); (case k4Q8 => k_mem); (case k5Q8 => k_mem); (case k6Q8 => exact noIni (by k_get)); k_whole))
  k_with "m:getMethod ref" => (k_here; (with_reducible show wpAny _ _ (getMethod (Value.ref _) (PySem.Str.ofString "reset") _) _ _ _); k_dflt (refine' A_meth am_reset ?k1Q8 ?k2Q8 ?k3Q8 ?k4Q8 ?k5Q8 ?k6Q8 ?_; (case k1Q8 => k_asm); (case k2Q8 => k_asm); (case k3Q8 => k_asm); (case k4Q8 => k_mem); (case k5Q8 => k_mem); (case k6Q8 => exact noIni (by k_get)); k_whole))
  k_with "m:getMethod ref" => (k_here; (with_reducible show wpAny _ _ (getMethod (Value.ref _) (PySem.Str.ofString "is_onlyws") _) _ _ _); k_dflt (refine' A_meth am_ws ?k1Q8 ?k2Q8 ?k3Q8 ?k4Q8 ?k5Q8 ?k6Q8 ?_; (case k1Q8 => k_asm); (case k2Q8 => k_asm); (case k3Q8 => k_asm); (case k4Q8 => k_mem); (case k5Q8 => k_mem); (case k6Q8 => exact noIni (by k_get)); k_whole))
  k_with "m:getMethod ref" => (k_here; (with_reducible show wpAny _ _ (getMethod (Value.ref _) (PySem.Str.ofString "part_count") _) _ _ _); k_dflt (refine' A_meth am_count ?k1Q8 ?k2Q8 ?k3Q8 ?k4Q8 ?k5Q8 ?k6Q8 ?_; (case k1Q8 => k_asm); (case k2Q8 => k_asm); (case k3Q8 => k_asm); (case k4Q8 => k_mem); (case k5Q8 => k_mem); (case k6Q8 => exact noIni (by k_get)); k_whole))
  k_with "m:compareOp NotEq ref ref" => (k_here; k_dflt (refine' F_ne ?k1Q8 ?k2Q8 ?k3Q8 ?k4Q8 ?kkQ8 ?k5Q8 ?_; (case k1Q8 => k_asm); (case k2Q8 => k_mem); (case k3Q8 => k_mem); (case k4Q8 => assumption); (case kkQ8 => assumption); (case k5Q8 => ktr_units); k_whole))
  k_with "m:eval Call Attribute" => (k_here; (with_reducible show wpAny _ _ (eval (Expr.Call (Expr.Attribute _ _ _) [Expr.Starred _ _] _ _) _) _ _ _); refine MethodStar ?_)
  k_with "m:callWith ref" => (k_here; (with_reducible show wpAny _ _ (callWith _ (Value.ref _) _ (backTo _ (starEach [Expr.Starred _ _] _)) []) _ _ _); k_dflt (refine' callWith_MS ?k1Q8 ?k2Q8 ?k3Q8 ?k4Q8 ?_; (case k1Q8 => k_asm); (case k2Q8 => k_asm); (case k3Q8 => k_mem); (case k4Q8 => k_is); k_whole))
  k_with "m:getAttr ref" => (k_here; (with_reducible show wpAny _ _ (getAttr (Value.ref _) (PySem.Str.ofString "push") _) _ _ _); k_dflt (refine' acc_bound_K ?k1Q8 ?k2Q8 ?k3Q8 ?kIQ8 ?k4Q8 ?k5Q8 ?k6Q8 ?k7Q8 ?k8Q8 ?k9Q8 ?_; (case k1Q8 => k_asm); (case k2Q8 => k_asm); (case k3Q8 => k_asm); (case kIQ8 => k_inst); (case k4Q8 => k_is); (case k5Q8 => k_is); (case k6Q8 => k_is); (case k7Q8 => k_is); (case k8Q8 => decide +kernel); (case k9Q8 => k_get); k_whole; intro q'Q9 h'Q9 F'Q9 N'Q9 l1Q9; (try k_lt l1Q9); (try k_sweep); (try dsimp only)))
  k_with "m:call ref" => (k_here; k_dflt (refine' F_pushM ?hqQ8 ?_; (case hqQ8 => exact (News.get (by k_asm) (by k_mem))); (refine' F_pushC ?hOQ8 ?hTQ8 ?a1Q8 ?a2Q8 ?a3Q8 _ _ _ _ _ _ _ _ _ _ _ _ _ _ _ _ _ ?k1Q8 ?k2Q8 ?k3Q8 ?k4Q8 ?k5Q8 ?kKQ8 ?kdQ8 ?kuQ8 ?_; (case k1Q8 => k_asm); (case k2Q8 => k_asm); (case k3Q8 => k_asm); (case k4Q8 => first | k_asm | exact news_drop1 (by k_asm) | exact news_drop2 (by k_asm) | exact news_drop1 (news_drop2 (by k_asm))); (case k5Q8 => k_asm); (case kKQ8 => first | exact rfl | assumption); (case kdQ8 => ktr_room); (case kuQ8 => first | ktr_units | (rw [tc_units]; dsimp only [ktrTop]; (first | (law_clear; lia) | omega))); (case hOQ8 => assumption); (case hTQ8 => assumption); (case a1Q8 => first | assumption | (first | (law_clear; lia) | omega) | decide); (case a2Q8 => first | assumption | (first | (law_clear; lia) | omega) | decide); (case a3Q8 => first | assumption | (first | (law_clear; lia) | omega) | decide); k_whole; intro t'Q9 n'Q9 h'Q9 tk'Q9 O'Q9 F'Q9 N'Q9; (try (have hLen9Q9 := NlOk.len (by assumption) t'Q9)); (try k_sweep); (try dsimp only))))
  k_with "m:call ref" => (k_here; k_dflt (first | (refine' fmt_newline _ _ _ _ _ _ _ _ _ _ _ _ _ _ _ _ _ _ _ _ _ _ _ _ _ ?hOQ8 ?hTQ8 ?hNQ8 ?hzQ8 _ _ _ _ _ _ _ _ _ _ _ _ _ _ _ _ _ ?k1Q8 ?k2Q8 ?k3Q8 ?k4Q8 ?k5Q8 ?kKQ8 ?kGQ8 ?kdQ8 ?kuQ8 ?_; (case k1Q8 => k_asm); (case k2Q8 => k_asm); (case k3Q8 => k_asm); (case k4Q8 => first | k_asm | exact news_drop1 (by k_asm) | exact news_drop2 (by k_asm) | exact news_drop1 (news_drop2 (by k_asm))); (case k5Q8 => k_asm); (case kKQ8 => first | exact rfl | assumption); (case kGQ8 => k_asm); (case kdQ8 => ktr_room); (case kuQ8 => first | ktr_units | (rw [tc_units]; dsimp only [ktrTop]; (first | (law_clear; lia) | omega))); (case hOQ8 => assumption); (case hTQ8 => assumption); (case hNQ8 => assumption); (case hzQ8 => assumption); k_whole; intro rest'Q9 ttQ9 n'Q9 c'Q9 ti'Q9 te'Q9 ps'Q9 qs'Q9 h'Q9 g'Q9 d'Q9 tk'Q9 TT'Q9 O'Q9 sub'Q9 F'Q9 N'Q9 G'Q9; (try k_sweep); (try dsimp only))))
  k_with "m:call builtin:str.join" => (k_here; k_dflt (refine' F_join ?k1Q8 ?k2Q8 ?_; (case k1Q8 => k_asm); (case k2Q8 => solve_by_elim); k_whole; intro t9Q9 tk'Q9; (try dsimp only)))
  trivial
theorem fmt_str (w : World) (mean : ExcName → Option Value) (mg mb : Str → Option Value) (f fd ll x dx : Addr) (mx : Int) (T : FT) (ls : List (Str × Tok)) (c : Nat) (parts : List Part) (tp : Addr) (b tx sep : Str) (ta tb ts : Tok) (n : Nat) (ti te : Tok) (ps qs : Array Value) (rest : List (Addr × Obj))
    (O : FOk f fd ll x dx (parts ++ [bp tp ta b tb]) rest) (TT : Tabs ps qs) (hN : NlOk parts ta b tb tx) (hz : ls.length ≤ 900) (hJ : ∀ tt : Tok, JoinOk sep ((ls ++ [(tx, tt)]).map (·.1)) = true) :
    ConG 32 180 w mean mg mb 78 (AL w x dx (parts ++ [bp tp ta b tb]) n 0 ti te ps qs (FR w f fd ll x mx T ls c rest)) [.ref f, .str sep ts]
      (fun h₀ L m s Q => ∀ (t' : Tok) (ps qs : Array Value) (h' : Heap) (g' : Array GenState) (d' : Drawn) (tk' : Nat), Tabs ps qs → Fr h₀ L h' m → News h₀ L h' ((176, tabObj ps) :: (183, tabObj qs) :: rest) → AllBare g' → Q (.str (Txt.join sep (ls.map (·.1) ++ [tx])) t') ⟨h', g', d', tk', s.os⟩) := by
  dsimp only [ConG, pr, lsV]; k_fill
  intros; rename_i hret
  walk_at "con_enter"
  k_steps
  (with_reducible rename News _ _ _ (AL _ _ _ [] _ _ _ _ _ _ (FR _ _ _ _ _ _ _ _ _ _)) => NN)
  (with_reducible rename ∀ q ∈ _, q ∈ _ => SS)
  rw [List.map_append]
  exact hret _ _ _ _ _ _ _ (by assumption) (by assumption) (news_tail NN SS) (by assumption)
end Mine
end
section
open PySem
set_option Elab.async false
set_option maxRecDepth 100000
set_option maxHeartbeats 400000
namespace Mine
theorem none_RxA : True := by w_top off; k_with_none; trivial
open PySem.Sre
noncomputable abbrev rxCode : Array Nat := #[14, 4, 0, 1, 4294967295, 17, 0, 24, 11, 1, 4294967295, 13, 6, 16, 32, 16, 9, 0, 1, 17, 1, 1]
noncomputable def blank (c : Nat) : Bool := c == 32 || c == 9
theorem rx_in (c : Nat) (sn : Seen) : ∃ sn', accepts rxCode 11 c sn = .ok (blank c, sn') := by
  have e : accepts rxCode 11 c sn = if c == 32 then .ok (true, sn.add 16) else if c == 9 then .ok (true, (sn.add 16).add 16) else .ok (false, ((sn.add 16).add 16).add 0) := rfl
  rw [e]; unfold blank
  cases h : c == 32 with
  | true => exact ⟨_, rfl⟩
  | false =>
    cases h' : c == 9 with
    | true => exact ⟨_, rfl⟩
    | false => exact ⟨_, rfl⟩
theorem rx_run0 (t : Array Nat) (n p : Nat) (sn : Seen) (h : blank (t.getD p 0) = false) : ∃ sn', Sre.run rxCode t 11 n p 0 sn = .ok (0, sn') := by
  cases n with
  | zero => exact ⟨_, rfl⟩
  | succ n =>
    obtain ⟨sn', e⟩ := rx_in (t.getD p 0) sn
    refine ⟨sn', ?_⟩
    unfold Sre.run
    rw [e, h]; rfl
theorem rx_run1 (t : Array Nat) (n p : Nat) (sn : Seen) (h : blank (t.getD p 0) = true) (h' : blank (t.getD (p + 1) 0) = false) : ∃ sn', Sre.run rxCode t 11 (n + 1) p 0 sn = .ok (1, sn') := by
  obtain ⟨sn', e⟩ := rx_in (t.getD p 0) sn
  unfold Sre.run
  rw [e, h]
  cases n with
  | zero => exact ⟨_, rfl⟩
  | succ n =>
    obtain ⟨sn2, e2⟩ := rx_in (t.getD (p + 1) 0) sn'
    refine ⟨sn2, ?_⟩
    show Sre.run rxCode t 11 (n + 1) (p + 1) 1 sn' = _
    unfold Sre.run
    rw [e2, h']; rfl
/-- a state of the machine -/
noncomputable abbrev rxM (t : Array Nat) (lim start pc pos handed : Nat) (o : Bool) (mk : Array (Option Nat)) (lm li : Int) (fs : List Sre.Frame) (wt : Nat) (ans : Option Bool) (sn : Seen) (oc : Option Sre.Outcome) : M :=
  { code := rxCode, text := t, lim, start, lastStart := lim, pc, pos, handed, outermost := o, marks := mk, lastmark := lm, lastindex := li, frames := fs, weight := wt, answer := ans, seen := sn, outcome := oc }
noncomputable abbrev rxF (p : Nat) (o : Bool) : Sre.Frame := { wait := .nextStart, pc := 5, pos := p, outermost := o }
theorem rx_mark0 (t : Array Nat) (lim p : Nat) (o : Bool) (a b : Option Nat) (sn : Seen) :
    (rxM t lim p 5 p p o #[a, b] (-1) (-1) [rxF p o] 1 none sn none).step = rxM t lim p 7 p p o #[some p, b] 0 (-1) [rxF p o] 1 none (sn.add 17) none := rfl
theorem rx_rep0 (t : Array Nat) (lim p : Nat) (o : Bool) (mk : Array (Option Nat)) (sn : Seen) (hp : p < lim) (h : blank (t.getD p 0) = false) :
    ∃ sn', (rxM t lim p 7 p p o mk 0 (-1) [rxF p o] 1 none sn none).step = rxM t lim p 7 p p o mk 0 (-1) [rxF p o] 1 (some false) sn' none := by
  obtain ⟨sn', e⟩ := rx_run0 t (min 4294967295 ((lim : Int) - p).toNat) p ((sn.add 24).add 13) h
  refine ⟨sn', ?_⟩
  have q : ¬ (((1 : Nat) : Int) > (lim : Int) - p) := by lia
  show (if ((1 : Nat) : Int) > (lim : Int) - p then _ else _) = _
  rw [if_neg q]
  show (match Sre.run rxCode t 11 (min 4294967295 ((lim : Int) - p).toNat) p 0 ((sn.add 24).add 13) with | .error why => _ | .ok (n, seen) => _) = _
  rw [e]
  rfl
theorem rx_repE (t : Array Nat) (lim : Nat) (o : Bool) (mk : Array (Option Nat)) (sn : Seen) :
    (rxM t lim lim 7 lim lim o mk 0 (-1) [rxF lim o] 1 none sn none).step = rxM t lim lim 7 lim lim o mk 0 (-1) [rxF lim o] 1 (some false) (sn.add 24) none := by
  have q : (((1 : Nat) : Int) > (lim : Int) - lim) := by lia
  show (if ((1 : Nat) : Int) > (lim : Int) - lim then _ else _) = _
  rw [if_pos q]
  rfl
noncomputable abbrev rxG (p : Nat) (o : Bool) : Sre.Frame := { wait := .giveBack, pc := 7, pos := p + 1, outermost := o, count := 1, kept := { lastmark := 0, lastindex := -1 } }
theorem rx_rep1 (t : Array Nat) (lim p : Nat) (o : Bool) (mk : Array (Option Nat)) (sn : Seen) (hp : p < lim) (h : blank (t.getD p 0) = true) (h' : blank (t.getD (p + 1) 0) = false) :
    ∃ sn', (rxM t lim p 7 p p o mk 0 (-1) [rxF p o] 1 none sn none).step = rxM t lim p 19 (p + 1) (p + 1) o mk 0 (-1) [rxG p o, rxF p o] 2 none sn' none := by
  obtain ⟨k, hk⟩ : ∃ k, min 4294967295 ((lim : Int) - p).toNat = k + 1 := ⟨min 4294967295 ((lim : Int) - p).toNat - 1, by lia⟩
  obtain ⟨sn', e⟩ := rx_run1 t k p ((sn.add 24).add 13) h h'
  refine ⟨sn', ?_⟩
  have q : ¬ (((1 : Nat) : Int) > (lim : Int) - p) := by lia
  show (if ((1 : Nat) : Int) > (lim : Int) - p then _ else _) = _
  rw [if_neg q]
  show (match Sre.run rxCode t 11 (min 4294967295 ((lim : Int) - p).toNat) p 0 ((sn.add 24).add 13) with | .error why => _ | .ok (n, seen) => _) = _
  rw [hk, e]
  rfl
theorem rx_again (t : Array Nat) (lim p : Nat) (o : Bool) (mk : Array (Option Nat)) (sn : Seen) (hp : p < lim) :
    (rxM t lim p 7 p p o mk 0 (-1) [rxF p o] 1 (some false) sn none).step = rxM t lim (p + 1) 5 (p + 1) (p + 1) false mk (-1) (-1) [rxF (p + 1) false] 1 none sn none := by
  show (if p < lim then _ else _) = _
  rw [if_pos hp]
  rfl
theorem rx_over (t : Array Nat) (lim : Nat) (o : Bool) (mk : Array (Option Nat)) (sn : Seen) :
    ∃ m, (rxM t lim lim 7 lim lim o mk 0 (-1) [rxF lim o] 1 (some false) sn none).step.step = m ∧ m.outcome = some .failed := by
  refine ⟨_, rfl, ?_⟩
  have e : (rxM t lim lim 7 lim lim o mk 0 (-1) [rxF lim o] 1 (some false) sn none).step = rxM t lim lim 5 lim lim o mk 0 (-1) [] 0 (some false) sn none := by
    show (if lim < lim then _ else _) = _
    rw [if_neg (Nat.lt_irrefl _)]
    rfl
  rw [e]; rfl
theorem rx_mark1 (t : Array Nat) (lim p : Nat) (o : Bool) (a b : Option Nat) (sn : Seen) :
    (rxM t lim p 19 (p + 1) (p + 1) o #[a, b] 0 (-1) [rxG p o, rxF p o] 2 none sn none).step = rxM t lim p 21 (p + 1) (p + 1) o #[a, some (p + 1)] 1 1 [rxG p o, rxF p o] 2 none (sn.add 17) none := by
  have e : ((#[a, b] : Array (Option Nat)).setIfInBounds 1 (some (p + 1))) = #[a, some (p + 1)] := rfl
  show (M.mark _ 1) = _
  unfold M.mark
  rw [if_pos (show ((1 : Nat) : Int) ≤ (0 : Int) + 1 by decide)]
  rfl
theorem rx_succ (t : Array Nat) (lim p : Nat) (o : Bool) (mk : Array (Option Nat)) (sn : Seen) :
    (rxM t lim p 21 (p + 1) (p + 1) o mk 1 1 [rxG p o, rxF p o] 2 none sn none).step.step.step.step = rxM t lim p 5 p (p + 1) o mk 1 1 [] 0 (some true) (sn.add 1) (some .matched) := by
  cases o <;> rfl
theorem rx_runFor_stop {m : M} (h : m.outcome.isSome = true) : ∀ n, m.runFor n = m
  | 0 => rfl
  | n + 1 => by unfold M.runFor; rw [if_pos h]
theorem rx_step_stop {m : M} (h : m.outcome.isSome = true) : m.step = m := by unfold M.step; rw [if_pos h]
/-- n steps -/
noncomputable def rxN : Nat → M → M
  | 0, m => m
  | n + 1, m => rxN n m.step
theorem rxN_stop {m : M} (h : m.outcome.isSome = true) : ∀ n, rxN n m = m
  | 0 => rfl
  | n + 1 => by unfold rxN; rw [rx_step_stop h]; exact rxN_stop h n
theorem rx_runFor : ∀ n (m : M), m.runFor n = rxN n m
  | 0, _ => rfl
  | n + 1, m => by
    unfold M.runFor rxN
    cases h : m.outcome.isSome with
    | true => rw [if_pos rfl, rx_step_stop h, rxN_stop h]
    | false => rw [if_neg (by decide)]; exact rx_runFor n m.step
theorem rxN_add : ∀ a b (m : M), rxN (a + b) m = rxN b (rxN a m)
  | 0, b, m => by rw [Nat.zero_add]; rfl
  | a + 1, b, m => by rw [Nat.succ_add]; exact rxN_add a b m.step
theorem rx_search (t : Array Nat) (p : Nat) (hp : p < t.size) : forSearch rxCode t 1 p t.size false = rxM t t.size p 5 p p true #[none, none] (-1) (-1) [rxF p true] 1 none (({} : Seen).add 14) none := by
  have q : (decide (p > t.size) || decide (t.size - p < 1)) = false := by
    rw [decide_eq_false (by lia), decide_eq_false (by lia)]; rfl
  show (if (decide (p > t.size) || decide (t.size - p < 1)) = true then _ else _) = _
  rw [q, if_neg (by decide)]
  rfl
/-- a letter at p, a blank behind it, a letter behind that: the blank is found -/
theorem rx_found (t : Array Nat) (p : Nat) (h0 : p + 1 < t.size) (h1 : blank (t.getD p 0) = false) (h2 : blank (t.getD (p + 1) 0) = true) (h3 : blank (t.getD (p + 2) 0) = false) :
    ∃ m, rxN 10 (forSearch rxCode t 1 p t.size false) = m ∧ m.outcome = some .matched ∧ m.start = p + 1 ∧ m.handed = p + 2 ∧ m.marks = #[some (p + 1), some (p + 2)] ∧ m.lastmark = 1 := by
  rw [rx_search t p (by lia)]
  obtain ⟨s1, e1⟩ := rx_rep0 t t.size p true #[some p, none] ((({} : Seen).add 14).add 17) (by lia) h1
  obtain ⟨s2, e2⟩ := rx_rep1 t t.size (p + 1) false #[some (p + 1), none] (s1.add 17) (by lia) h2 h3
  unfold rxN; rw [rx_mark0]
  unfold rxN; rw [e1]
  unfold rxN; rw [rx_again _ _ _ _ _ _ (by lia)]
  unfold rxN; rw [rx_mark0]
  unfold rxN; rw [e2]
  unfold rxN; rw [rx_mark1]
  unfold rxN; unfold rxN; unfold rxN; unfold rxN; unfold rxN
  rw [rx_succ]
  exact ⟨_, rfl, rfl, rfl, rfl, rfl, rfl⟩
/-- the last letter: nothing is found -/
theorem rx_none (t : Array Nat) (p : Nat) (h0 : p + 1 = t.size) (h1 : blank (t.getD p 0) = false) :
    ∃ m, rxN 7 (forSearch rxCode t 1 p t.size false) = m ∧ m.outcome = some .failed := by
  rw [rx_search t p (by lia)]
  obtain ⟨s1, e1⟩ := rx_rep0 t t.size p true #[some p, none] ((({} : Seen).add 14).add 17) (by lia) h1
  unfold rxN; rw [rx_mark0]
  unfold rxN; rw [e1]
  unfold rxN; rw [rx_again _ _ _ _ _ _ (by lia)]
  unfold rxN; rw [rx_mark0, h0]
  unfold rxN; rw [rx_repE]
  unfold rxN; unfold rxN; unfold rxN
  exact rx_over _ _ _ _ _
end Mine
end
section
open PySem PySem.W PyProof.Rows PySem.Calls
set_option Elab.async false
set_option maxRecDepth 100000
set_option maxHeartbeats 400000
namespace Mine
open PySem.Builtin.Re
theorem rx_named (v : Value) : reNamed "re.Pattern.split" "split" ["string", "maxsplit"] 1 [v] [] = pure [some v, none] := by kernel_rfl
section
variable {M : Model} {A : Around} {E : Value → Shared → Prop} {s : Shared}
theorem rx_drive : ∀ (turns n : Nat) (m : Sre.M) (Q : Sre.M → Shared → Prop), 1 ≤ turns → n ≤ 4 * turns → (rxN n m).outcome.isSome = true → Q (rxN n m) s → wpAny M A (reDrive turns m) Q E s
  | 0, _, _, _, h, _, _, _ => absurd h (by decide)
  | k + 1, n, m, Q, _, hn, ho, hq => by
    unfold reDrive
    rw [show reTurnSteps = 4 from rfl, rx_runFor]
    by_cases h4 : (rxN 4 m).outcome.isSome = true
    · have e : rxN n m = rxN 4 m := by
        by_cases hn4 : n ≤ 4
        · obtain ⟨d, hd⟩ : ∃ d, 4 = n + d := ⟨4 - n, by lia⟩
          rw [hd, rxN_add, rxN_stop ho]
        · obtain ⟨d, hd⟩ : ∃ d, n = 4 + d := ⟨n - 4, by lia⟩
          rw [hd, rxN_add, rxN_stop h4]
      show wpAny M A (if (rxN 4 m).outcome.isSome = true then _ else _) Q E s
      rw [if_pos h4, ← e]
      exact wpAny_pure hq
    · show wpAny M A (if (rxN 4 m).outcome.isSome = true then _ else _) Q E s
      rw [if_neg h4]
      have hn4 : 4 < n := by
        refine Nat.lt_of_not_le fun hle => h4 ?_
        obtain ⟨d, hd⟩ : ∃ d, 4 = n + d := ⟨4 - n, by lia⟩
        rw [hd, rxN_add, rxN_stop ho]; exact ho
      obtain ⟨d, hd⟩ : ∃ d, n = 4 + d := ⟨n - 4, by lia⟩
      rw [hd, rxN_add] at ho hq
      refine wpAny_bind (wpAny_rule ?_)
      exact rx_drive k d (rxN 4 m) Q (by lia) (by lia) ho hq
theorem rx_toEnd {n : Nat} {m : Sre.M} {Q : Option Sre.M → Shared → Prop} (hn : n ≤ 1000)
    (h : ((rxN n m).outcome = some .matched ∧ Q (some (rxN n m)) s) ∨ ((rxN n m).outcome = some .failed ∧ Q none s)) : wpAny M A (reRunToEnd m) Q E s := by
  unfold reRunToEnd
  refine wpAny_bind (rx_drive (2 ^ 64) n m _ (by decide) (by lia) (by rcases h with h | h <;> rw [h.1] <;> rfl) ?_)
  refine wpAny_bind (wpAny_forIn_list _ (fun _ _ s' => s' = s) _ ?_ ?_ _ _ rfl)
  · rintro i rest b s' rfl
    by_cases hs : (rxN n m).seen.has i = true
    · rw [if_pos hs]; exact wpAny_bind (wpAny_rule (wpAny_pure rfl))
    · rw [if_neg hs]; exact wpAny_pure rfl
  · rintro b s' rfl
    rcases h with ⟨e, h⟩ | ⟨e, h⟩
    · rw [e]; exact wpAny_pure h
    · rw [e]; exact wpAny_pure h
/-- a text of n letters, a blank between two -/
structure Typed (x : Str) (n : Nat) : Prop where
  pos : 0 < n
  size : x.cps.size + 1 = 2 * n
  odd : ∀ i, i < n → blank (x.cps.getD (2 * i) 0) = false
  even : ∀ i, i + 1 < n → x.cps.getD (2 * i + 1) 0 = 32
noncomputable abbrev signAt (x : Str) (i : Nat) : Str := ⟨x.cps.extract i (i + 1)⟩
noncomputable abbrev signs (x : Str) (k : Nat) : List Str := (List.range k).map (signAt x)
theorem rx_next {t : ReTarget} {x : Str} {n i : Nat} {Q : Option Sre.M → Shared → Prop} (T : Typed x n) (hi : i < n) (hc : t.code = rxCode) (ht : t.text = x.cps) (hg : t.groups = 1) (hl : t.lim = x.cps.size)
    (h1 : i + 1 < n → ∀ m : Sre.M, m.start = 2 * i + 1 → m.handed = 2 * i + 2 → m.marks = #[some (2 * i + 1), some (2 * i + 2)] → m.lastmark = 1 → Q (some m) s) (h2 : i + 1 = n → Q none s) :
    wpAny M A (reNextFound t (2 * i) false) Q E s := by
  have hz := T.size
  unfold reNextFound
  rw [hc, ht, hg, hl]
  by_cases he : i + 1 < n
  · obtain ⟨m, e, e1, e2, e3, e4, e5⟩ := rx_found x.cps (2 * i) (by lia) (T.odd i hi) (by rw [T.even i he]; rfl) (T.odd (i + 1) he)
    refine rx_toEnd (n := 10) (by decide) (.inl ⟨by rw [e]; exact e1, ?_⟩)
    rw [e]
    exact h1 he m e2 e3 e4 e5
  · obtain ⟨m, e, e1⟩ := rx_none x.cps (2 * i) (by lia) (T.odd i hi)
    exact rx_toEnd (n := 7) (by decide) (.inr ⟨by rw [e]; exact e1, h2 (by lia)⟩)
theorem rx_slice {x : Str} {b e : Nat} {Q : Value → Shared → Prop} (hz : x.cps.size ≤ 1000) (h : Q (.str ⟨x.cps.extract b e⟩ s.toks) { s with toks := s.toks + 1 }) : wpAny M A (reSlice x.cps 0 b e) Q E s := by
  unfold reSlice
  rw [if_pos (by decide)]
  refine wpAny_mkStr h ?_
  have : (x.cps.extract b e).size ≤ 1000 := by rw [Array.size_extract]; lia
  have : (⟨x.cps.extract b e⟩ : Str).length ≤ 1000 := this
  rw [sizeLine_eq]; lia
theorem rx_split {P C : Addr} {x : Str} {n : Nat} {t : Tok} {po co : Obj} {pt : Str} {a1 a2 : Tok} {fl : Tok} {Q : Fin → Shared → Prop} (T : Typed x n) (hn : n ≤ 100)
    (hP : s.heap.get? P = some po) (hpd : po.data = .fields #[.str pt a1, .int 32 fl, .int 1 0, .none, .none, .ref C, .int 0 a2]) (hC : s.heap.get? C = some co) {cv : Array Value} {cn : Nat} (hcd : co.data = .seq cv cn) (hcv : (cv.map reRawOf).map (·.toNat) = rxCode)
    (h : ∀ (ps : List (Str × Tok)) (tk' : Nat), ps.map (·.1) = signs x (2 * n - 1) → Q (.done (.ret (.ref s.heap.objs.size))) { s with heap := s.heap.push { cls := .type "list", data := .seq (ps.map fun p => Value.str p.1 p.2).toArray }, toks := tk' }) :
    wpAny M A (Builtin.«re.Pattern.split» ⟨[.ref P, .str x t], []⟩) Q E s := by
  unfold Builtin.«re.Pattern.split»
  show wpAny _ _ (reNamed "re.Pattern.split" "split" ["string", "maxsplit"] 1 [.str x t] [] >>= _) _ _ _
  rw [rx_named]
  refine wpAny_bind (wpAny_pure ?_)
  dsimp only
  refine wpAny_bind (wpAny_pure ?_)
  let tg : ReTarget := { pattern := .ref P, string := .str x t, code := rxCode, text := x.cps, kind := 0, groups := 1, pos := 0, lim := x.cps.size }
  have hz := T.size
  have hpos := T.pos
  have hz1 : x.cps.size ≤ 1000 := by lia
  refine wpAny_bind (m := reWholeTarget (.ref P) (.str x t)) (wpAny_mono (Q := fun r s' => r = tg ∧ s' = s) ?_ (fun r s' hr => ?_) fun _ _ e => e)
  · unfold reWholeTarget
    refine wpAny_bind (wpAny_fieldsOf hP hpd ?_)
    refine wpAny_bind (m := reTextOf (.str x t)) (wpAny_pure ?_)
    refine wpAny_bind (wpAny_pure ?_)
    refine wpAny_bind (m := reRawItems (.ref C)) ?_
    unfold reRawItems
    refine wpAny_bind (wpAny_seqItems hC hcd (wpAny_pure ?_))
    refine wpAny_pure ⟨?_, rfl⟩
    show ReTarget.mk _ _ ((cv.map reRawOf).map (·.toNat)) _ _ _ _ _ = _
    rw [hcv]
    rfl
  · rw [hr.1, hr.2]
    refine wpAny_bind (wpAny_forIn_list _ (fun rest st s' => ∃ (i : Nat) (ps : List (Str × Tok)) (tk' : Nat) (over : Bool), i < n ∧ st = ((ps.map fun p => Value.str p.1 p.2).toArray, 2 * i, 2 * i, false, (i : Int), over) ∧ ps.map (·.1) = signs x (2 * i) ∧ s' = { s with toks := tk' } ∧ (over = false → n ≤ rest.length + i) ∧ (over = true → i + 1 = n)) _ ?_ ?_ _ _ ?_)
    · rintro y rest st s' ⟨i, ps, tk', over, hi, rfl, hps, rfl, ho1, ho2⟩
      dsimp only
      cases over with
      | true =>
        rw [if_neg (by decide)]
        exact wpAny_pure ⟨i, ps, tk', true, hi, rfl, hps, rfl, fun e => (nomatch e), ho2⟩
      | false =>
        have ho := ho1 rfl
        rw [List.length_cons] at ho
        rw [if_pos (by decide), if_neg (by simp)]
        refine wpAny_bind (rx_next (t := tg) T hi rfl rfl rfl rfl (fun hi1 m e1 e2 e3 e4 => ?_) (fun hi1 => ?_))
        · dsimp only
          rw [e1]
          refine wpAny_bind (rx_slice hz1 ?_)
          show wpAny M A (forIn [0] _ _ >>= _) _ _ _
          simp only [List.forIn_cons, List.forIn_nil]
          refine wpAny_bind (wpAny_bind (wpAny_bind ?_))
          unfold reMachineGroup
          rw [e4, if_neg (by decide), e3]
          show wpAny M A (if 2 * i + 2 < 2 * i + 1 then _ else reSlice x.cps 0 (2 * i + 1) (2 * i + 2)) _ _ _
          rw [if_neg (by lia)]
          refine rx_slice hz1 (wpAny_pure (wpAny_pure ?_))
          dsimp only
          rw [e2]
          refine wpAny_pure ⟨i + 1, ps ++ [(⟨x.cps.extract (2 * i) (2 * i + 1)⟩, tk'), (⟨x.cps.extract (2 * i + 1) (2 * i + 2)⟩, tk' + 1)], _, false, hi1, ?_, ?_, rfl, fun _ => by lia, fun e => (nomatch e)⟩
          · congr 1
            · simp
            · congr 1
              congr 1
              congr 1
              · simp
          · rw [List.map_append, hps]
            show _ = (List.range (2 * i + 2)).map (signAt x)
            rw [List.range_succ, List.range_succ, List.map_append, List.map_append, List.append_assoc]
            rfl
        · exact wpAny_pure ⟨i, ps, tk', true, hi, rfl, hps, rfl, fun e => (nomatch e), fun _ => hi1⟩
    · rintro st s' ⟨i, ps, tk', over, hi, rfl, hps, rfl, ho1, ho2⟩
      cases over with
      | false => exact absurd (ho1 rfl) (by simp; lia)
      | true =>
        have e := ho2 rfl
        dsimp only
        rw [if_neg (by decide)]
        refine wpAny_bind (rx_slice hz1 (wpAny_bind (wpAny_newList (hsz := ?hs) (wpAny_pure ?_))))
        case hs =>
          have hl := congrArg List.length hps
          simp only [List.length_map, List.length_range] at hl
          simp only [Array.toList_push, List.length_append, List.length_map, List.length_singleton]
          rw [sizeLine_eq]; lia
        have := h (ps ++ [(⟨x.cps.extract (2 * i) x.cps.size⟩, tk')]) (tk' + 1) ?_
        · simpa using this
        · rw [List.map_append, hps, show 2 * n - 1 = 2 * i + 1 by lia, show x.cps.size = 2 * i + 1 by lia]
          show _ = (List.range (2 * i + 1)).map (signAt x)
          rw [List.range_succ, List.map_append]
          rfl
    · refine ⟨0, [], s.toks, false, hpos, rfl, rfl, rfl, fun _ => ?_, fun e => (nomatch e)⟩
      show n ≤ (List.range (2 * x.cps.size + 3)).length + 0
      rw [List.length_range]; lia
end
end Mine
end
section
open PySem PySem.W PyProof.Rows PySem.Calls Builtin Builtin.ObjectAttr Builtin.Getset_descriptor
set_option Elab.async false
set_option maxRecDepth 100000
set_option maxHeartbeats 400000
namespace Mine
theorem plainAttrs_pat : PlainAttrs "re.Pattern" :=
  ⟨⟨"object.__getattribute__", by rw [typeLookup_type, builtinLookup_eq_fast]; kernel_rfl, by decide +kernel⟩, by rw [typeLookup_type, builtinLookup_eq_fast]; kernel_rfl⟩
theorem slot_pat_split : Slot "re.Pattern" "split" "re.Pattern.split" :=
  .of (owner := "re.Pattern") (n := "split") (by rw [typeLookup_type, builtinLookup_eq_fast]; kernel_rfl) (by decide +kernel) (by decide +kernel) (by decide +kernel)
    (by first | exact .inl (by decide +kernel) | exact .inr (by decide +kernel)) (by rw [isSubtype_type]; kernel_rfl)
theorem type_pat_split : typeOf (.builtin "re.Pattern.split") = pure (.type "method_descriptor") := by show builtinType _ = _; rw [builtinType_eq_fast]; kernel_rfl
theorem entry_pat_split : entryFor table "re.Pattern.split" = some Builtin.«re.Pattern.split» := entryFor_of_tree (by kernel_rfl)
theorem args_pat_split (a b : Value) : argsOk "re.Pattern.split" ⟨[a, b], []⟩ := by unfold argsOk; kernel_rfl
noncomputable def codeChk (K : Frag) : Bool := match K.lookup 56 with
  | some ⟨_, _, .seq cv _, _⟩ => (cv.map Builtin.Re.reRawOf).map (·.toNat) == rxCode
  | _ => false
theorem pat_code {w : World} {h : Heap} (X : (hd.heap_39 w.params).In h) : ∃ (o : Obj) (cv : Array Value) (cn : Nat), h.get? 56 = some o ∧ o.data = .seq cv cn ∧ (cv.map Builtin.Re.reRawOf).map (·.toNat) = rxCode := by
  have e : codeChk (hd.heap_39 w.params) = true := by kernel_rfl
  unfold codeChk at e
  split at e
  · rename_i c d cv n sl ho
    exact ⟨_, cv, n, X _ _ ho, rfl, beq_iff_eq.mp e⟩
  · cases e
theorem pat_obj {w : World} {h : Heap} (X : (hd.heap_39 w.params).In h) : h.get? 57 = some { cls := .type "re.Pattern", data := .fields #[.str (Str.ofString "([ \t]+)") 328, .int 32 353, .int 1 0, .none, .none, .ref 56, .int 0 0] } :=
  X _ _ (by kernel_rfl)
section
variable {w : World} {A : Around} {E : Value → Shared → Prop} {s : Shared} {h₀ : Heap} {L : Addr} {m : Str → Option Value} {news : List (Addr × Obj)}
theorem pat_meth {pl : Sem Bool} {Q : Value × List Value → Shared → Prop} (F : Fr h₀ L s.heap m) (X : (hd.heap_39 w.params).In h₀) (h : Q (.builtin "re.Pattern.split", [.ref 57]) s) : wpAny (model pr w) A (getMethod (.ref 57) (Str.ofString "split") pl) Q E s :=
  getMethod_builtin ⟨_, pat_obj (X.keeps F.keep), rfl⟩ plainAttrs_pat slot_pat_split type_pat_split (fun a e => by cases e; exact ⟨_, pat_obj (X.keeps F.keep), rfl⟩) h
theorem pat_split {x : Str} {n : Nat} {t : Tok} {Q : Value → Shared → Prop} (T : Typed x n) (hn : n ≤ 100) (F : Fr h₀ L s.heap m) (X : (hd.heap_39 w.params).In h₀) (N : News h₀ L s.heap news)
    (h : ∀ (l : Addr) (ps : List (Str × Tok)) (h' : Heap) (tk' : Nat), ps.map (·.1) = signs x (2 * n - 1) → (∀ p ∈ news, p.1 < l) → Fr h₀ L h' m → News h₀ L h' ((l, W.listOf (linesV ps) 0) :: news) → Q (.ref l) { s with heap := h', toks := tk' }) :
    wpAny (model pr w) A (call (.builtin "re.Pattern.split") [.ref 57, .str x t]) Q E s := by
  have X' := X.keeps F.keep
  obtain ⟨co, cv, cn, hC, hcd, hcv⟩ := pat_code X'
  refine wpAny_call_entry slot_pat_split ⟨_, pat_obj X', rfl⟩ entry_pat_split ?_ (args_pat_split _ _)
  refine rx_split T hn (pat_obj X') rfl hC hcd hcv fun ps tk' hps => ⟨_, rfl, ?_⟩
  exact h _ ps _ tk' hps (fun p hp => Heap.lt_size (N p hp).1) (F.push _) (N.push F _)
end
end Mine
end
section
open PySem PySem.W PyProof.Rows PySem.Calls
set_option Elab.async false
set_option maxRecDepth 100000
set_option maxHeartbeats 400000
namespace Mine
/-- a zip of one iterator drawn twice -/
structure ZApart (z TI TO it l : Addr) : Prop where
  TIz : TI ≠ z
  TOz : TO ≠ z
  iz : it ≠ z
  TITO : TI ≠ TO
  TIi : TI ≠ it
  TOi : TO ≠ it
  lz : l ≠ z
  lTO : l ≠ TO
  li : l ≠ it
section
variable {prog : Program} {w : World} {A : Around} {E : Value → Shared → Prop} {s : Shared}
theorem zone_item {z TI TO it l : Addr} {k : Nat} {xs : Array Value} {x y a b : Value} {Q : Value → Shared → Prop} (D : ZApart z TI TO it l)
    (hz : IsZip s.heap z TI TO .none) (hTI : IsPair s.heap TI (.ref it) (.ref it)) (hTO : IsPair s.heap TO a b)
    (h1 : s.heap.IsListIter it l k) (hl1 : s.heap.IsList l xs) (hx : xs[k]? = some x) (hy : xs[k + 1]? = some y)
    (hQ : ∀ h', IsZip h' z TI TO (rawInt s.heap.objs.size) → IsPair h' TO x y → h'.IsListIter it l (k + 1 + 1) → IsPair h' s.heap.objs.size x y → h'.objs.size = s.heap.objs.size + 1 →
      (∀ c o, c ≠ z → c ≠ TO → c ≠ it → s.heap.get? c = some o → h'.get? c = some o) → Q (.ref s.heap.objs.size) { s with heap := h' }) :
    wpAny (model prog w) A (Builtin.«zip.__next__» ⟨[.ref z], []⟩) (fun fin s' => ∃ v, fin = .done (.ret v) ∧ Q v s') E s := by
  show wpAny _ _ (field (.ref z) 2 >>= _) _ _ _
  refine wpAny_bind (wpAny_field hz rfl (x := .bool false) rfl ?_)
  show wpAny _ _ (field (.ref z) 3 >>= _) _ _ _
  refine wpAny_bind (wpAny_field hz rfl (x := .ref TI) rfl ?_)
  refine wpAny_bind (wpAny_seqItems hTI rfl ?_)
  show wpAny _ _ (Builtin.SmallTypes.ownedTupleIsFree (.ref z) >>= _) _ _ _
  refine wpAny_bind ?_
  unfold Builtin.SmallTypes.ownedTupleIsFree
  refine wpAny_bind (wpAny_field hz rfl (x := .none) rfl (wpAny_pure ?_))
  simp only [if_true]
  refine wpAny_bind (wpAny_rule ?_)
  refine wpAny_bind (wpAny_field hz rfl (x := .ref TO) rfl ?_)
  refine wpAny_bind (wpAny_setField_rec hz (by simp) fun h₁ hz₁ hs₁ => ?_)
  replace hz₁ : IsZip h₁ z TI TO .ellipsis := hz₁
  refine wpAny_bind ?_
  simp only [List.zipIdx_cons, List.zipIdx_nil, List.forIn_cons, List.forIn_nil]
  refine wpAny_bind (wpAny_bind (wpAny_onRaise ?_))
  show wpAny _ _ (Builtin.SmallTypes.nextOf (.ref it) >>= _) _ _ _
  refine wpAny_bind (wpAny_nextOf_list_item (h1.extBut hs₁.extBut D.iz) (hl1.extBut hs₁.extBut D.lz) hx fun h₂ h1₂ hs₂ => wpAny_pure ?_)
  have hTO₂ : IsPair h₂ TO a b := hs₂.extBut _ _ D.TOi (hs₁.extBut _ _ D.TOz hTO)
  refine wpAny_bind (wpAny_seqItems hTO₂ rfl ?_)
  refine wpAny_bind (wpAny_updateSeq_pair hTO₂ fun h₃ hTO₃ hs₃ => ?_)
  replace hTO₃ : IsPair h₃ TO x b := hTO₃
  refine wpAny_bind (wpAny_letGo (wpAny_pure ?_))
  refine wpAny_bind (wpAny_bind (wpAny_onRaise ?_))
  show wpAny _ _ (Builtin.SmallTypes.nextOf (.ref it) >>= _) _ _ _
  refine wpAny_bind (wpAny_nextOf_list_item (h1₂.extBut hs₃.extBut D.TOi.symm)
    (((hl1.extBut hs₁.extBut D.lz).extBut hs₂.extBut D.li).extBut hs₃.extBut D.lTO) hy fun h₄ h2₄ hs₄ => wpAny_pure ?_)
  have hTO₄ : IsPair h₄ TO x b := hs₄.extBut _ _ D.TOi hTO₃
  refine wpAny_bind (wpAny_seqItems hTO₄ rfl ?_)
  refine wpAny_bind (wpAny_updateSeq_pair hTO₄ fun h₅ hTO₅ hs₅ => ?_)
  replace hTO₅ : IsPair h₅ TO x y := hTO₅
  refine wpAny_bind (wpAny_letGo (wpAny_pure (wpAny_pure ?_)))
  refine wpAny_bind (wpAny_seqItems hTO₅ rfl ?_)
  refine wpAny_bind (wpAny_newTuple ?_)
  have hsz : h₅.objs.size = s.heap.objs.size := by rw [hs₅.1, hs₄.1, hs₃.1, hs₂.1, hs₁.1]
  have hz₅ : IsZip h₅ z TI TO .ellipsis := hs₅.extBut _ _ D.TOz.symm (hs₄.extBut _ _ D.iz.symm (hs₃.extBut _ _ D.TOz.symm (hs₂.extBut _ _ D.iz.symm hz₁)))
  have hk₅ : ∀ c o, c ≠ z → c ≠ TO → c ≠ it → s.heap.get? c = some o → h₅.get? c = some o := fun c o c1 c2 c3 e =>
    hs₅.extBut _ _ c2 (hs₄.extBut _ _ c3 (hs₃.extBut _ _ c2 (hs₂.extBut _ _ c3 (hs₁.extBut _ _ c1 e))))
  have h2₅ : h₅.IsListIter it l (k + 1 + 1) := h2₄.extBut hs₅.extBut D.TOi.symm
  have hzlt : z < h₅.objs.size := Heap.lt_size hz₅
  show wpAny _ _ (Builtin.SmallTypes.ownedTupleHandOut (.ref z) (.ref h₅.objs.size) >>= _) _ _ _
  refine wpAny_bind ?_
  unfold Builtin.SmallTypes.ownedTupleHandOut
  have hz₆ : IsZip (h₅.push { cls := .type "tuple", data := .seq #[x, y] }) z TI TO .ellipsis := Heap.get?_push_of_some _ hz₅
  refine wpAny_bind (wpAny_setField_rec hz₆ (by simp) fun h₇ hz₇ hs₇ => ?_)
  replace hz₇ : IsZip h₇ z TI TO (rawInt h₅.objs.size) := hz₇
  refine wpAny_setField_rec hz₇ (by simp) fun h₈ hz₈ hs₈ => ?_
  replace hz₈ : IsZip h₈ z TI TO (rawInt h₅.objs.size) := hz₈
  have up : ∀ c o, c ≠ z → h₅.get? c = some o → h₈.get? c = some o := fun c o c1 e => hs₈.extBut _ _ c1 (hs₇.extBut _ _ c1 (Heap.get?_push_of_some _ e))
  have hT₈ : IsPair h₈ h₅.objs.size x y := hs₈.extBut _ _ (Nat.ne_of_gt hzlt) (hs₇.extBut _ _ (Nat.ne_of_gt hzlt) (Heap.get?_push_size _ rfl))
  have hz8 : h₈.objs.size = h₅.objs.size + 1 := by rw [hs₈.1, hs₇.1, Heap.size_push]
  rw [hsz] at hz₈ hT₈ hz8
  refine wpAny_pure ⟨_, rfl, ?_⟩
  show Q (.ref h₅.objs.size) _
  rw [hsz]
  exact hQ h₈ hz₈ (up _ _ D.TOz hTO₅) (h2₅.at fun o e => up _ o D.iz e) hT₈ hz8 fun c o c1 c2 c3 e => up c o c1 (hk₅ c o c1 c2 c3 e)
theorem zone_end {z TI TO it l : Addr} {k : Nat} {xs : Array Value} {a b : Value} {Q : PySem.Fin → Shared → Prop} (hh : A.handled = none) (D : ZApart z TI TO it l)
    (hz : IsZip s.heap z TI TO .none) (hTI : IsPair s.heap TI (.ref it) (.ref it)) (hTO : IsPair s.heap TO a b)
    (h1 : s.heap.IsListIter it l k) (hl1 : s.heap.IsList l xs) (hend : xs[k]? = none)
    (hE : ∀ h' e, (∀ c o, c ≠ z → c ≠ TO → c ≠ it → s.heap.get? c = some o → h'.get? c = some o) → (∃ o, h'.get? e = some o ∧ o.cls = .type "StopIteration") → E (.ref e) { s with heap := h' }) :
    wpAny (model prog w) A (Builtin.«zip.__next__» ⟨[.ref z], []⟩) Q E s := by
  show wpAny _ _ (field (.ref z) 2 >>= _) _ _ _
  refine wpAny_bind (wpAny_field hz rfl (x := .bool false) rfl ?_)
  show wpAny _ _ (field (.ref z) 3 >>= _) _ _ _
  refine wpAny_bind (wpAny_field hz rfl (x := .ref TI) rfl ?_)
  refine wpAny_bind (wpAny_seqItems hTI rfl ?_)
  show wpAny _ _ (Builtin.SmallTypes.ownedTupleIsFree (.ref z) >>= _) _ _ _
  refine wpAny_bind ?_
  unfold Builtin.SmallTypes.ownedTupleIsFree
  refine wpAny_bind (wpAny_field hz rfl (x := .none) rfl (wpAny_pure ?_))
  simp only [if_true]
  refine wpAny_bind (wpAny_rule ?_)
  refine wpAny_bind (wpAny_field hz rfl (x := .ref TO) rfl ?_)
  refine wpAny_bind (wpAny_setField_rec hz (by simp) fun h₁ hz₁ hs₁ => ?_)
  replace hz₁ : IsZip h₁ z TI TO .ellipsis := hz₁
  refine wpAny_bind ?_
  simp only [List.zipIdx_cons, List.zipIdx_nil, List.forIn_cons, List.forIn_nil]
  refine wpAny_bind (wpAny_bind (wpAny_onRaise ?_))
  show wpAny _ _ (Builtin.SmallTypes.nextOf (.ref it) >>= _) _ _ _
  refine wpAny_bind (wpAny_nextOf_list_end hh (h1.extBut hs₁.extBut D.iz) (hl1.extBut hs₁.extBut D.lz) hend fun h₂ e hs₂ he => ?_)
  obtain ⟨oe, hoe, hce⟩ := he
  have hz₂ : IsZip h₂ z TI TO .ellipsis := hs₂ _ _ D.iz.symm hz₁
  have hez : e ≠ z := fun x => by subst x; rw [hz₂] at hoe; cases hoe; simp at hce
  refine wpAny_setField_rec hz₂ (by simp) fun h₃ _ hs₃ => hE h₃ e (fun c o c1 _ c3 x => hs₃.extBut _ _ c1 (hs₂ _ _ c3 (hs₁.extBut _ _ c1 x))) ⟨oe, hs₃.extBut _ _ hez hoe, hce⟩
theorem zone_next {z TI TO it l : Addr} {k : Nat} {xs : Array Value} {x y a b : Value} {Q : Option Value → Shared → Prop} (D : ZApart z TI TO it l)
    (hz : IsZip s.heap z TI TO .none) (hTI : IsPair s.heap TI (.ref it) (.ref it)) (hTO : IsPair s.heap TO a b)
    (h1 : s.heap.IsListIter it l k) (hl1 : s.heap.IsList l xs) (hx : xs[k]? = some x) (hy : xs[k + 1]? = some y)
    (hQ : ∀ h', IsZip h' z TI TO (rawInt s.heap.objs.size) → IsPair h' TO x y → h'.IsListIter it l (k + 1 + 1) → IsPair h' s.heap.objs.size x y → h'.objs.size = s.heap.objs.size + 1 →
      (∀ c o, c ≠ z → c ≠ TO → c ≠ it → s.heap.get? c = some o → h'.get? c = some o) → Q (some (.ref s.heap.objs.size)) { s with heap := h' }) :
    wpAny (model prog w) A (pyNext (.ref z)) Q E s := by
  have hT : s.TypeIs (.ref z) "zip" := ⟨_, hz, rfl⟩
  unfold pyNext
  exact wpAny_bind (wpAny_attempt (wpAny_callSpecial?_slot (name := Str.ofString "__next__") hT F.slot_zip_next
    (wpAny_call_entry F.slot_zip_next hT F.entry_zip_next
      (zone_item D hz hTI hTO h1 hl1 hx hy fun h' a1 a2 a3 a5 a6 a7 => wpAny_pure (hQ h' a1 a2 a3 a5 a6 a7)) (F.args_zip_next_1 _))))
theorem zone_last {z TI TO it l : Addr} {k : Nat} {xs : Array Value} {a b : Value} {Q : Option Value → Shared → Prop} (hh : A.handled = none) (D : ZApart z TI TO it l)
    (hz : IsZip s.heap z TI TO .none) (hTI : IsPair s.heap TI (.ref it) (.ref it)) (hTO : IsPair s.heap TO a b)
    (h1 : s.heap.IsListIter it l k) (hl1 : s.heap.IsList l xs) (hend : xs[k]? = none)
    (hQ : ∀ h', (∀ c o, c ≠ z → c ≠ TO → c ≠ it → s.heap.get? c = some o → h'.get? c = some o) → Q none { s with heap := h' }) : wpAny (model prog w) A (pyNext (.ref z)) Q E s := by
  have hT : s.TypeIs (.ref z) "zip" := ⟨_, hz, rfl⟩
  unfold pyNext
  refine wpAny_bind (wpAny_attempt (wpAny_callSpecial?_slot (name := Str.ofString "__next__") hT F.slot_zip_next
    (wpAny_call_entry F.slot_zip_next hT F.entry_zip_next (zone_end hh D hz hTI hTO h1 hl1 hend fun h' e hk he => ?_) (F.args_zip_next_1 _))))
  obtain ⟨o, ho, hc⟩ := he
  refine wpAny_bind (wpAny_isInstance (T := "StopIteration") (b := true) ⟨o, ho, hc⟩ isSubtype_stop ?_)
  exact wpAny_pure (hQ _ hk)
end
noncomputable abbrev zoneH1 (h : Heap) (it : Addr) : Heap := h.push { cls := .type "tuple", data := .seq #[.ref it, .ref it] }
noncomputable abbrev zoneH2 (h : Heap) (it : Addr) : Heap := (zoneH1 h it).push { cls := .type "tuple", data := .seq #[.none, .none] }
noncomputable abbrev zoneH3 (h : Heap) (it : Addr) : Heap := (zoneH2 h it).push { cls := .type "zip", data := .fields #[.none, .bool false, .bool false, .ref h.objs.size, .ref (zoneH1 h it).objs.size] }
theorem meets_zone (it l : Addr) (k : Nat) :
    Meets (Builtin.«zip.__new__» ⟨[.type "zip", .ref it, .ref it], []⟩) (fun _ R s => s.heap.IsListIter it l k ∧
      R (.ok (.ret (.ref (zoneH2 s.heap it).objs.size))) { s with heap := zoneH3 s.heap it }) :=
  .of_wp fun prog w A R s h => by
    obtain ⟨hp, g, d, tk, os⟩ := s; obtain ⟨hl1, h⟩ := h
    have hsub := sub_zip
    have hL1 : Heap.IsListIter (Shared.heap ⟨hp, g, d, tk, os⟩) it l k := hl1
    wp_walk using wpAny_pyIter_listiter hL1
    exact ⟨_, rfl, h⟩
section
variable {prog : Program} {w : World} {A : Around} {E : Value → Shared → Prop} {s : Shared}
theorem call_zone {it l : Addr} {k : Nat} {Q : Value → Shared → Prop} (hl1 : s.heap.IsListIter it l k)
    (h : Q (.ref (s.heap.objs.size + 2)) { s with heap := zoneH3 s.heap it }) :
    wpAny (model prog w) A (call (.type "zip") [.ref it, .ref it]) Q E s := by
  refine callType_new F.called_zip (by decide) (F.typeCall_zip_2 _ _) (F.newCall_zip_2 _ _) (fun obj => F.args_object_init_3 obj _ _) F.entry_zip_new
    (meets_zone it l k) ⟨hl1, ?_⟩
  have z1 : (zoneH1 s.heap it).objs.size = s.heap.objs.size + 1 := Heap.size_push ..
  have z2 : (zoneH2 s.heap it).objs.size = s.heap.objs.size + 2 := by rw [Heap.size_push, z1]
  have z3 : (zoneH3 s.heap it).objs.size = s.heap.objs.size + 3 := by rw [Heap.size_push, z2]
  have g3 : (zoneH3 s.heap it).get? (zoneH2 s.heap it).objs.size = some _ := Heap.get?_push_size _ rfl
  show _ ∧ _
  rw [z2] at g3
  rw [z2]
  exact ⟨⟨_, g3, rfl⟩, h⟩
end
end Mine
end
section
open PySem PySem.W PyProof.Rows PySem.Calls Builtin Builtin.ObjectAttr Builtin.Getset_descriptor Builtin.List
set_option Elab.async false
set_option maxRecDepth 100000
set_option maxHeartbeats 400000
namespace Mine
section
variable {w : World} {A : Around} {E : Value → Shared → Prop} {h : Heap} {g : Array GenState} {d : Drawn} {t : Nat} {os : OsState} {x sl l L : Addr} {vs us : Array Value} {n c : Nat} {tj : Tok} {h₀ : Heap} {m : Str → Option Value} {news news' : List (Addr × Obj)}
/-- x[:0] = us, x and us lists of the ledger -/
theorem front_K {Q : Unit → Shared → Prop} (F : Fr h₀ L h m) (X₀ : (hd.heap_39 w.params).In h₀) (N : News h₀ L h news) (hl : (l, W.listOf us c) ∈ news) (U : Upd x (W.listOf vs n) (W.listOf (us ++ vs) (if (us ++ vs).size == vs.size then n else n + 1)) news news')
    (hxl : x ≠ l) (hz : vs.size ≤ 1000) (hu : us.size ≤ 1000)
    (hq : ∀ h', Fr h₀ L h' m → News h₀ L h' news' → Q () ⟨h', g, d, t, os⟩) :
    wpAny (model pr w) A (setItem (.ref x) (.ref h.objs.size) (.ref l)) Q E ⟨h.push (sliceO .none (.int 0 tj) .none), g, d, t, os⟩ := by
  obtain ⟨pre, post, rfl, rfl, a, b⟩ := U.split
  have F1 : Fr h₀ L (h.push (sliceO .none (.int 0 tj) .none)) m := F.push _
  have N1 := N.push F (sliceO .none (.int 0 tj) .none)
  have X := X₀.keeps F1.keep
  have z := N1 (x, W.listOf vs n) (.tail _ (List.mem_append.mpr (.inr (.head _))))
  have hsl := (N1 _ (.head _)).1
  have t0 : Looks (model pr w) (h.push (sliceO .none (.int 0 tj) .none)) (typeOf (.ref x)) (.type "list") := (Looks.ld z.1).andThen .now
  have e1 : putSlice vs us 0 0 = us ++ vs := by
    apply Array.ext'
    simp [putSlice]
  refine list_setslice (st := 0) (en := 0) z.1 rfl (t0.andThen (Looks.of_peek X (by kernel_rfl))) (Looks.of_peek X (by kernel_rfl)) ?_ hsl (parts_hi hsl) ind_hi (N1 _ (.tail _ hl)).1 hxl hz hu (by rw [e1, Array.size_append]; lia) ?_
  · unfold sequenceKey
    exact t0.andThen (Looks.of_peek X (by kernel_rfl))
  · intro h' hs ho'
    rw [e1] at ho'
    exact hq h' (F1.change hs z.2.1 z.2.2) (news_set (fun p hp => N1 p (.tail _ hp)) a b hs ho')
end
section
variable {w : World} {A : Around} {E : Value → Shared → Prop} {s : Shared} {h₀ : Heap} {L it l : Addr} {m : Str → Option Value} {news : List (Addr × Obj)}
noncomputable abbrev zipO (TI TO : Addr) : Obj := { cls := .type "zip", dict := none, data := .fields #[.none, .bool false, .bool false, .ref TI, .ref TO], slots := #[] }
noncomputable abbrev pairO (a b : Value) : Obj := { cls := .type "tuple", data := .seq #[a, b] }
noncomputable abbrev iterO (l : Addr) (k : Nat) : Obj := { cls := .type "list_iterator", data := .fields #[.ref l, .int k 0] }
/-- zip(it, it) -/
theorem zone_K {k : Nat} {Q : Value → Shared → Prop} (F : Fr h₀ L s.heap m) (N : News h₀ L s.heap news) (hi : (it, iterO l k) ∈ news)
    (h : ∀ (TI TO z : Addr) (h' : Heap), (∀ p ∈ news, p.1 < TI) → TI < TO → TO < z → Fr h₀ L h' m → News h₀ L h' ((z, zipO TI TO) :: (TO, pairO .none .none) :: (TI, pairO (.ref it) (.ref it)) :: news) → Q (.ref z) { s with heap := h' }) :
    wpAny (model pr w) A (call (.type "zip") [.ref it, .ref it]) Q E s := by
  have z1 : (zoneH1 s.heap it).objs.size = s.heap.objs.size + 1 := Heap.size_push ..
  have z2 : (zoneH2 s.heap it).objs.size = s.heap.objs.size + 2 := by rw [Heap.size_push, z1]
  refine call_zone (l := l) (k := k) ⟨_, (N _ hi).1, rfl, rfl⟩ ?_
  have F1 : Fr h₀ L (zoneH1 s.heap it) m := F.push _
  have F2 : Fr h₀ L (zoneH2 s.heap it) m := F1.push _
  have N1 := N.push F (pairO (.ref it) (.ref it))
  have N2 := N1.push F1 (pairO .none .none)
  have N3 := N2.push F2 (zipO s.heap.objs.size (s.heap.objs.size + 1))
  refine h s.heap.objs.size (s.heap.objs.size + 1) (s.heap.objs.size + 2) (zoneH3 s.heap it) (fun p hp => Heap.lt_size (N p hp).1) (Nat.lt_succ_self _) (Nat.lt_succ_self _) (F2.push _) ?_
  have e : (zoneH2 s.heap it).objs.size = s.heap.objs.size + 2 := z2
  have e' : (zoneH1 s.heap it).objs.size = s.heap.objs.size + 1 := z1
  rw [z2, z1] at N3
  unfold zoneH3
  rw [z1]
  exact N3
end
end Mine
end
section
open PySem PySem.W PyProof.Rows PySem.Calls Builtin Builtin.ObjectAttr Builtin.Getset_descriptor Builtin.List
set_option Elab.async false
set_option maxRecDepth 100000
set_option maxHeartbeats 400000
namespace Mine
noncomputable abbrev Chunk := Str × Str
noncomputable def lenL (l : List Chunk) : Int := (l.map fun p => ((p.1.length + p.2.length : Nat) : Int)).sum
noncomputable def pieceL (p : Chunk) : Str := Txt.join Str.empty [p.1, p.2]
noncomputable def textL (l : List Chunk) : Str := Txt.join Str.empty (l.map pieceL)
noncomputable def textsOf (parts : List Part) : List Chunk := parts.map fun p => (p.2.1.1, p.2.2.1)
theorem lenOf_eq (parts : List Part) : lenOf parts = lenL (textsOf parts) := by
  unfold lenOf lenL textsOf; rw [List.map_map]; rfl
theorem textOf_eq (parts : List Part) : textOf parts = textL (textsOf parts) := by
  unfold textOf textL textsOf; rw [List.map_map]; rfl
theorem texts_snoc (parts : List Part) (t : Addr) (a b : Str) (ta tb : Tok) : textsOf (parts ++ [(t, (a, ta), (b, tb))]) = textsOf parts ++ [(a, b)] := by simp [textsOf]
structure Plan (mx : Int) (N : Nat) (chs : Nat → Chunk) (ls : Nat → List Str) (cur : Nat → List Chunk) (k : Nat → Int) : Prop where
  step : ∀ i, i < N → (k i + lenL (cur i ++ [chs i]) ≤ mx ∧ ls (i + 1) = ls i ∧ cur (i + 1) = cur i ++ [chs i] ∧ k (i + 1) = k i) ∨
    (mx < k i + lenL (cur i ++ [chs i]) ∧ (chs i).1 = Str.ofString " " ∧ cur i ≠ [] ∧ ls (i + 1) = ls i ++ [textL (cur i)] ∧ cur (i + 1) = [chs i] ∧ k (i + 1) = 0)
  short : ∀ i, i ≤ N → (cur i).length ≤ 98 ∧ (ls i).length ≤ 900 ∧ 0 ≤ k i ∧ k i ≤ 1000
  ch : ∀ i, i < N → (chs i).1.length ≤ 1 ∧ (chs i).2.length ≤ 1
/-- the list's items are the chunks -/
noncomputable def Vals (vs : Array Value) (N : Nat) (chs : Nat → Chunk) : Prop := vs.size = 2 * N ∧ ∀ i, i < N → ∃ ta tb, vs[2 * i]? = some (.str (chs i).1 ta) ∧ vs[2 * i + 1]? = some (.str (chs i).2 tb)
theorem ne_cls {h₀ h : Heap} {L : Addr} {news : List (Addr × Obj)} {p q : Addr × Obj} (N : News h₀ L h news) (h1 : p ∈ news) (h2 : q ∈ news) (hc : p.2.cls ≠ q.2.cls) : p.1 ≠ q.1 := by
  intro e
  have a := (N _ h1).1
  have b := (N _ h2).1
  rw [e, b] at a
  exact hc (congrArg Obj.cls (Option.some.inj a)).symm
theorem cons_sub {α : Type} {x : α} {A B : List α} (h : ∀ p ∈ A, p ∈ B) : ∀ p ∈ x :: A, p ∈ x :: B := fun _ hp =>
  (List.mem_cons.mp hp).elim (fun e => e ▸ .head _) fun q => .tail _ (h _ q)
theorem cons_or {α : Type} {x : α} {A B C : List α} (h : ∀ p ∈ A, p ∈ C ∨ p ∈ B) : ∀ p ∈ x :: A, p ∈ C ∨ p ∈ x :: B := fun _ hp =>
  (List.mem_cons.mp hp).elim (fun e => .inr (e ▸ .head _)) fun q => (h _ q).elim .inl fun r => .inr (.tail _ r)
theorem cons5 {α : Type} {a b c d e : α} {A C : List α} (ha : a ∈ C) (hb : b ∈ C) (hc : c ∈ C) (hd : d ∈ C) (he : e ∈ C) : ∀ p ∈ a :: b :: c :: d :: e :: A, p ∈ C ∨ p ∈ A := fun p hp => by
  rcases List.mem_cons.mp hp with rfl | hp
  · exact .inl ha
  rcases List.mem_cons.mp hp with rfl | hp
  · exact .inl hb
  rcases List.mem_cons.mp hp with rfl | hp
  · exact .inl hc
  rcases List.mem_cons.mp hp with rfl | hp
  · exact .inl hd
  rcases List.mem_cons.mp hp with rfl | hp
  · exact .inl he
  exact .inr hp
theorem three_or {α : Type} {a b c : α} {A : List α} : ∀ p ∈ a :: b :: c :: A, p ∈ [a, b, c] ∨ p ∈ A := fun p hp => by
  rcases List.mem_cons.mp hp with rfl | hp
  · exact .inl (.head _)
  rcases List.mem_cons.mp hp with rfl | hp
  · exact .inl (.tail _ (.head _))
  rcases List.mem_cons.mp hp with rfl | hp
  · exact .inl (.tail _ (.tail _ (.head _)))
  exact .inr hp
section
variable (w : World) (h₀ : Heap) (L f fd ll x dx z TI TO it l : Addr) (mx : Int) (T : FT) (vs : Array Value) (cl N : Nat) (chs : Nat → Chunk) (lsF : Nat → List Str) (cur : Nat → List Chunk) (k : Nat → Int) (rest₀ : List (Addr × Obj)) (os : OsState)
/-- the zip's own objects -/
noncomputable abbrev ZR (a b : Value) (io : Obj) (rest : List (Addr × Obj)) : List (Addr × Obj) := (z, zipO TI TO) :: (TO, pairO a b) :: (it, io) :: rest
/-- the state ahead of turn i -/
structure LS (i : Nat) (s : Shared) (m : Str → Option Value) (parts : List Part) (ls : List (Str × Tok)) (c n : Nat) (ti te : Tok) (ps qs : Array Value) (a b : Value) (io : Obj) (rest : List (Addr × Obj)) : Prop where
  F : Fr h₀ L s.heap m
  self : m (Str.ofString "self") = some (.ref f)
  N : News h₀ L s.heap (AL w x dx parts n (k i) ti te ps qs (FR w f fd ll x mx T ls c (ZR z TI TO it a b io rest)))
  O : FOk f fd ll x dx parts (ZR z TI TO it a b io rest)
  TT : Tabs ps qs
  pin : PartsIn rest parts
  ne : ∀ q ∈ rest, q.1 ≠ z ∧ q.1 ≠ TO ∧ q.1 ≠ it
  ic : io.cls = .type "list_iterator"
  id : io.data = .fields #[.ref l, .int ((2 * i : Nat) : Int) 0]
  hl : (l, W.listOf vs cl) ∈ rest
  hTI : (TI, pairO (.ref it) (.ref it)) ∈ rest
  sub : ∀ q ∈ rest₀, q ∈ rest
  G : AllBare s.gens
  os : s.os = os
  tx : textsOf parts = cur i
  lx : ls.map (·.1) = lsF i
end
section
variable {w : World} {h₀ : Heap} {L f fd ll x dx z TI TO it l : Addr} {mx : Int} {T : FT} {vs : Array Value} {cl N : Nat} {chs : Nat → Chunk} {lsF : Nat → List Str} {cur : Nat → List Chunk} {k : Nat → Int} {rest₀ : List (Addr × Obj)} {os : OsState}
variable {i : Nat} {s : Shared} {m : Str → Option Value} {parts : List Part} {ls : List (Str × Tok)} {c n : Nat} {ti te : Tok} {ps qs : Array Value} {a b : Value} {io : Obj} {rest : List (Addr × Obj)}
theorem LS.mz (S : LS w h₀ L f fd ll x dx z TI TO it l mx T vs cl lsF cur k rest₀ os i s m parts ls c n ti te ps qs a b io rest) {p : Addr × Obj} (hp : p ∈ ZR z TI TO it a b io rest) : p ∈ AL w x dx parts n (k i) ti te ps qs (FR w f fd ll x mx T ls c (ZR z TI TO it a b io rest)) :=
  .tail _ (.tail _ (.tail _ (.tail _ (.tail _ (.tail _ (.tail _ hp))))))
theorem LS.apart (S : LS w h₀ L f fd ll x dx z TI TO it l mx T vs cl lsF cur k rest₀ os i s m parts ls c n ti te ps qs a b io rest) : ZApart z TI TO it l := by
  have nz := S.mz (.head _)
  have nTO := S.mz (.tail _ (.head _))
  have ni := S.mz (.tail _ (.tail _ (.head _)))
  have e1 := S.ne _ S.hTI
  have e2 := S.ne _ S.hl
  refine ⟨e1.1, ne_cls S.N nTO nz (by simp), ne_cls S.N ni nz (by rw [S.ic]; simp), e1.2.1, e1.2.2, ne_cls S.N nTO ni (by rw [S.ic]; simp), e2.1, e2.2.1, e2.2.2⟩
/-- the other objects stand where the zip's turn changes nothing -/
theorem LS.others (S : LS w h₀ L f fd ll x dx z TI TO it l mx T vs cl lsF cur k rest₀ os i s m parts ls c n ti te ps qs a b io rest) :
    ∀ p ∈ AL w x dx parts n (k i) ti te ps qs (FR w f fd ll x mx T ls c rest), p.1 ≠ z ∧ p.1 ≠ TO ∧ p.1 ≠ it := by
  have nz := S.O.apart _ (.head _)
  have nTO := S.O.apart _ (.tail _ (.head _))
  have ni := S.O.apart _ (.tail _ (.tail _ (.head _)))
  have mz := S.mz (.head _)
  have mTO := S.mz (.tail _ (.head _))
  have mi := S.mz (.tail _ (.tail _ (.head _)))
  have hf : (f, instObj 130 fd) ∈ AL w x dx parts n (k i) ti te ps qs (FR w f fd ll x mx T ls c (ZR z TI TO it a b io rest)) := .tail _ (.tail _ (.tail _ (.tail _ (.tail _ (.head _)))))
  have hfd : (fd, fmtD w mx ll x T) ∈ AL w x dx parts n (k i) ti te ps qs (FR w f fd ll x mx T ls c (ZR z TI TO it a b io rest)) := .tail _ (.tail _ (.tail _ (.tail _ (.tail _ (.tail _ (.head _))))))
  intro p hp
  rcases List.mem_cons.mp hp with rfl | hp
  · exact ⟨nz.1.symm, nTO.1.symm, ni.1.symm⟩
  rcases List.mem_cons.mp hp with rfl | hp
  · exact ⟨nz.2.1.symm, nTO.2.1.symm, ni.2.1.symm⟩
  rcases List.mem_cons.mp hp with rfl | hp
  · exact ⟨nz.2.2.1.symm, nTO.2.2.1.symm, ni.2.2.1.symm⟩
  rcases List.mem_cons.mp hp with rfl | hp
  · exact ⟨nz.2.2.2.1.symm, nTO.2.2.2.1.symm, ni.2.2.2.1.symm⟩
  rcases List.mem_cons.mp hp with rfl | hp
  · exact ⟨nz.2.2.2.2.symm, nTO.2.2.2.2.symm, ni.2.2.2.2.symm⟩
  rcases List.mem_cons.mp hp with rfl | hp
  · exact ⟨ne_cls S.N hf mz (by simp), ne_cls S.N hf mTO (by simp), ne_cls S.N hf mi (by rw [S.ic]; simp)⟩
  rcases List.mem_cons.mp hp with rfl | hp
  · exact ⟨ne_cls S.N hfd mz (by simp), ne_cls S.N hfd mTO (by simp), ne_cls S.N hfd mi (by rw [S.ic]; simp)⟩
  exact S.ne p hp
theorem FOk.zr {a' b' : Value} {io' : Obj} (O : FOk f fd ll x dx parts (ZR z TI TO it a b io rest)) (P : PartsIn rest parts) : FOk f fd ll x dx parts (ZR z TI TO it a' b' io' rest) where
  fd0 := O.fd0
  fdf := O.fdf
  fll := O.fll
  lld := O.lld
  lt := O.lt
  apart p hp := by
    rcases List.mem_cons.mp hp with rfl | hp
    · exact O.apart _ (.head _)
    rcases List.mem_cons.mp hp with rfl | hp
    · exact O.apart (TO, pairO a b) (.tail _ (.head _))
    rcases List.mem_cons.mp hp with rfl | hp
    · exact O.apart (it, io) (.tail _ (.tail _ (.head _)))
    exact O.apart p (.tail _ (.tail _ (.tail _ hp)))
  pin p hp := .tail _ (.tail _ (.tail _ (P p hp)))
  sz := O.sz
  len := O.len
/-- the zip's turn -/
theorem LS.turn (S : LS w h₀ L f fd ll x dx z TI TO it l mx T vs cl lsF cur k rest₀ os i s m parts ls c n ti te ps qs a b io rest) (V : Vals vs N chs) (hi : i < N) {A : Around} {E E' : Value → Shared → Prop} {elts : List PySem.Expr} {kk : Nat} {pos : Pos} {W : Value → Shared → Prop} {Q : Option Value → Shared → Prop}
    (hQ : ∀ v s₁, wpAny (model pr w) A (letOwnedTupleGo (.Tuple elts kk pos) (.ref z) v) (fun _ s₁' => W v s₁') E' s₁ → Q (some v) s₁)
    (h : ∀ (Tt : Addr) (ta tb : Tok) (h' : Heap) (io' : Obj), Fr h₀ L h' m →
      News h₀ L h' ((Tt, pairO (.str (chs i).1 ta) (.str (chs i).2 tb)) :: AL w x dx parts n (k i) ti te ps qs (FR w f fd ll x mx T ls c (ZR z TI TO it (.str (chs i).1 ta) (.str (chs i).2 tb) io' rest))) →
      io'.cls = .type "list_iterator" → io'.data = .fields #[.ref l, .int ((2 * (i + 1) : Nat) : Int) 0] → FOk f fd ll x dx parts (ZR z TI TO it (.str (chs i).1 ta) (.str (chs i).2 tb) io' rest) → W (.ref Tt) { s with heap := h' }) :
    wpAny (model pr w) A (pyNext (.ref z)) Q E s := by
  have D := S.apart
  have nz := S.N _ (S.mz (.head _))
  have nTO := S.N _ (S.mz (.tail _ (.head _)))
  have ni := S.N _ (S.mz (.tail _ (.tail _ (.head _))))
  have nTI := S.N _ (S.mz (.tail _ (.tail _ (.tail _ S.hTI))))
  have nl := S.N _ (S.mz (.tail _ (.tail _ (.tail _ S.hl))))
  obtain ⟨ta, tb, hx, hy⟩ := V.2 i hi
  have F := S.F
  refine zone_next D nz.1 nTI.1 nTO.1 (k := 2 * i) ⟨io, ni.1, S.ic, S.id⟩ (xs := vs) ⟨_, nl.1, rfl, _, rfl⟩ hx hy fun h1 a1 a2 a3 a4 a5 keep => hQ _ _ ?_
  refine wpAny_letOwnedTupleGo_zip a1 fun h2 hz2 hs2 => ?_
  have keep2 : ∀ c o, c ≠ z → c ≠ TO → c ≠ it → s.heap.get? c = some o → h2.get? c = some o := fun c o c1 c2 c3 e => hs2.extBut _ _ c1 (keep c o c1 c2 c3 e)
  obtain ⟨io', hio', hc', hd'⟩ := a3
  have F2 : Fr h₀ L h2 m := ⟨F.ns.at' fun o e => keep2 _ o (fun e => nz.2.1 e.symm) (fun e => nTO.2.1 e.symm) (fun e => ni.2.1 e.symm) e,
    fun b o e => keep2 b o (fun e2 => by rw [e2] at e; have := nz.2.2; rw [this] at e; cases e) (fun e2 => by rw [e2] at e; have := nTO.2.2; rw [this] at e; cases e) (fun e2 => by rw [e2] at e; have := ni.2.2; rw [this] at e; cases e) (F.keep b o e), F.above⟩
  have hTz : s.heap.objs.size ≠ z := (Nat.ne_of_lt (Heap.lt_size nz.1)).symm
  refine h s.heap.objs.size ta tb h2 io' F2 ?_ hc' (by rw [hd']; rfl) (S.O.zr S.pin)
  have OT := S.others
  intro p hp
  rcases List.mem_cons.mp hp with rfl | hp
  · exact ⟨hs2.extBut _ _ hTz a4, Nat.ne_of_gt F.ns.lt, next_is_new F⟩
  have mem : p ∈ ZR z TI TO it (.str (chs i).1 ta) (.str (chs i).2 tb) io' [] ∨ p ∈ AL w x dx parts n (k i) ti te ps qs (FR w f fd ll x mx T ls c rest) :=
    cons_or (cons_or (cons_or (cons_or (cons_or (cons_or (cons_or three_or)))))) p hp
  rcases mem with hp | hp
  · rcases List.mem_cons.mp hp with rfl | hp
    · exact ⟨hz2, nz.2⟩
    rcases List.mem_cons.mp hp with rfl | hp
    · exact ⟨hs2.extBut _ _ D.TOz a2, nTO.2⟩
    rcases List.mem_cons.mp hp with rfl | hp
    · exact ⟨hs2.extBut _ _ D.iz hio', ni.2⟩
    cases hp
  · have o := OT p hp
    have mp : p ∈ AL w x dx parts n (k i) ti te ps qs (FR w f fd ll x mx T ls c (ZR z TI TO it a b io rest)) :=
      cons_sub (cons_sub (cons_sub (cons_sub (cons_sub (cons_sub (cons_sub fun _ h => .tail _ (.tail _ (.tail _ h)))))))) p hp
    have q := S.N p mp
    exact ⟨keep2 _ _ o.1 o.2.1 o.2.2 q.1, q.2⟩
/-- the zip's end -/
theorem LS.last (S : LS w h₀ L f fd ll x dx z TI TO it l mx T vs cl lsF cur k rest₀ os i s m parts ls c n ti te ps qs a b io rest) (V : Vals vs N chs) (hi : i = N) {A : Around} {E : Value → Shared → Prop} {Q₀ : Option Value → Shared → Prop} (hh : A.handled = none)
    (h : ∀ h' : Heap, Fr h₀ L h' m → News h₀ L h' (AL w x dx parts n (k i) ti te ps qs (FR w f fd ll x mx T ls c rest)) → Q₀ none { s with heap := h' }) :
    wpAny (model pr w) A (pyNext (.ref z)) Q₀ E s := by
  have D := S.apart
  have nz := S.N _ (S.mz (.head _))
  have nTO := S.N _ (S.mz (.tail _ (.head _)))
  have ni := S.N _ (S.mz (.tail _ (.tail _ (.head _))))
  have nTI := S.N _ (S.mz (.tail _ (.tail _ (.tail _ S.hTI))))
  have nl := S.N _ (S.mz (.tail _ (.tail _ (.tail _ S.hl))))
  have F := S.F
  refine zone_last hh D nz.1 nTI.1 nTO.1 (k := 2 * i) ⟨io, ni.1, S.ic, S.id⟩ (xs := vs) ⟨_, nl.1, rfl, _, rfl⟩ (by rw [Array.getElem?_eq_none]; rw [V.1, hi]; exact Nat.le_refl _) fun h2 keep2 => ?_
  have F2 : Fr h₀ L h2 m := ⟨F.ns.at' fun o e => keep2 _ o (fun e => nz.2.1 e.symm) (fun e => nTO.2.1 e.symm) (fun e => ni.2.1 e.symm) e,
    fun b o e => keep2 b o (fun e2 => by rw [e2] at e; have := nz.2.2; rw [this] at e; cases e) (fun e2 => by rw [e2] at e; have := nTO.2.2; rw [this] at e; cases e) (fun e2 => by rw [e2] at e; have := ni.2.2; rw [this] at e; cases e) (F.keep b o e), F.above⟩
  refine h h2 F2 ?_
  intro p hp
  have o := S.others p hp
  have mp : p ∈ AL w x dx parts n (k i) ti te ps qs (FR w f fd ll x mx T ls c (ZR z TI TO it a b io rest)) :=
    cons_sub (cons_sub (cons_sub (cons_sub (cons_sub (cons_sub (cons_sub fun _ h => .tail _ (.tail _ (.tail _ h)))))))) p hp
  have q := S.N p mp
  exact ⟨keep2 _ _ o.1 o.2.1 o.2.2 q.1, q.2⟩
theorem FOk.drop3 (O : FOk f fd ll x dx parts (ZR z TI TO it a b io rest)) (P : PartsIn rest parts) : FOk f fd ll x dx parts rest where
  fd0 := O.fd0
  fdf := O.fdf
  fll := O.fll
  lld := O.lld
  lt := O.lt
  apart p hp := O.apart p (.tail _ (.tail _ (.tail _ hp)))
  pin := P
  sz := O.sz
  len := O.len
theorem LS.len (S : LS w h₀ L f fd ll x dx z TI TO it l mx T vs cl lsF cur k rest₀ os i s m parts ls c n ti te ps qs a b io rest) : parts.length = (cur i).length := by
  rw [← S.tx]; simp [textsOf]
theorem LS.lenl (S : LS w h₀ L f fd ll x dx z TI TO it l mx T vs cl lsF cur k rest₀ os i s m parts ls c n ti te ps qs a b io rest) : ls.length = (lsF i).length := by
  rw [← S.lx]; simp
end
section
variable {w : World} {h₀ : Heap} {L f fd ll x dx z TI TO it l : Addr} {mx : Int} {T : FT} {vs : Array Value} {cl N : Nat} {chs : Nat → Chunk} {lsF : Nat → List Str} {cur : Nat → List Chunk} {k : Nat → Int} {rest₀ : List (Addr × Obj)} {os : OsState}
variable {i : Nat} {s s' : Shared} {m m' : Str → Option Value} {parts parts' : List Part} {ls ls' : List (Str × Tok)} {c n c' n' : Nat} {ti te ti' te' : Tok} {ps qs ps' qs' : Array Value} {a b a' b' : Value} {io io' : Obj} {rest rest' : List (Addr × Obj)}
/-- what lies behind the zip's objects -/
noncomputable def offZ (z TO it : Addr) (r : List (Addr × Obj)) : List (Addr × Obj) := r.filter fun q => decide (q.1 ≠ z ∧ q.1 ≠ TO ∧ q.1 ≠ it)
theorem mem_offZ {r : List (Addr × Obj)} {q : Addr × Obj} : q ∈ offZ z TO it r ↔ q ∈ r ∧ (q.1 ≠ z ∧ q.1 ≠ TO ∧ q.1 ≠ it) := by
  unfold offZ; rw [List.mem_filter, decide_eq_true_eq]
/-- behind a turn's body: the state ahead of the next turn -/
theorem LS.step (S : LS w h₀ L f fd ll x dx z TI TO it l mx T vs cl lsF cur k rest₀ os i s m parts ls c n ti te ps qs a b io rest)
    (hic : io'.cls = .type "list_iterator") (hid : io'.data = .fields #[.ref l, .int ((2 * (i + 1) : Nat) : Int) 0]) (F : Fr h₀ L s'.heap m') (hs : m' (Str.ofString "self") = some (.ref f))
    (N' : News h₀ L s'.heap (AL w x dx parts' n' (k (i + 1)) ti' te' ps' qs' (FR w f fd ll x mx T ls' c' rest'))) (O' : FOk f fd ll x dx parts' rest') (TT' : Tabs ps' qs')
    (sub : ∀ q ∈ ZR z TI TO it a' b' io' rest, q ∈ rest') (hp : ∀ p ∈ parts', p ∈ parts ∨ ∀ q ∈ ZR z TI TO it a' b' io' rest, q.1 < p.1)
    (G : AllBare s'.gens) (ho : s'.os = os) (tx : textsOf parts' = cur (i + 1)) (lx : ls'.map (·.1) = lsF (i + 1)) :
    LS w h₀ L f fd ll x dx z TI TO it l mx T vs cl lsF cur k rest₀ os (i + 1) s' m' parts' ls' c' n' ti' te' ps' qs' a' b' io' (offZ z TO it rest') where
  F := F
  self := hs
  N p hp := N' p (by
    have hz := sub _ (.head _)
    have hTO := sub (TO, pairO a' b') (.tail _ (.head _))
    have hi := sub (it, io') (.tail _ (.tail _ (.head _)))
    refine cons_sub (cons_sub (cons_sub (cons_sub (cons_sub (cons_sub (cons_sub fun p hp => ?_)))))) p hp
    rcases List.mem_cons.mp hp with rfl | hp
    · exact hz
    rcases List.mem_cons.mp hp with rfl | hp
    · exact hTO
    rcases List.mem_cons.mp hp with rfl | hp
    · exact hi
    exact (mem_offZ.mp hp).1)
  O := by
    have pin : PartsIn (offZ z TO it rest') parts' := by
      intro p hpp
      refine mem_offZ.mpr ⟨O'.pin p hpp, ?_⟩
      rcases hp p hpp with h | h
      · exact S.ne _ (S.pin p h)
      · exact ⟨(ne_lt (h _ (.head _))).symm, (ne_lt (h (TO, pairO a' b') (.tail _ (.head _)))).symm, (ne_lt (h (it, io') (.tail _ (.tail _ (.head _))))).symm⟩
    exact {
      fd0 := O'.fd0
      fdf := O'.fdf
      fll := O'.fll
      lld := O'.lld
      lt := O'.lt
      apart := fun p hp => by
        rcases List.mem_cons.mp hp with rfl | hp
        · exact O'.apart _ (sub _ (.head _))
        rcases List.mem_cons.mp hp with rfl | hp
        · exact O'.apart (TO, pairO a' b') (sub _ (.tail _ (.head _)))
        rcases List.mem_cons.mp hp with rfl | hp
        · exact O'.apart (it, io') (sub _ (.tail _ (.tail _ (.head _))))
        exact O'.apart p (mem_offZ.mp hp).1
      pin := fun p hp => .tail _ (.tail _ (.tail _ (pin p hp)))
      sz := O'.sz
      len := O'.len }
  TT := TT'
  pin p hpp := by
    refine mem_offZ.mpr ⟨O'.pin p hpp, ?_⟩
    rcases hp p hpp with h | h
    · exact S.ne _ (S.pin p h)
    · exact ⟨(ne_lt (h _ (.head _))).symm, (ne_lt (h (TO, pairO a' b') (.tail _ (.head _)))).symm, (ne_lt (h (it, io') (.tail _ (.tail _ (.head _))))).symm⟩
  ne q hq := (mem_offZ.mp hq).2
  ic := hic
  id := hid
  hl := mem_offZ.mpr ⟨sub _ (.tail _ (.tail _ (.tail _ S.hl))), S.ne _ S.hl⟩
  hTI := mem_offZ.mpr ⟨sub _ (.tail _ (.tail _ (.tail _ S.hTI))), S.ne _ S.hTI⟩
  sub q hq := mem_offZ.mpr ⟨sub _ (.tail _ (.tail _ (.tail _ (S.sub q hq)))), S.ne _ (S.sub q hq)⟩
  G := G
  os := ho
  tx := tx
  lx := lx
end
/-- the chunks of a typed text -/
structure ChunksOf (y : Str) (N : Nat) (chs : Nat → Chunk) : Prop where
  zero : chs 0 = (Str.ofString "", signAt y 0)
  succ : ∀ i, 0 < i → i < N → chs i = (Str.ofString " ", signAt y (2 * i))
theorem vals_of {y : Str} {N : Nat} {chs : Nat → Chunk} {ps : List (Str × Tok)} {t : Tok} (H : Typed y N) (C : ChunksOf y N chs) (hps : ps.map (·.1) = signs y (2 * N - 1)) : Vals (#[.str (Str.ofString "") t] ++ linesV ps) N chs := by
  have hl : ps.length = 2 * N - 1 := by have := congrArg List.length hps; simpa using this
  have hN := H.pos
  refine ⟨by simp [linesV, hl]; lia, ?_⟩
  have at_ : ∀ j, j < 2 * N - 1 → ∃ t, ps[j]? = some (signAt y j, t) := by
    intro j hj
    have e := congrArg (fun l => l[j]?) hps
    simp only [List.getElem?_map, List.getElem?_range hj, Option.map_some] at e
    cases h : ps[j]? with
    | none => rw [h] at e; cases e
    | some p =>
      rw [h] at e
      refine ⟨p.2, ?_⟩
      have := Option.some.inj e
      rw [← this]
  have get : ∀ j, (#[Value.str (Str.ofString "") t] ++ linesV ps)[j + 1]? = (ps[j]?).map fun p => Value.str p.1 p.2 := by
    intro j
    simp [linesV, Array.getElem?_append]
  intro i hi
  obtain ⟨tb, hb⟩ := at_ (2 * i) (by lia)
  cases i with
  | zero =>
    refine ⟨t, tb, ?_, ?_⟩
    · rw [C.zero]; simp
    · rw [get, hb, C.zero]; rfl
  | succ i =>
    obtain ⟨ta, ha⟩ := at_ (2 * i + 1) (by lia)
    have e := C.succ (i + 1) (by lia) hi
    refine ⟨ta, tb, ?_, ?_⟩
    · rw [show 2 * (i + 1) = (2 * i + 1) + 1 by lia, get, ha, e]
      have he := H.even i hi
      have hsz := H.size
      have e3 : signAt y (2 * i + 1) = Str.ofString " " := by
        have hlt : 2 * i + 1 < y.cps.size := by lia
        have : y.cps.extract (2 * i + 1) (2 * i + 1 + 1) = #[32] := by
          apply Array.ext
          · rw [Array.size_extract]; simp; lia
          · intro j h1 h2
            have hj : j = 0 := by simp at h2; lia
            subst hj
            rw [Array.getElem_extract]
            simp only [Nat.add_zero]
            have : y.cps.getD (2 * i + 1) 0 = y.cps[2 * i + 1] := by simp [Array.getD, hlt]
            rw [← this, he]; rfl
        show (⟨y.cps.extract (2 * i + 1) (2 * i + 1 + 1)⟩ : Str) = _
        rw [this]; rfl
      rw [e3]; rfl
    · rw [get, hb, e]; rfl
structure SpOrd (x l : Addr) (rest : List (Addr × Obj)) : Prop where
  xl : x < l
  rl : ∀ p ∈ rest, p.1 < l
theorem SpOrd.of {w : World} {f fd ll x dx l : Addr} {mx : Int} {T : FT} {ls : List (Str × Tok)} {c : Nat} {parts : List Part} {n : Nat} {k : Int} {ti te : Tok} {ps qs : Array Value} {rest : List (Addr × Obj)}
    (h : ∀ p ∈ AL w x dx parts n k ti te ps qs (FR w f fd ll x mx T ls c rest), p.1 < l) : SpOrd x l rest :=
  ⟨h _ (.head _), fun p hp => h p (.tail _ (.tail _ (.tail _ (.tail _ (.tail _ (.tail _ (.tail _ hp))))))) ⟩
structure ItOrd (l it : Addr) : Prop where
  li : l < it
theorem ItOrd.of {l it : Addr} {a : Addr × Obj} {o : Obj} {r : List (Addr × Obj)} (h : ∀ p ∈ a :: (l, o) :: r, p.1 < it) : ItOrd l it := ⟨h _ (.tail _ (.head _))⟩
structure TiOrd (it TI TO z : Addr) : Prop where
  iT : it < TI
  TT : TI < TO
  Tz : TO < z
theorem TiOrd.of {it TI TO z : Addr} {a b : Addr × Obj} {o : Obj} {r : List (Addr × Obj)} (h : ∀ p ∈ a :: b :: (it, o) :: r, p.1 < TI) (h2 : TI < TO) (h3 : TO < z) : TiOrd it TI TO z := ⟨h _ (.tail _ (.tail _ (.head _))), h2, h3⟩
noncomputable def TurnQ (P : Shared → Prop) : Flow → Shared → Prop
  | .next, s => P s
  | _, _ => False
section
variable {w : World} {h₀ : Heap} {L f fd ll x dx z TI TO it l : Addr} {mx : Int} {T : FT} {vs : Array Value} {cl N : Nat} {chs : Nat → Chunk} {lsF : Nat → List Str} {cur : Nat → List Chunk} {k : Nat → Int} {rest₀ : List (Addr × Obj)} {os : OsState}
noncomputable abbrev LSE (w : World) (h₀ : Heap) (L f fd ll x dx z TI TO it l : Addr) (mx : Int) (T : FT) (vs : Array Value) (cl : Nat) (lsF : Nat → List Str) (cur : Nat → List Chunk) (k : Nat → Int) (rest₀ : List (Addr × Obj)) (os : OsState) (i : Nat) (s : Shared) : Prop :=
  ∃ m parts ls c n ti te ps qs a b io rest, LS w h₀ L f fd ll x dx z TI TO it l mx T vs cl lsF cur k rest₀ os i s m parts ls c n ti te ps qs a b io rest
theorem LS.start {s : Shared} {m : Str → Option Value} {c n : Nat} {ti te : Tok} {ps qs : Array Value} {a1 a2 a3 : Addr × Obj} (F : Fr h₀ L s.heap m) (hs : m (Str.ofString "self") = some (.ref f))
    (N' : News h₀ L s.heap ((z, zipO TI TO) :: (TO, pairO .none .none) :: (TI, pairO (.ref it) (.ref it)) :: a1 :: a2 :: (it, iterO l 0) :: a3 :: (l, W.listOf vs cl) :: AL w x dx [] n (k 0) ti te ps qs (FR w f fd ll x mx T [] c rest₀)))
    (O : FOk f fd ll x dx [] rest₀) (TT : Tabs ps qs) (S : SpOrd x l rest₀) (I : ItOrd l it) (Z : TiOrd it TI TO z) (G : AllBare s.gens) (ho : s.os = os) (h0 : cur 0 = []) (h1 : lsF 0 = []) :
    LSE w h₀ L f fd ll x dx z TI TO it l mx T vs cl lsF cur k rest₀ os 0 s := by
  have e1 := S.xl
  have e2 := lt_nn e1 I.li
  have e3 := lt_nn e2 Z.iT
  have e4 := lt_nn e3 Z.TT
  have e5 := lt_nn e4 Z.Tz
  refine ⟨m, [], [], c, n, ti, te, ps, qs, .none, .none, iterO l 0, (TI, pairO (.ref it) (.ref it)) :: (l, W.listOf vs cl) :: rest₀, ?_⟩
  exact {
    F := F
    self := hs
    N := fun p hp => N' p (by
      rcases cons_or (cons_or (cons_or (cons_or (cons_or (cons_or (cons_or (cons5 (.head _) (.tail _ (.head _)) (.tail _ (.tail _ (.tail _ (.tail _ (.tail _ (.head _)))))) (.tail _ (.tail _ (.head _))) (.tail _ (.tail _ (.tail _ (.tail _ (.tail _ (.tail _ (.tail _ (.head _))))))))))))))) p hp with h | h
      · exact h
      exact .tail _ (.tail _ (.tail _ (.tail _ (.tail _ (.tail _ (.tail _ (.tail _ h))))))))
    O := ((((O.new (a := (l, W.listOf vs cl)) e1).new (a := (TI, pairO (.ref it) (.ref it))) e3).new (a := (it, iterO l 0)) e2).new (a := (TO, pairO .none .none)) e4).new (a := (z, zipO TI TO)) e5
    TT := TT
    pin := fun p hp => (nomatch hp)
    ne := fun q hq => by
      rcases List.mem_cons.mp hq with rfl | hq
      · exact ⟨ne_lt (lt_nn Z.TT Z.Tz), ne_lt Z.TT, (ne_lt Z.iT).symm⟩
      rcases List.mem_cons.mp hq with rfl | hq
      · exact ⟨ne_lt (lt_nn I.li (lt_nn Z.iT (lt_nn Z.TT Z.Tz))), ne_lt (lt_nn I.li (lt_nn Z.iT Z.TT)), ne_lt I.li⟩
      have a := lt_nn (S.rl q hq) I.li
      exact ⟨ne_lt (lt_nn a (lt_nn Z.iT (lt_nn Z.TT Z.Tz))), ne_lt (lt_nn a (lt_nn Z.iT Z.TT)), ne_lt a⟩
    ic := rfl
    id := rfl
    hl := .tail _ (.head _)
    hTI := .head _
    sub := fun q hq => .tail _ (.tail _ hq)
    G := G
    os := ho
    tx := h0.symm
    lx := h1.symm }
theorem zip_loop {A : Around} {E : Value → Shared → Prop} {Q : Flow → Shared → Prop} {env : Env} {elts : List PySem.Expr} {kk : Nat} {pos : Pos} {body : List Stmt} {s : Shared} (V : Vals vs N chs) (hh : A.handled = none)
    (S0 : LSE w h₀ L f fd ll x dx z TI TO it l mx T vs cl lsF cur k rest₀ os 0 s)
    (turn : ∀ i s m parts ls c n ti te ps qs a b io rest, i < N → LS w h₀ L f fd ll x dx z TI TO it l mx T vs cl lsF cur k rest₀ os i s m parts ls c n ti te ps qs a b io rest → ∀ Tt ta tb h' io', Fr h₀ L h' m →
      News h₀ L h' ((Tt, pairO (.str (chs i).1 ta) (.str (chs i).2 tb)) :: AL w x dx parts n (k i) ti te ps qs (FR w f fd ll x mx T ls c (ZR z TI TO it (.str (chs i).1 ta) (.str (chs i).2 tb) io' rest))) →
      io'.cls = .type "list_iterator" → io'.data = .fields #[.ref l, .int ((2 * (i + 1) : Nat) : Int) 0] → FOk f fd ll x dx parts (ZR z TI TO it (.str (chs i).1 ta) (.str (chs i).2 tb) io' rest) →
      wpAny (model pr w) A (assign (.Tuple elts kk pos) env (.ref Tt)) (fun _ s₂ => wpAny (model pr w) A (execs body env) (TurnQ (LSE w h₀ L f fd ll x dx z TI TO it l mx T vs cl lsF cur k rest₀ os (i + 1))) E s₂) E { s with heap := h' })
    (last : ∀ s m parts ls c n ti te ps qs a b io rest, LS w h₀ L f fd ll x dx z TI TO it l mx T vs cl lsF cur k rest₀ os N s m parts ls c n ti te ps qs a b io rest → ∀ h', Fr h₀ L h' m →
      News h₀ L h' (AL w x dx parts n (k N) ti te ps qs (FR w f fd ll x mx T ls c rest)) → Q .next { s with heap := h' })
    (hE : PassesOwn (model pr w) A env E := by passes_own) :
    codeAny (model pr w) A (.forLoop (.Tuple elts kk pos) (.ref z) body [] env) (fun r s' => match r with | .ok f => Q f s' | .error e => cameBackBy (model pr w) A env E e s') s := by
  refine codeAny_forLoop_any (fun j s' => ∃ i, j = N - i ∧ i ≤ N ∧ LSE w h₀ L f fd ll x dx z TI TO it l mx T vs cl lsF cur k rest₀ os i s') ?_ N ⟨0, (Nat.sub_zero N).symm, Nat.zero_le _, S0⟩
  rintro j s' ⟨i, rfl, hi, m, parts, ls, c, n, ti, te, ps, qs, a, b, io, rest, S⟩
  rcases Nat.lt_or_ge i N with hlt | hge
  · refine S.turn V hlt (fun v s₁ h => h) fun Tt ta tb h' io' F2 N2 hic hid O2 => ?_
    refine wpAny_mono (turn i s' m parts ls c n ti te ps qs a b io rest hlt S Tt ta tb h' io' F2 N2 hic hid O2) (fun _ s₂ h₂ => wpAny_mono h₂ (fun f s₃ h₃ => ?_) fun _ _ x => hE _ _ x) fun _ _ x => hE _ _ x
    cases f with
    | next => exact ⟨N - (i + 1), by lia, i + 1, rfl, hlt, h₃⟩
    | cont => exact h₃.elim
    | brk => exact h₃.elim
    | ret v => exact h₃.elim
  · obtain rfl : i = N := by lia
    exact S.last V rfl hh fun h' F' N' => wpAny_execs_nil (last s' m parts ls c n ti te ps qs a b io rest S h' F' N')
end
end Mine
end
section
open PySem PySem.W PyProof.Rows PySem.Calls Builtin Builtin.ObjectAttr Builtin.Getset_descriptor
set_option Elab.async false
set_option maxRecDepth 100000
set_option maxHeartbeats 400000
namespace Mine
section
variable {w : World} {A : Around} {E : Value → Shared → Prop} {s : Shared} {h₀ : Heap} {L f fd ll x : Addr} {m : Str → Option Value} {news : List (Addr × Obj)} {mx : Int} {T : FT} {pl : Sem Bool} {Q : Value × List Value → Shared → Prop}
theorem F_m_append (F : Fr h₀ L s.heap m) (X : (hd.heap_39 w.params).In h₀) (N : News h₀ L s.heap news) (h1 : (f, instObj 130 fd) ∈ news) (h2 : (fd, fmtD w mx ll x T) ∈ news) (h : Q (.ref 127, [.ref f]) s) : wpAny (model pr w) A (getMethod (.ref f) (Str.ofString "_append_chunk") pl) Q E s :=
  method_inst F X ⟨(N _ h1).1, rfl, rfl, (N _ h2).1⟩ (by kernel_rfl) (by kernel_rfl) (by kernel_rfl) (by k_get) h
theorem F_m_split (F : Fr h₀ L s.heap m) (X : (hd.heap_39 w.params).In h₀) (N : News h₀ L s.heap news) (h1 : (f, instObj 130 fd) ∈ news) (h2 : (fd, fmtD w mx ll x T) ∈ news) (h : Q (.ref 120, [.ref f]) s) : wpAny (model pr w) A (getMethod (.ref f) (Str.ofString "_ascii_split") pl) Q E s :=
  method_inst F X ⟨(N _ h1).1, rfl, rfl, (N _ h2).1⟩ (by kernel_rfl) (by kernel_rfl) (by kernel_rfl) (by k_get) h
theorem F_m_str (F : Fr h₀ L s.heap m) (X : (hd.heap_39 w.params).In h₀) (N : News h₀ L s.heap news) (h1 : (f, instObj 130 fd) ∈ news) (h2 : (fd, fmtD w mx ll x T) ∈ news) (h : Q (.ref 78, [.ref f]) s) : wpAny (model pr w) A (getMethod (.ref f) (Str.ofString "_str") pl) Q E s :=
  method_inst F X ⟨(N _ h1).1, rfl, rfl, (N _ h2).1⟩ (by kernel_rfl) (by kernel_rfl) (by kernel_rfl) (by k_get) h
end
end Mine
end
section
open PySem PySem.W PyProof.Rows PySem.Calls PySem.Spec
set_option Elab.async false
set_option maxRecDepth 100000
set_option maxHeartbeats 0
namespace Mine
noncomputable def b3D : List (PyData × PyData) := (tabIntOf Mine.hd.view_39 "b3_exceptions").getD []
noncomputable def b3Chk (K : Frag) (D : List (PyData × PyData)) : Bool := match K.lookup 219 with
  | some o => (match o.cls, o.dict, o.data with
    | .type n, none, .dict es _ => (n == "dict") && (o.slots.size == 0) && entriesAreInt es.toList D && keysUp0 D
    | _, _, _ => false)
  | none => false
theorem b3_ok (P : Params) : b3Chk (hd.heap_39 P) b3D = true := by kernel_rfl
theorem b3_tab {w : World} {h : Heap} (X : (hd.heap_39 w.params).In h) : IntTab pr w h 219 b3D := by
  have x := b3_ok w.params
  unfold b3Chk at x
  split at x
  · rename_i o ho
    split at x
    · rename_i n es ep hc hdd hdat
      simp only [Bool.and_eq_true, beq_iff_eq] at x
      obtain ⟨⟨⟨hn, hsl⟩, hes⟩, hup⟩ := x
      obtain ⟨kvs, p, f, ks⟩ := entries_spec (prog := pr) (w := w) hes
      exact ⟨by decide +kernel, kvs, ⟨o, es, ep, X _ _ ho, ⟨by rw [hc, hn], hdd, Array.eq_empty_of_size_eq_zero hsl⟩, hdat, fun e he => ks e (by simpa using he), p, nodup_of_apart f (apart_up0 hup)⟩, f⟩
    · cases x
  · cases x
noncomputable def isStrD : Option PyData → Str → Bool
  | some (.str x), y => x == y
  | _, _ => false
theorem isStrD_eq {o : Option PyData} {y : Str} (h : isStrD o y = true) : o = some (.str y) := by
  cases o with
  | none => cases h
  | some d => cases d <;> first | cases h | (have := beq_iff_eq.mp (show (_ == y) = true from h); rw [this])
theorem all_range {n : Nat} {p : Nat → Bool} (h : (List.range n).all p = true) : ∀ j, j < n → p j = true := fun j hj => List.all_eq_true.mp h j (List.mem_range.mpr hj)
theorem b3_bold (j : Nat) (hj : j < 26) : lookup (.int ((119808 + j : Nat) : Int)) b3D = some (.str ⟨#[97 + j]⟩) :=
  isStrD_eq (all_range (p := fun j => isStrD (lookup (.int ((119808 + j : Nat) : Int)) b3D) ⟨#[97 + j]⟩) (by kernel_rfl) j hj)
theorem b3_italic (j : Nat) (hj : j < 26) : lookup (.int ((119860 + j : Nat) : Int)) b3D = some (.str ⟨#[97 + j]⟩) :=
  isStrD_eq (all_range (p := fun j => isStrD (lookup (.int ((119860 + j : Nat) : Int)) b3D) ⟨#[97 + j]⟩) (by kernel_rfl) j hj)
theorem b3_small (j : Nat) (hj : j < 26) : lookup (.int ((97 + j : Nat) : Int)) b3D = none :=
  Option.isNone_iff_eq_none.mp (all_range (p := fun j => (lookup (.int ((97 + j : Nat) : Int)) b3D).isNone) (by kernel_rfl) j hj)
theorem b3_capital (j : Nat) (hj : j < 26) : lookup (.int ((65 + j : Nat) : Int)) b3D = none :=
  Option.isNone_iff_eq_none.mp (all_range (p := fun j => (lookup (.int ((65 + j : Nat) : Int)) b3D).isNone) (by kernel_rfl) j hj)
section
variable {w : World} {A : Around} {E : Value → Shared → Prop} {s : Shared} {h₀ : Heap} {L : Addr} {m : Str → Option Value}
theorem b3_meth {pl : Sem Bool} {Q : Value × List Value → Shared → Prop} (F : Fr h₀ L s.heap m) (X : (hd.heap_39 w.params).In h₀) (h : Q (.builtin "dict.get", [.ref 219]) s) : wpAny (model pr w) A (getMethod (.ref 219) (Str.ofString "get") pl) Q E s :=
  getMethod_intTab_get (b3_tab (X.keeps F.keep)) h
theorem b3_getS {c : Int} {t : Tok} {y : Str} {Q : Value → Shared → Prop} (F : Fr h₀ L s.heap m) (X : (hd.heap_39 w.params).In h₀) (hl : lookup (.int c) b3D = some (.str y)) (h : ∀ t', Q (.str y t') { s with toks := s.toks + 1 }) : wpAny (model pr w) A (call (.builtin "dict.get") [.ref 219, .int c t]) Q E s :=
  call_get1_intTab (b3_tab (X.keeps F.keep)) (by rw [hl]; intro v hv; cases hv {}; exact h _)
theorem b3_getN {c : Int} {t : Tok} {Q : Value → Shared → Prop} (F : Fr h₀ L s.heap m) (X : (hd.heap_39 w.params).In h₀) (hl : lookup (.int c) b3D = none) (h : Q .none { s with toks := s.toks + 1 }) : wpAny (model pr w) A (call (.builtin "dict.get") [.ref 219, .int c t]) Q E s :=
  call_get1_intTab (b3_tab (X.keeps F.keep)) (by rw [hl]; intro v hv; cases hv {}; exact h)
end
theorem lines_LwA_1 : True := by
  w_top off
  k_with_none
  k_with "m9:room" => ktr_room
  k_with "m:eval Name" => dsimp only
  k_with "m:spliced" => dsimp only
  k_with "m:execs cons" => dsimp only
  k_with "m:eval Constant int" => dsimp only
  k_with "m:eval BinOp" => dsimp only
  k_with "m:execs nil" => dsimp only
  k_with "m:eval Call" => dsimp only
  k_with "m:storeName" => dsimp only
  k_with "m:exec Assign" => dsimp only
  k_with "m:callWith" => dsimp only
  k_with "m:eval Subscript" => dsimp only
  k_with "m:eval Call Attribute" => dsimp only
  k_with "m:evalPart none" => dsimp only
  k_with "m:truthy bool" => dsimp only
  k_with "m:callWith ref" => dsimp only
  k_with "m:call ref" => dsimp only
  k_with "m:isTrue Compare" => dsimp only
  k_with "m:getMethod ref" => dsimp only
  k_with "m:exec If" => dsimp only
  k_with "m:exec Return some" => dsimp only
  k_with "m:getAttr ref" => dsimp only
  k_with "m:eval Attribute Name" => dsimp only
  k_with "m:binaryOp Add int int" => dsimp only
  k_with "m:isTrue BoolOp" => dsimp only
  k_with "m:binaryOp Mod int int" => dsimp only
  k_with "m:subscriptTail Name Constant ref int" => dsimp only
  k_with "m:evalPart some" => dsimp only
  k_with "m:eval Slice" => dsimp only
  k_with "m:exec Expr" => dsimp only
  k_with "m:isTrue" => dsimp only
  k_with "m:eval Constant str" => dsimp only
  k_with "m:assignInOrder" => dsimp only
  k_with "m:call builtin:len" => dsimp only
  k_with "m:newTuple" => dsimp only
  k_with "m:eval Tuple" => dsimp only
  k_with "m:eval BoolOp" => dsimp only
  k_with "m:subscriptTail Name Slice str ref" => dsimp only
  k_with "m:getMethod str" => dsimp only
  k_with "m:setAttr ref" => dsimp only
  k_with "m:newList" => dsimp only
  k_with "m:eval List" => dsimp only
  k_with "m:binaryOp Mult int int" => dsimp only
  k_with "m:con_enter" => (refine wpAny_call ?_; k_dflt (first | cell_enter | (refine' code_defC ?k1Q8 ?k2Q8 ?k3Q8 ?k4Q8 ?k5Q8 ?kAQ8 ?kFQ8 ?kKQ8 ?k6Q8 ?k7Q8 ?k8Q8 ?k9Q8 ?kBQ8 ?kDQ8 ?_ ?c2Q8 ?c3Q8 ?c4Q8; (case kAQ8 => exact rfl); (case kFQ8 => exact rfl); (case kKQ8 => assumption); (case k1Q8 => k_asm); (case k2Q8 => k_asm); (case k3Q8 => k_asm); (case k4Q8 => k_asm); (case k5Q8 => k_asm); (case k6Q8 => k_is); (case k7Q8 => k_is); (case k8Q8 => ktr_room); (case k9Q8 => first | exact BindsTo.of_eq rfl | exact binds_K (by k_in) rfl (by k_is) rfl rfl rfl | fail "k_enter: no rule for these arguments"); (case kBQ8 => exact rfl); (case kDQ8 => decide +kernel); (case c2Q8 => exact rfl); (case c3Q8 => exact rfl); (case c4Q8 => exact rfl); k_whole; intro g'Q9 L'Q9 h'Q9 tk'Q9 cells'Q9 FG'Q9 F'Q9 N'Q9 Y'Q9 B'Q9 X'Q9 T'Q9 l1Q9; (try k_lt l1Q9); k_cells Y'Q9; (try simp only [List.cons_append, List.nil_append] at N'Q9); (try dsimp only); (try k_lift B'Q9); (try k_fold))))
  k_with "m:con_enterS" => (refine wpAny_call ?_; k_dflt (refine' code_defS ?k1Q8 ?k2Q8 ?k3Q8 ?k4Q8 ?k5Q8 ?kAQ8 ?kFQ8 ?kKQ8 ?k6Q8 ?k7Q8 ?k8Q8 ?k9Q8 ?kBQ8 ?_ ?c2Q8 ?c3Q8 ?c4Q8 ?c5Q8; (case kAQ8 => exact rfl); (case kFQ8 => exact rfl); (case kKQ8 => first | assumption | exact rfl); (case k1Q8 => k_asm); (case k2Q8 => k_asm); (case k3Q8 => k_asm); (case k4Q8 => k_asm); (case k5Q8 => k_asm); (case k6Q8 => k_is); (case k7Q8 => k_is); (case k8Q8 => ktr_room); (case k9Q8 => first | exact BindsTo.of_eq rfl | exact binds_K (by k_in) rfl (by k_is) rfl rfl rfl); (case c5Q8 => decide); (case kBQ8 => exact locs rfl); (case c2Q8 => exact rfl); (case c3Q8 => exact rfl); (case c4Q8 => exact rfl); k_whole; intro g'Q9 L'Q9 h'Q9 FG'Q9 F'Q9 N'Q9 B'Q9 X'Q9 T'Q9 l1Q9; (try dsimp only); (try k_lift B'Q9); (try k_fold)))
  k_with "m:con_enterT" => (k_dflt (refine' code_defS ?k1Q8 ?k2Q8 ?k3Q8 ?k4Q8 ?k5Q8 ?kAQ8 ?kFQ8 ?kKQ8 ?k6Q8 ?k7Q8 ?k8Q8 ?k9Q8 ?kBQ8 ?_ ?c2Q8 ?c3Q8 ?c4Q8 ?c5Q8; (case kAQ8 => exact rfl); (case kFQ8 => exact rfl); (case kKQ8 => first | assumption | exact rfl); (case k1Q8 => k_asm); (case k2Q8 => k_asm); (case k3Q8 => k_asm); (case k4Q8 => k_asm); (case k5Q8 => k_asm); (case k6Q8 => k_is); (case k7Q8 => k_is); (case k8Q8 => ktr_room); (case k9Q8 => first | exact BindsTo.of_eq rfl | exact binds_K (by k_in) rfl (by k_is) rfl rfl rfl); (case c5Q8 => decide); (case kBQ8 => exact locs rfl); (case c2Q8 => exact rfl); (case c3Q8 => exact rfl); (case c4Q8 => exact rfl); k_whole; intro g'Q9 L'Q9 h'Q9 FG'Q9 F'Q9 N'Q9 B'Q9 X'Q9 T'Q9 l1Q9; (try dsimp only); (try k_lift B'Q9); (try k_fold)))
  k_with "m:getMethod ref" => (k_here; k_dflt (refine' b3_meth ?k1Q8 ?k2Q8 ?_; (case k1Q8 => k_asm); (case k2Q8 => k_asm)))
  k_with "m:call builtin:dict.get" => (k_here; k_dflt (first | (refine' b3_getS ?k1Q8 ?k2Q8 ?k3Q8 ?_; (case k1Q8 => k_asm); (case k2Q8 => k_asm); (case k3Q8 => assumption); intro t9Q9) | (refine' b3_getN ?k1Q8 ?k2Q8 ?k3Q8 ?_; (case k1Q8 => k_asm); (case k2Q8 => k_asm); (case k3Q8 => assumption))))
  trivial
theorem c11_con (w : World) (mean : ExcName → Option Value) (mg mb : Str → Option Value) (news : List (Addr × Obj)) (x : Str) (t : Tok) :
    Con 8 60 w mean mg mb 271 news [.str x t] (fun h₀ L m s Q => ∀ h' tk', Fr h₀ L h' m → News h₀ L h' news → Q (.bool (x == Str.ofString " ")) { s with heap := h', toks := tk' }) := by
  dsimp only [Con, pr, lsV]; k_fill
  intros; rename_i hret
  walk_at "con_enterS"
  k_steps
  exact hret _ _ (by assumption) (by assumption)
theorem b3_con (w : World) (mean : ExcName → Option Value) (mg mb : Str → Option Value) (news : List (Addr × Obj)) (c : Nat) (y : Str) (t : Tok) (hl : lookup (.int (c : Int)) b3D = some (.str y)) :
    Con 8 60 w mean mg mb 264 news [.str ⟨#[c]⟩ t] (fun h₀ L m s Q => ∀ t' h' tk', Fr h₀ L h' m → News h₀ L h' news → Q (.str y t') { s with heap := h', toks := tk' }) := by
  dsimp only [Con, pr, lsV]; k_fill
  intros; rename_i hret
  walk_at "con_enterS"
  k_steps
  exact hret _ _ _ (by assumption) (by assumption)
theorem lines_LwA_2 : True := by
  k_with "m:call builtin:str.lower" => (k_here; k_dflt (refine' KXw.lower ?k1Q8 ?k2Q8 ?_; (case k1Q8 => assumption); (case k2Q8 => assumption)); intro _ _)
  trivial
theorem b3_conN (w : World) (mean : ExcName → Option Value) (mg mb : Str → Option Value) (news : List (Addr × Obj)) (c : Nat) (y : Str) (t : Tok) (hl : lookup (.int (c : Int)) b3D = none) (hy : Txt.lower ⟨#[c]⟩ = y) (hz : Builtin.Str.tooLong (Txt.lower ⟨#[c]⟩).length = false) :
    Con 8 60 w mean mg mb 264 news [.str ⟨#[c]⟩ t] (fun h₀ L m s Q => ∀ t' h' tk', Fr h₀ L h' m → News h₀ L h' news → Q (.str y t') { s with heap := h', toks := tk' }) := by
  dsimp only [Con, pr, lsV]; k_fill
  intros; rename_i hret
  walk_at "con_enterS"
  k_steps
  exact hret _ _ _ (by assumption) (by assumption)
/-- a typed sign (code c) of the letter j -/
noncomputable def TypedSign (c j : Nat) : Prop := j < 26 ∧ (c = 97 + j ∨ c = 65 + j ∨ c = 119808 + j ∨ c = 119860 + j)
theorem low_small (j : Nat) (hj : j < 26) : Txt.lower ⟨#[97 + j]⟩ = ⟨#[97 + j]⟩ := beq_iff_eq.mp (all_range (p := fun j => Txt.lower ⟨#[97 + j]⟩ == ⟨#[97 + j]⟩) (by kernel_rfl) j hj)
theorem low_capital (j : Nat) (hj : j < 26) : Txt.lower ⟨#[65 + j]⟩ = ⟨#[97 + j]⟩ := beq_iff_eq.mp (all_range (p := fun j => Txt.lower ⟨#[65 + j]⟩ == ⟨#[97 + j]⟩) (by kernel_rfl) j hj)
theorem one_ok (n : Nat) : Builtin.Str.tooLong (⟨#[n]⟩ : Str).length = false := rfl
theorem b3_typed (w : World) (mean : ExcName → Option Value) (mg mb : Str → Option Value) (news : List (Addr × Obj)) (c j : Nat) (t : Tok) (hc : TypedSign c j) :
    Con 8 60 w mean mg mb 264 news [.str ⟨#[c]⟩ t] (fun h₀ L m s Q => ∀ t' h' tk', Fr h₀ L h' m → News h₀ L h' news → Q (.str ⟨#[97 + j]⟩ t') { s with heap := h', toks := tk' }) := by
  obtain ⟨hj, rfl | rfl | rfl | rfl⟩ := hc
  · exact b3_conN w mean mg mb news _ _ t (b3_small j hj) (low_small j hj) (by rw [low_small j hj]; exact one_ok _)
  · exact b3_conN w mean mg mb news _ _ t (b3_capital j hj) (low_capital j hj) (by rw [low_capital j hj]; exact one_ok _)
  · exact b3_con w mean mg mb news _ _ t (b3_bold j hj)
  · exact b3_con w mean mg mb news _ _ t (b3_italic j hj)
end Mine
end
section
open PySem PySem.W PyProof.Rows PySem.Calls PySem.Spec
set_option Elab.async false
set_option maxRecDepth 100000
set_option maxHeartbeats 0
namespace Mine
theorem lines_LwB_1 : True := by
  w_top off
  k_with_none
  k_with "m9:room" => ktr_room
  k_with "m9:mem" => first | exact List.Mem.head _ | (refine' List.Mem.tail _ ?_; k_mem) | assumption
  k_with "m:eval Name" => dsimp only
  k_with "m:spliced" => dsimp only
  k_with "m:execs cons" => dsimp only
  k_with "m:eval Constant int" => dsimp only
  k_with "m:eval BinOp" => dsimp only
  k_with "m:execs nil" => dsimp only
  k_with "m:eval Call" => dsimp only
  k_with "m:storeName" => dsimp only
  k_with "m:exec Assign" => dsimp only
  k_with "m:callWith" => dsimp only
  k_with "m:eval Subscript" => dsimp only
  k_with "m:eval Call Attribute" => dsimp only
  k_with "m:evalPart none" => dsimp only
  k_with "m:truthy bool" => dsimp only
  k_with "m:callWith ref" => dsimp only
  k_with "m:call ref" => dsimp only
  k_with "m:isTrue Compare" => dsimp only
  k_with "m:getMethod ref" => dsimp only
  k_with "m:exec If" => dsimp only
  k_with "m:exec Return some" => dsimp only
  k_with "m:getAttr ref" => dsimp only
  k_with "m:eval Attribute Name" => dsimp only
  k_with "m:binaryOp Add int int" => dsimp only
  k_with "m:isTrue BoolOp" => dsimp only
  k_with "m:binaryOp Mod int int" => dsimp only
  k_with "m:subscriptTail Name Constant ref int" => dsimp only
  k_with "m:evalPart some" => dsimp only
  k_with "m:eval Slice" => dsimp only
  k_with "m:exec Expr" => dsimp only
  k_with "m:isTrue" => dsimp only
  k_with "m:eval Constant str" => dsimp only
  k_with "m:assignInOrder" => dsimp only
  k_with "m:call builtin:len" => dsimp only
  k_with "m:newTuple" => dsimp only
  k_with "m:eval Tuple" => dsimp only
  k_with "m:eval BoolOp" => dsimp only
  k_with "m:subscriptTail Name Slice str ref" => dsimp only
  k_with "m:getMethod str" => dsimp only
  k_with "m:setAttr ref" => dsimp only
  k_with "m:newList" => dsimp only
  k_with "m:eval List" => dsimp only
  k_with "m:binaryOp Mult int int" => dsimp only
  k_with "m:con_enter" => (refine wpAny_call ?_; k_dflt (first | cell_enter | (refine' code_defC ?k1Q8 ?k2Q8 ?k3Q8 ?k4Q8 ?k5Q8 ?kAQ8 ?kFQ8 ?kKQ8 ?k6Q8 ?k7Q8 ?k8Q8 ?k9Q8 ?kBQ8 ?kDQ8 ?_ ?c2Q8 ?c3Q8 ?c4Q8; (case kAQ8 => exact rfl); (case kFQ8 => exact rfl); (case kKQ8 => assumption); (case k1Q8 => k_asm); (case k2Q8 => k_asm); (case k3Q8 => k_asm); (case k4Q8 => k_asm); (case k5Q8 => k_asm); (case k6Q8 => k_is); (case k7Q8 => k_is); (case k8Q8 => ktr_room); (case k9Q8 => first | exact BindsTo.of_eq rfl | exact binds_K (by k_in) rfl (by k_is) rfl rfl rfl | fail "k_enter: no rule for these arguments"); (case kBQ8 => exact rfl); (case kDQ8 => decide +kernel); (case c2Q8 => exact rfl); (case c3Q8 => exact rfl); (case c4Q8 => exact rfl); k_whole; intro g'Q9 L'Q9 h'Q9 tk'Q9 cells'Q9 FG'Q9 F'Q9 N'Q9 Y'Q9 B'Q9 X'Q9 T'Q9 l1Q9; (try k_lt l1Q9); k_cells Y'Q9; (try simp only [List.cons_append, List.nil_append] at N'Q9); (try dsimp only); (try k_lift B'Q9); (try k_fold))))
  k_with "m:con_enterS" => (refine wpAny_call ?_; k_dflt (refine' code_defS ?k1Q8 ?k2Q8 ?k3Q8 ?k4Q8 ?k5Q8 ?kAQ8 ?kFQ8 ?kKQ8 ?k6Q8 ?k7Q8 ?k8Q8 ?k9Q8 ?kBQ8 ?_ ?c2Q8 ?c3Q8 ?c4Q8 ?c5Q8; (case kAQ8 => exact rfl); (case kFQ8 => exact rfl); (case kKQ8 => first | assumption | exact rfl); (case k1Q8 => k_asm); (case k2Q8 => k_asm); (case k3Q8 => k_asm); (case k4Q8 => k_asm); (case k5Q8 => k_asm); (case k6Q8 => k_is); (case k7Q8 => k_is); (case k8Q8 => ktr_room); (case k9Q8 => first | exact BindsTo.of_eq rfl | exact binds_K (by k_in) rfl (by k_is) rfl rfl rfl); (case c5Q8 => decide); (case kBQ8 => exact locs rfl); (case c2Q8 => exact rfl); (case c3Q8 => exact rfl); (case c4Q8 => exact rfl); k_whole; intro g'Q9 L'Q9 h'Q9 FG'Q9 F'Q9 N'Q9 B'Q9 X'Q9 T'Q9 l1Q9; (try dsimp only); (try k_lift B'Q9); (try k_fold)))
  k_with "m:con_enterT" => (k_dflt (refine' code_defS ?k1Q8 ?k2Q8 ?k3Q8 ?k4Q8 ?k5Q8 ?kAQ8 ?kFQ8 ?kKQ8 ?k6Q8 ?k7Q8 ?k8Q8 ?k9Q8 ?kBQ8 ?_ ?c2Q8 ?c3Q8 ?c4Q8 ?c5Q8; (case kAQ8 => exact rfl); (case kFQ8 => exact rfl); (case kKQ8 => first | assumption | exact rfl); (case k1Q8 => k_asm); (case k2Q8 => k_asm); (case k3Q8 => k_asm); (case k4Q8 => k_asm); (case k5Q8 => k_asm); (case k6Q8 => k_is); (case k7Q8 => k_is); (case k8Q8 => ktr_room); (case k9Q8 => first | exact BindsTo.of_eq rfl | exact binds_K (by k_in) rfl (by k_is) rfl rfl rfl); (case c5Q8 => decide); (case kBQ8 => exact locs rfl); (case c2Q8 => exact rfl); (case c3Q8 => exact rfl); (case c4Q8 => exact rfl); k_whole; intro g'Q9 L'Q9 h'Q9 FG'Q9 F'Q9 N'Q9 B'Q9 X'Q9 T'Q9 l1Q9; (try dsimp only); (try k_lift B'Q9); (try k_fold)))
  trivial
theorem list_at_K {w : World} {A : Around} {E : Value → Shared → Prop} {s : Shared} {h₀ : Heap} {L l : Addr} {news : List (Addr × Obj)} {value slice : PySem.Expr} {vs : Array Value} {v : Value} {n : Nat} {i : Int} {u : Tok} {Q : Value → Shared → Prop} (N : News h₀ L s.heap news) (hl : (l, W.listOf vs n) ∈ news)
    (h0 : 0 ≤ i) (hfit : i < 2 ^ 63) (hx : vs[i.toNat]? = some v) (h : Q v s) (hs : subscripted slice false (.ref l) (.int i u) = operate [.ref l, .int i u] (getItem (.ref l) (.int i u)) := by with_unfolding_all rfl) : wpAny (model pr w) A (subscriptTail value slice (.ref l) (.int i u)) Q E s := by
  have z : s.heap.IsList l vs := ⟨_, (N _ hl).1, rfl, _, rfl⟩
  exact tail_any z.typeIs slot_list_getitem.lookup (wpAny_getItem_list z h0 hfit hx h) hs
noncomputable abbrev numsO (n0 n1 n2 n3 : Int) (t0 t1 t2 t3 : Tok) (c : Nat) : Obj := W.listOf #[.int n0 t0, .int n1 t1, .int n2 t2, .int n3 t3] c
theorem pow4_small {k : Nat} (hk : k < 8) : ((4 : Int) ^ k).natAbs < 1073741824 := by
  have : ∀ k, k < 8 → ((4 : Int) ^ k).natAbs < 1073741824 := by decide
  exact this k hk
theorem fm8 (x : Int) : (Int.fmod x 8).toNat < 8 := by
  have h1 := Int.fmod_nonneg_of_pos x (b := 8) (by decide)
  have h2 := Int.fmod_lt_of_pos x (b := 8) (by decide)
  lia
theorem fdiv_pow {w : World} {A : Around} {E : Value → Shared → Prop} {s : Shared} {a b : Int} {t u : Tok} {Q : Value → Shared → Prop} (hb : b ≠ 0) (ha : b.natAbs < 1073741824) (h : ∀ q t', Q (.int q t') { s with toks := s.toks + 1 }) : wpAny (model pr w) A (binaryOp .FloorDiv (.int a t) (.int b u)) Q E s :=
  floordiv_int hb (h _ _) (Or.inl (PyProof.noPylong_small ha))
theorem tsign (x : Int) {b : Int} (hb : b = 97 ∨ b = 65 ∨ b = 119808 ∨ b = 119860) : TypedSign (b + Int.fmod x 26).toNat (Int.fmod x 26).toNat := by
  have h1 := Int.fmod_nonneg_of_pos x (b := 26) (by decide)
  have h2 := Int.fmod_lt_of_pos x (b := 26) (by decide)
  refine ⟨by lia, ?_⟩
  rcases hb with rfl | rfl | rfl | rfl <;> lia
theorem mod4_K {w : World} {A : Around} {E : Value → Shared → Prop} {s : Shared} {a : Int} {t u : Tok} {Q : Value → Shared → Prop} (h0 : Q (.int 0 s.toks) { s with toks := s.toks + 1 }) (h1 : Q (.int 1 s.toks) { s with toks := s.toks + 1 }) (h2 : Q (.int 2 s.toks) { s with toks := s.toks + 1 }) (h3 : Q (.int 3 s.toks) { s with toks := s.toks + 1 }) :
    wpAny (model pr w) A (binaryOp .Mod (.int a t) (.int 4 u)) Q E s := by
  refine mod_int' (by decide) ?_
  have a1 := Int.fmod_nonneg_of_pos a (b := 4) (by decide)
  have a2 := Int.fmod_lt_of_pos a (b := 4) (by decide)
  obtain e | e | e | e : a.fmod 4 = 0 ∨ a.fmod 4 = 1 ∨ a.fmod 4 = 2 ∨ a.fmod 4 = 3 := by lia
  all_goals (rw [e]; assumption)
section
variable {w : World} {A : Around} {E : Value → Shared → Prop} {s : Shared} {h₀ : Heap} {L l : Addr} {news : List (Addr × Obj)} {value slice : PySem.Expr} {n0 n1 n2 n3 : Int} {t0 t1 t2 t3 : Tok} {c : Nat} {u : Tok} {Q : Value → Shared → Prop}
theorem num1_K (N : News h₀ L s.heap news) (hl : (l, numsO n0 n1 n2 n3 t0 t1 t2 t3 c) ∈ news) (h : Q (.int n1 t1) s) (hs : subscripted slice false (.ref l) (.int 1 u) = operate [.ref l, .int 1 u] (getItem (.ref l) (.int 1 u)) := by with_unfolding_all rfl) : wpAny (model pr w) A (subscriptTail value slice (.ref l) (.int 1 u)) Q E s :=
  list_at_K N hl (by decide) (by decide) rfl h hs
theorem num2_K (N : News h₀ L s.heap news) (hl : (l, numsO n0 n1 n2 n3 t0 t1 t2 t3 c) ∈ news) (h : Q (.int n2 t2) s) (hs : subscripted slice false (.ref l) (.int 2 u) = operate [.ref l, .int 2 u] (getItem (.ref l) (.int 2 u)) := by with_unfolding_all rfl) : wpAny (model pr w) A (subscriptTail value slice (.ref l) (.int 2 u)) Q E s :=
  list_at_K N hl (by decide) (by decide) rfl h hs
end
theorem lines_LwB_2 : True := by
  k_with "m:subscriptTail Name Constant ref int" => (k_here; (with_reducible show wpAny _ _ (subscriptTail _ _ (Value.ref _) (Value.int 1 _)) _ _ _); k_dflt (refine' num1_K ?k1Q8 ?k2Q8 ?_ ?k3Q8; (case k1Q8 => k_asm); (case k2Q8 => k_mem); (case k3Q8 => with_unfolding_all rfl); k_whole))
  k_with "m:subscriptTail Name Constant ref int" => (k_here; (with_reducible show wpAny _ _ (subscriptTail _ _ (Value.ref _) (Value.int 2 _)) _ _ _); k_dflt (refine' num2_K ?k1Q8 ?k2Q8 ?_ ?k3Q8; (case k1Q8 => k_asm); (case k2Q8 => k_mem); (case k3Q8 => with_unfolding_all rfl); k_whole))
  k_with "m:binaryOp FloorDiv int int" => (k_here; k_dflt (refine' fdiv_pow ?hQ8 ?haQ8 ?_; (case haQ8 => first | exact pow4_small (fm8 _) | decide); (case hQ8 => first | exact Int.ne_of_gt (Int.pow_pos (by decide)) | decide)); intro q9Q9 t9Q9)
  k_with "m:binaryOp Mod int int" => (k_here; (with_reducible show wpAny _ _ (binaryOp _ (Value.int _ _) (Value.int 4 _)) _ _ _); refine' mod4_K ?_ ?_ ?_ ?_)
  trivial
theorem typed_con (w : World) (mean : ExcName → Option Value) (mg mb : Str → Option Value) (news : List (Addr × Obj)) (l : Addr) (spot ring : Int) (n0 n1 n2 n3 : Int) (c : Nat) (t u t0 t1 t2 t3 : Tok) (hm : (l, numsO n0 n1 n2 n3 t0 t1 t2 t3 c) ∈ news)
    (hs0 : 0 ≤ spot) (hs1 : spot ≤ 100) (hr0 : 1 ≤ ring) (hr1 : ring ≤ 20) (h1 : 0 ≤ n1) (h1' : n1 ≤ 100000000) (h2 : 0 ≤ n2) (h2' : n2 ≤ 100000000) :
    Con 8 60 w mean mg mb 278 news [.int spot t, .int ring u, .ref l] (fun h₀ L m s Q => ∀ (c : Nat) t' h' tk', TypedSign c (Int.fmod (n1 + Int.fmod spot ring) 26).toNat → Fr h₀ L h' m → News h₀ L h' news → Q (.str ⟨#[c]⟩ t') { s with heap := h', toks := tk' }) := by
  dsimp only [Con, pr, lsV]; k_fill
  intros; rename_i hret
  walk_at "con_enterS"
  k_steps
  all_goals exact hret _ _ _ _ (tsign _ (by simp)) (by assumption) (by first | assumption | exact news_drop1 (by assumption) | exact news_drop2 (by assumption))
end Mine
end
section
open PySem PySem.W PyProof.Rows PySem.Calls PySem.Spec
set_option Elab.async false
set_option maxRecDepth 100000
set_option maxHeartbeats 400000
namespace Mine
theorem none_LwR : True := by w_top off; k_with_none; trivial
section
variable {prog : Program} {w : World} {A : Around} {s : Shared} {h₀ : Heap} {L : Addr} {m : Str → Option Value} {env : Env} {elt : PySem.Expr} {x : Str} {scope : Scope} {cl : List (Str × Addr)} {S : List (Addr × Obj) → Prop} {Fin : List Value → List (Addr × Obj) → Prop} {news : List (Addr × Obj)}
/-- a comprehension's elements stand in a relation to the items -/
theorem rel_rest {n : Nat} {P : Nat → Value → Prop} (R : Nat → Value → Prop)
    (turn : ∀ i v I oI C oC D m₂ ys h tk (E' : Value → Shared → Prop), i < n → P i v → LCg.NsObj oC m₂ → m₂ x = some v → Fr h₀ L h m → News h₀ L h ((I, oI) :: (C, oC) :: (D, LCg.lst ys) :: news) → LCg.Off3 I C D news → ((@Ne Nat I C) ∧ (@Ne Nat I D) ∧ (@Ne Nat C D)) →
      wpAny (model prog w) A (eval elt (compEnvC scope cl C env)) (LCg.CompEnd h₀ L m { s with heap := h, toks := tk } I oI C oC D (LCg.lst ys) S (fun y news' => news' = news ∧ R i y)) E' { s with heap := h, toks := tk })
    (fin : ∀ ys, ys.length = n → (∀ i, i < n → ∃ y, ys[i]? = some y ∧ R i y) → Fin ys news) : LCg.CompRest prog w A h₀ L m env elt x scope cl s S P Fin n 0 [] news := by
  have key : ∀ (j i : Nat) (ys : List Value), i + j = n → ys.length = i → (∀ k, k < i → ∃ y, ys[k]? = some y ∧ R k y) → LCg.CompRest prog w A h₀ L m env elt x scope cl s S P Fin j i ys news := by
    intro j
    induction j with
    | zero =>
      intro i ys hi hy hR
      obtain rfl : i = n := by lia
      exact LCg.CompRest.zero (fin ys hy hR)
    | succ j ih =>
      intro i ys hi hy hR
      refine LCg.CompRest.succ ?_
      intro v I oI C oC D m₂ h tk E' hv hC hx F N off ne
      refine wpAny_mono (turn i v I oI C oC D m₂ ys h tk E' (by lia) hv hC hx F N off ne) (fun y s₂ hq => ?_) fun _ _ e => e
      obtain ⟨h', tk', nw, e, F', N', off', hS, hn, hr⟩ := hq
      rw [hn] at N' off' hS
      refine ⟨h', tk', news, e, F', N', off', hS, ih (i + 1) (ys ++ [y]) (by lia) (by simp [hy]) ?_⟩
      intro k hk
      rcases Nat.lt_or_ge k i with hlt | hge
      · obtain ⟨y', h1, h2⟩ := hR k hlt
        exact ⟨y', by rw [List.getElem?_append_left (by lia)]; exact h1, h2⟩
      · obtain rfl : k = i := by lia
        exact ⟨y, by rw [List.getElem?_append_right (by lia), hy]; simp, hr⟩
  exact key n 0 [] (by lia) rfl (fun k hk => absurd hk (Nat.not_lt_zero k))
end
/-- a goal that the walk leaves to us -/
structure Hold (p : Prop) : Prop where
  out : p
noncomputable abbrev one (c : Nat) : Str := ⟨#[c]⟩
theorem typed_list {n : Nat} {J : Nat → Nat} : ∀ {ys : List Value}, ys.length = n → (∀ i, i < n → ∃ y, ys[i]? = some y ∧ ∃ c t, y = .str ⟨#[c]⟩ t ∧ TypedSign c (J i)) →
    ∃ ps : List (Str × Tok), ∃ cs : List Nat, ys = strValues ps ∧ ps.map (·.1) = cs.map one ∧ cs.length = n ∧ ∀ i, i < n → TypedSign (cs.getD i 0) (J i) := by
  induction n generalizing J with
  | zero =>
    intro ys h _
    refine ⟨[], [], ?_, rfl, rfl, fun i hi => absurd hi (Nat.not_lt_zero _)⟩
    rw [List.length_eq_zero_iff.mp h]; rfl
  | succ n ih =>
    intro ys h hR
    cases ys with
    | nil => simp at h
    | cons y ys =>
      obtain ⟨ps, cs, e1, e2, e3, e4⟩ := ih (J := fun i => J (i + 1)) (ys := ys) (by simpa using h) (fun i hi => by
        have := hR (i + 1) (by lia)
        simpa using this)
      obtain ⟨y', hy', c, t, e, hc⟩ := hR 0 (by lia)
      have : y = y' := by simpa using hy'
      subst this
      subst e
      refine ⟨(⟨#[c]⟩, t) :: ps, c :: cs, ?_, ?_, ?_, ?_⟩
      · rw [e1]; rfl
      · simp [e2]
      · simp [e3]
      · intro i hi
        cases i with
        | zero => simpa using hc
        | succ i => simpa using e4 i (by lia)
theorem join_K {w : World} {A : Around} {E : Value → Shared → Prop} {s : Shared} {h₀ : Heap} {L D : Addr} {news : List (Addr × Obj)} {ps : List (Str × Tok)} {sep : Str} {t : Tok} {Q : Value → Shared → Prop}
    (N : News h₀ L s.heap news) (hd : (D, LCg.lst (strValues ps)) ∈ news) (hJ : JoinOk sep (ps.map (·.1)) = true)
    (h : ∀ t' tk', Q (.str (Txt.join sep (ps.map (·.1))) t') { s with toks := tk' }) : wpAny (model pr w) A (call (.builtin "str.join") [.str sep t, .ref D]) Q E s :=
  SC.join (l := ps) ⟨_, (N _ hd).1, rfl, _, rfl⟩ rfl hJ h
end Mine
end
section
open PySem PySem.W PyProof.Rows PySem.Calls PySem.Spec
set_option Elab.async false
set_option maxRecDepth 100000
set_option maxHeartbeats 2000000
namespace Mine
/-- the values are ints from 0 to below B -/
noncomputable def Small (B : Int) (v : Value) : Prop := ∃ k t, v = .int k t ∧ 0 ≤ k ∧ k < B
theorem preSum_small {B : Int} {val : Nat → Int} : ∀ n, (∀ i, i < n → 0 ≤ val i ∧ val i < B) → 0 ≤ preSum val n ∧ preSum val n ≤ n * B
  | 0, _ => ⟨Int.le_refl _, by simp [preSum]⟩
  | n + 1, h => by
    have ih := preSum_small n fun i hi => h i (by lia)
    have := h n (by lia)
    rw [preSum]
    have e : ((n + 1 : Nat) : Int) * B = n * B + B := by rw [Int.natCast_add, Int.add_mul]; simp
    lia
section
variable {w : World} {A : Around} {E : Value → Shared → Prop} {s : Shared} {h₀ : Heap} {L : Addr} {m : Str → Option Value} {news : List (Addr × Obj)}
theorem sum_K {l : Addr} {its : Array Value} {n : Nat} {B : Int} {Q : Value → Shared → Prop} (hh : A.handled = none) (F : Fr h₀ L s.heap m) (N : News h₀ L s.heap news) (hl : (l, ({ cls := .type "list", data := .seq its n } : Obj)) ∈ news)
    (hs : ∀ (i : Nat) v, its[i]? = some v → Small B v) (h : ∀ k t' h' tk, 0 ≤ k → k ≤ its.size * B → Fr h₀ L h' m → News h₀ L h' news → Q (.int k t') { s with heap := h', toks := tk }) :
    wpAny (model pr w) A (call (.builtin "sum") [.ref l]) Q E s := by
  have hL : s.heap.IsList l its := ⟨_, (N _ hl).1, rfl, n, rfl⟩
  have hlt : l < s.heap.objs.size := Heap.lt_size (N _ hl).1
  refine call_sum_walkG (wpAny_pyIter_list hL ?_)
  have up : ∀ b o, s.heap.get? b = some o → (s.heap.push { cls := .type "list_iterator", data := .fields #[.ref l, .int 0 0] }).get? b = some o := fun b o e => Heap.get?_push_of_some _ e
  refine ⟨s.heap.objs.size, _, _, its.size, _, _, fun i => match its[i]? with | some (.int k _) => k | _ => 0, rfl, Walks.list (A := A.in1) (show A.in1.handled = none from hh) s.heap.objs.size l (Nat.ne_of_lt hlt) its, ⟨⟨_, Heap.get?_push_size _ rfl, rfl, rfl⟩, hL.push _⟩, fun b hb => ?_, fun i v hv => ?_, fun h' tk t' hk => ?_⟩
  · show b < (s.heap.push _).objs.size
    rw [Heap.size_push]
    rcases List.mem_cons.mp hb with rfl | hb
    · exact Nat.lt_succ_self _
    · rw [List.mem_singleton.mp hb]; exact Nat.lt_succ_of_lt hlt
  · obtain ⟨k, t, rfl, _⟩ := hs i v hv
    exact ⟨t, by dsimp only; rw [hv]⟩
  · have keep : ∀ b o, s.heap.get? b = some o → h'.get? b = some o := fun b o e => hk b o (fun hm => by rw [List.mem_singleton.mp hm] at e; exact absurd (Heap.lt_size e) (Nat.lt_irrefl _)) (up b o e)
    have hb := preSum_small (B := B) (val := fun i => match its[i]? with | some (.int k _) => k | _ => 0) its.size fun i hi => by
      obtain ⟨k, t, e, h1, h2⟩ := hs i its[i] (Array.getElem?_eq_getElem hi)
      simp only [Array.getElem?_eq_getElem hi, e]
      exact ⟨h1, h2⟩
    exact h _ _ _ _ hb.1 hb.2 (F.grownK keep) (N.grown keep)
theorem pick_small {B : Int} {its : Array Value} {lo hi st : Option Int} (hs : ∀ (i : Nat) v, its[i]? = some v → Small B v) : ∀ (i : Nat) v, (slicePick its lo hi st)[i]? = some v → Small B v := by
  intro i v hv
  have hm : v ∈ (slicePick its lo hi st).toList := by
    rw [← Array.getElem?_toList] at hv
    exact List.mem_of_getElem? hv
  unfold slicePick at hm
  obtain ⟨j, _, hj⟩ := List.mem_filterMap.mp hm
  exact hs j v hj
theorem cells_slice {value slice : PySem.Expr} {ops : List Value} {l : Addr} {ys : List Value} {i : Int} {t u : Tok} {B : Int} {Q : Value → Shared → Prop} (F : Fr h₀ L s.heap m) (N : News h₀ L s.heap news) (hl : (l, LCg.lst ys) ∈ news) (hy : ys.length ≤ 12)
    (hs : ∀ (i : Nat) v, ys[i]? = some v → Small B v)
    (h : ∀ (a : Addr) (its : Array Value) h', its.size ≤ 12 → (∀ (i : Nat) v, its[i]? = some v → Small B v) → Fr h₀ L h' m → News h₀ L h' ((a, { cls := .type "list", data := .seq its 0 }) :: news) → Q (.ref a) { s with heap := h' })
    (hsub : subscripted slice false (.ref l) (.ref s.heap.objs.size) = operate ops (getItem (.ref l) (.ref s.heap.objs.size)))
    (ht : ∀ r, letTemporaryGo value (.ref l) r = pure ()) :
    wpAny (model pr w) A (subscriptTail value slice (.ref l) (.ref s.heap.objs.size)) Q E { s with heap := s.heap.push { cls := .type "slice", data := .fields #[.int i t, .none, .int 4 u] } } := by
  have hL : s.heap.IsList l ys.toArray := ⟨_, (N _ hl).1, rfl, _, rfl⟩
  refine slice_list3 F N hL (.int i t) .none (.int 4 u) (by decide) (fun h' F' N' => ?_) hsub ht (Nat.le_trans hy (by decide))
  have hz := slicePick_size_le ys.toArray (some i) none (some 4)
  simp only [List.size_toArray] at hz
  exact h _ _ h' (by lia) (pick_small fun i v hv => hs i v (by simpa using hv)) F' N'
end
section
variable {prog : Program} {w : World} {A : Around} {E : Value → Shared → Prop} {s : Shared} {h₀ : Heap} {L : Addr} {m : Str → Option Value} {env : Env}
/-- the end of a turn -/
noncomputable def TurnEnd (h₀ : Heap) (L : Addr) (m : Str → Option Value) (s : Shared) (all : List (Addr × Obj)) (R : Value → Prop) (y : Value) (s' : Shared) : Prop :=
  ∃ h' tk', s' = { s with heap := h', toks := tk' } ∧ Fr h₀ L h' m ∧ News h₀ L h' all ∧ R y
/-- one turn of a comprehension over an enumerate -/
noncomputable def TurnE (prog : Program) (w : World) (A : Around) (h₀ : Heap) (L : Addr) (m : Str → Option Value) (env : Env) (elt : PySem.Expr) (x x₂ : Str) (scope : Scope) (cl : List (Str × Addr)) (s : Shared) (news : List (Addr × Obj)) (items : Array Value) (R : Nat → Value → Prop) : Prop :=
  ∀ (i : Nat) (t : Tok) (v : Value), items[i]? = some v → ∀ e oe it oi C oC D oD m₂ h tk (E' : Value → Shared → Prop), LCg.NsObj oC m₂ → m₂ x = some (.int i t) → m₂ x₂ = some v → Fr h₀ L h m → News h₀ L h ((e, oe) :: (it, oi) :: (C, oC) :: (D, oD) :: news) →
    wpAny (model prog w) A (eval elt (compEnvC scope cl C env)) (TurnEnd h₀ L m s ((e, oe) :: (it, oi) :: (C, oC) :: (D, oD) :: news) (R i)) E' { s with heap := h, toks := tk }
theorem news_ext {h h' : Heap} {news : List (Addr × Obj)} (N : News h₀ L h news) (k : ∀ p ∈ news, ∀ o, h.get? p.1 = some o → h'.get? p.1 = some o) : News h₀ L h' news := fun p hp => ⟨k p hp _ (N p hp).1, (N p hp).2⟩
theorem fr_ext {h h' : Heap} (F : Fr h₀ L h m) (k : ∀ b o, b = L ∨ (∃ o', h₀.get? b = some o') → h.get? b = some o → h'.get? b = some o) : Fr h₀ L h' m :=
  ⟨F.ns.at' fun o e => k L o (.inl rfl) e, fun b o e => k b o (.inr ⟨o, e⟩) (F.keep b o e), F.above⟩
theorem block_E {elt iter : PySem.Expr} {x x₂ : Str} {px px₂ tp : Pos} {tk} {scope : Scope} {cl : List (Str × Addr)} {pos : Pos} {s₂ : Shared} {e it l : Addr} {items : Array Value} {k : Nat} {news : List (Addr × Obj)} {R : Nat → Value → Prop}
    {RR : Value → Addr → Result → Shared → Prop} (hh : A.handled = none) (he : IsEnum s₂.heap e it 0 .none) (hit : s₂.heap.IsListIter it l 0) (hl : (l, ({ cls := .type "list", data := .seq items k } : Obj)) ∈ news)
    (hei : e ≠ it) (hsz : items.size ≤ sizeLine) (hcell : ∀ y ∈ scope.names, y.2 ≠ .cell) (hkind : scope.kind = .function) (hx : scope.names.lookup x = some .local) (hx₂ : scope.names.lookup x₂ = some .local) (hxx : x ≠ x₂)
    (F : Fr h₀ L s₂.heap m) (N : News h₀ L s₂.heap news) (hLe : L ≠ e) (he₀ : h₀.get? e = none) (hLi : L ≠ it) (hi₀ : h₀.get? it = none) (off : ∀ p ∈ news, p.1 ≠ e ∧ p.1 ≠ it)
    (turn : TurnE prog w A h₀ L m env elt x x₂ scope cl s₂ news items R)
    (hRR : ∀ D C h tk m' ys, Fr h₀ L h m → News h₀ L h ((D, LCg.lst ys) :: news) → (∀ p ∈ news, p.1 ≠ D) → h.Ns C m' → h₀.get? C = none → h₀.get? D = none → C ≠ L → D ≠ L → C ≠ D → (∀ p ∈ news, p.1 ≠ C) → ys.length = items.size → (∀ i, i < items.size → ∃ y, ys[i]? = some y ∧ R i y) → RR (.ref D) C (.ok .next) { s₂ with heap := h, toks := tk }) :
    wpAny (model prog w) A (newList []) (fun acc s₃ => wpAny (model prog w) A (newFunctionEnv scope env.globals cl [] env.qual none .none (some env)) (fun cenv s₄ =>
      codeAny (model prog w) A (.compStart (.ListComp elt [⟨.Tuple [.Name x px, .Name x₂ px₂] tk tp, iter, [], 0⟩] scope pos) 0 (.ref e) acc { cenv with scope := relabel scope env }) (RR acc cenv.locals) s₄) E s₃) E s₂ := by
  have hlI := off _ hl
  have W := WalksT.enumerate (prog := prog) (w := w) (A := A) hh e it l hei hlI.1 hlI.2 items
  refine wpAny_newObj_type (wpAny_newFunctionEnv hcell (by intro y hy; simp at hy) (fun h₁ hns₁ hsb₁ => ?_) hkind)
  dsimp only at hns₁ hsb₁ ⊢
  generalize hH2 : s₂.heap.push { cls := .type "list", dict := none, data := .seq ([] : List Value).toArray } = H2 at hns₁ hsb₁ ⊢
  have hC : H2.objs.size = s₂.heap.objs.size + 1 := by rw [← hH2, Heap.size_push]
  have hDC : s₂.heap.objs.size ≠ H2.objs.size := by rw [hC]; exact Nat.ne_of_lt (Nat.lt_succ_self _)
  have below : ∀ b, b < s₂.heap.objs.size → b ≠ H2.objs.size ∧ b ≠ s₂.heap.objs.size := fun b hb => ⟨by rw [hC]; exact Nat.ne_of_lt (Nat.lt_succ_of_lt hb), Nat.ne_of_lt hb⟩
  have helt : e < s₂.heap.objs.size := Heap.lt_size he
  have hilt : it < s₂.heap.objs.size := by obtain ⟨_, q, _⟩ := hit; exact Heap.lt_size q
  have hllt : l < s₂.heap.objs.size := Heap.lt_size (N _ hl).1
  have old : ∀ b o, s₂.heap.get? b = some o → h₁.get? b = some o := fun b o q => hsb₁.extBut b o (below b (Heap.lt_size q)).1 (Heap.get?_push_of_some _ (hH2 ▸ Heap.get?_push_of_some _ q))
  have hacc : h₁.get? s₂.heap.objs.size = some (LCg.lst []) := hsb₁.extBut _ _ hDC (Heap.get?_push_of_some _ (hH2 ▸ Heap.get?_push_size _ rfl))
  have fresh : ∀ a, s₂.heap.objs.size ≤ a → s₂.heap.get? a = none := fun a ha => by
    cases q : s₂.heap.get? a with
    | none => rfl
    | some o' => exact absurd (Heap.lt_size q) (Nat.not_lt.mpr ha)
  have fresh₀ : ∀ a, s₂.heap.objs.size ≤ a → h₀.get? a = none := fun a ha => by
    cases q : h₀.get? a with
    | none => rfl
    | some o' => have := F.keep a o' q; rw [fresh a ha] at this; cases this
  have hD₀ : h₀.get? s₂.heap.objs.size = none := fresh₀ _ (Nat.le_refl _)
  have hC₀ : h₀.get? H2.objs.size = none := fresh₀ _ (by rw [hC]; exact Nat.le_succ _)
  have hLlt : L < s₂.heap.objs.size := F.ns.lt
  have hDL : s₂.heap.objs.size ≠ L := Ne.symm (below L hLlt).2
  have hCL : H2.objs.size ≠ L := Ne.symm (below L hLlt).1
  have nlt : ∀ p ∈ news, p.1 < s₂.heap.objs.size := fun p hp => Heap.lt_size (N p hp).1
  have frw : ∀ {h h' : Heap}, Fr h₀ L h m → (∀ b o, b ∉ [e, it] → h.get? b = some o → h'.get? b = some o) → Fr h₀ L h' m := fun F' hk => fr_ext F' fun b o hb q => hk b o (by
    rcases hb with rfl | ⟨o', hb⟩
    · simp [hLe, hLi]
    · intro hm
      simp only [List.mem_cons, List.not_mem_nil, or_false] at hm
      rcases hm with rfl | rfl
      · rw [he₀] at hb; cases hb
      · rw [hi₀] at hb; cases hb) q
  have nsw : ∀ {h h' : Heap} {ys : List Value}, News h₀ L h ((s₂.heap.objs.size, LCg.lst ys) :: news) → (∀ b o, b ∉ [e, it] → h.get? b = some o → h'.get? b = some o) → News h₀ L h' ((s₂.heap.objs.size, LCg.lst ys) :: news) := fun N' hk => news_ext N' fun p hp o q => hk p.1 o (by
    rcases List.mem_cons.mp hp with rfl | hp
    · simp [Ne.symm (below e helt).2, Ne.symm (below it hilt).2]
    · simp [(off p hp).1, (off p hp).2]) q
  have loop : ∀ s₃ : Shared, s₃ = { s₂ with heap := h₁, toks := s₂.toks + ([] : List (Str × Value)).length } →
      codeAny (model prog w) A (.compLoop (.ListComp elt [⟨.Tuple [.Name x px, .Name x₂ px₂] tk tp, iter, [], 0⟩] scope pos) 0 (.ref e) (.ref s₂.heap.objs.size) (compEnvC scope cl H2.objs.size env))
        (RR (.ref s₂.heap.objs.size) H2.objs.size) s₃ := by
    rintro s₃ rfl
    refine LCp.codeAny_compLoop_pair
      (fun k s' => ∃ h' tk i ys m', s' = { s₂ with heap := h', toks := tk } ∧ i ≤ items.size ∧ k = items.size + 1 - i ∧ ys.length = i ∧ ((∃ old, IsEnum h' e it i old) ∧ h'.IsListIter it l i ∧ h'.IsList l items) ∧ Fr h₀ L h' m ∧ h'.Ns H2.objs.size m' ∧ News h₀ L h' ((s₂.heap.objs.size, LCg.lst ys) :: news) ∧
        (∀ j, j < i → ∃ y, ys[j]? = some y ∧ R j y)) ?_ (items.size + 1)
      ⟨h₁, _, 0, [], _, rfl, Nat.zero_le _, rfl, rfl, ⟨⟨_, old _ _ he⟩, hit.at fun o q => old _ _ q, ⟨_, old _ _ (N _ hl).1, rfl, _, rfl⟩⟩, F.keeps old, hns₁, fun p hp => ?_, fun j hj => absurd hj (Nat.not_lt_zero _)⟩
    · rintro k s' ⟨h', tk, i, ys, m', rfl, hi, rfl, hyl, hst', F', hn', N', hR⟩
      by_cases hlt : i < items.size
      · refine W.item i _ _ _ hlt hst' fun T vals h₂ tk₂ hPv hTge hT hmid hk₂ => ?_
        obtain ⟨t, xx, hx', rfl⟩ := hPv
        have F₂ := frw F' hk₂
        have N₂ := nsw N' hk₂
        refine W.go _ _ _ i T _ _ _ hmid fun h₃ hst₃ hk₃ => ?_
        have F₃ := frw F₂ hk₃
        have N₃ := nsw N₂ hk₃
        have ht : IsTup h₃ T #[.int i t, xx] := by
          obtain ⟨oT, q1, q2, q3⟩ := hT
          exact ⟨oT, hk₃ _ _ (W.apart _ _ _ hmid) q1, q2, q3⟩
        have hCe : H2.objs.size ∉ [e, it] := by simp [Ne.symm (below e helt).1, Ne.symm (below it hilt).1]
        refine assign_Tuple_tuple hh ht rfl rfl fun h₅ he₅ => ?_
        have he' : ∀ b o, h₃.get? b = some o → h₅.get? b = some o := fun b o q => he₅ b o (Nat.ne_of_lt (Heap.lt_size q)) q
        refine assignInOrder_cons (wpAny_assign_Name (wpAny_storeName_local (lookup_relabel_local hx) (((hn'.at' fun o q => hk₂ _ o hCe q).at' fun o q => hk₃ _ o hCe q).at' fun o q => he' _ o q) (fun h₆ hn₆ hs₆ => ?_) (by simp [compEnvC, relabel, hkind])))
        refine assignInOrder_cons (wpAny_assign_Name (wpAny_storeName_local (lookup_relabel_local hx₂) hn₆ (fun h₇ hn₇ hs₇ => ?_) (by simp [compEnvC, relabel, hkind])))
        refine assignInOrder_nil ?_
        have old7 : ∀ b o, b ≠ H2.objs.size → h₃.get? b = some o → h₇.get? b = some o := fun b o hb q => hs₇.extBut b o hb (hs₆.extBut b o hb (he' b o q))
        have F₇ : Fr h₀ L h₇ m := ((F₃.keeps he').change hs₆ hCL hC₀).change hs₇ hCL hC₀
        obtain ⟨⟨old', hen⟩, hitr, hlst⟩ := hst₃
        have hen7 := old7 _ _ (below e helt).1 hen
        obtain ⟨oI, qI, rI⟩ := hitr
        have qI7 := old7 _ _ (below it hilt).1 qI
        obtain ⟨oC, heC, hoC⟩ := LCg.ns_obj hn₇
        have N₇ : News h₀ L h₇ ((e, _) :: (it, oI) :: (H2.objs.size, oC) :: (s₂.heap.objs.size, LCg.lst ys) :: news) := fun p hp => by
          rcases List.mem_cons.mp hp with rfl | hp
          · exact ⟨hen7, Ne.symm hLe, he₀⟩
          rcases List.mem_cons.mp hp with rfl | hp
          · exact ⟨qI7, Ne.symm hLi, hi₀⟩
          rcases List.mem_cons.mp hp with rfl | hp
          · exact ⟨heC, hCL, hC₀⟩
          have z := N₃ p hp
          refine ⟨old7 _ _ ?_ z.1, z.2⟩
          rcases List.mem_cons.mp hp with rfl | hp
          · exact hDC
          · exact (below _ (nlt p hp)).1
        refine wpAny_mono (turn i t xx hx' e _ it oI H2.objs.size oC s₂.heap.objs.size _ _ h₇ _ _ hoC (by simp [hxx]) (by simp) F₇ N₇) (fun y s₄ h₄ => ?_) fun _ _ q => q
        obtain ⟨h₈, tk₈, rfl, F₈, N₈, hy⟩ := h₄
        have zE := (N₈ _ (.head _)).1
        have zI := (N₈ _ (.tail _ (.head _))).1
        have zC := (N₈ _ (.tail _ (.tail _ (.head _)))).1
        have zD := (N₈ _ (.tail _ (.tail _ (.tail _ (.head _))))).1
        have N₈' : News h₀ L h₈ news := fun p hp => N₈ p (.tail _ (.tail _ (.tail _ (.tail _ hp))))
        refine append_at (hsz := by show ys.toArray.size ≤ sizeLine; rw [List.size_toArray, hyl]; exact Nat.le_trans hi hsz) zD fun h₉ hs₉ hD₉ => ?_
        refine ⟨items.size + 1 - (i + 1), by lia, h₉, tk₈, i + 1, ys ++ [y], _, rfl, hlt, rfl, by rw [List.length_append, List.length_singleton, hyl], ⟨⟨_, hs₉.extBut _ _ (below e helt).2 zE⟩, ⟨oI, hs₉.extBut _ _ (below it hilt).2 zI, rI⟩, ⟨_, hs₉.extBut _ _ (below l hllt).2 (N₈' _ hl).1, rfl, _, rfl⟩⟩,
          F₈.change hs₉ hDL hD₀, (hoC.ns zC).sameBut hs₉ (Ne.symm hDC), fun p hp => ?_, fun j hj => ?_⟩
        · rcases List.mem_cons.mp hp with rfl | hp
          · exact ⟨hD₉.trans (congrArg some (LCg.lst_snoc ys y)), hDL, hD₀⟩
          · exact ⟨hs₉.extBut _ _ (below _ (nlt p hp)).2 (N₈' p hp).1, (N₈' p hp).2⟩
        · rcases Nat.lt_or_ge j i with h1 | h1
          · obtain ⟨y', q1, q2⟩ := hR j h1
            exact ⟨y', by rw [List.getElem?_append_left (by lia)]; exact q1, q2⟩
          · obtain rfl : j = i := by lia
            exact ⟨y, by rw [List.getElem?_append_right (by lia), hyl]; simp, hy⟩
      · obtain rfl : i = items.size := Nat.le_antisymm hi (Nat.not_lt.mp hlt)
        refine W.done _ _ _ hst' fun h₂ tk₂ hk₂ => ?_
        have hCe : H2.objs.size ∉ [e, it] := by simp [Ne.symm (below e helt).1, Ne.symm (below it hilt).1]
        exact hRR _ _ h₂ tk₂ _ ys (frw F' hk₂) (nsw N' hk₂) (fun p hp => (below _ (nlt p hp)).2) (hn'.at' fun o q => hk₂ _ o hCe q) hC₀ hD₀ hCL hDL (Ne.symm hDC) (fun p hp => (below _ (nlt p hp)).1) hyl hR
    · rcases List.mem_cons.mp hp with rfl | hp
      · exact ⟨hacc, hDL, hD₀⟩
      · exact ⟨old _ _ (N p hp).1, (N p hp).2⟩
  exact codeAny_compStart_list (loop _ rfl) (W.self 0 _ _ _ ⟨⟨_, old _ _ he⟩, hit.at fun o q => old _ _ q, ⟨_, old _ _ (N _ hl).1, rfl, _, rfl⟩⟩ (loop _ rfl))
/-- the source of a comprehension is an enumerate of an own list -/
noncomputable def SrcEA (prog : Program) (w : World) (A : Around) (h₀ : Heap) (L : Addr) (m : Str → Option Value) (env : Env) (elt : PySem.Expr) (x x₂ : Str) (scope : Scope) (cl : List (Str × Addr)) (y : Str) (Q : Flow → Shared → Prop) (xv : Value) (s₁ : Shared) : Prop :=
  ∃ (e it l : Addr) (items : Array Value) (k : Nat) (news : List (Addr × Obj)) (R : Nat → Value → Prop), xv = .ref e ∧ A.handled = none ∧ IsEnum s₁.heap e it 0 .none ∧ s₁.heap.IsListIter it l 0 ∧ (l, ({ cls := .type "list", data := .seq items k } : Obj)) ∈ news ∧ e ≠ it ∧ items.size ≤ sizeLine ∧
    Fr h₀ L s₁.heap m ∧ News h₀ L s₁.heap news ∧ L ≠ e ∧ h₀.get? e = none ∧ L ≠ it ∧ h₀.get? it = none ∧ (∀ p ∈ news, p.1 ≠ e ∧ p.1 ≠ it) ∧ TurnE prog w A h₀ L m env elt x x₂ scope cl s₁ news items R ∧
    ∀ D h tk ys, ys.length = items.size → (∀ i, i < items.size → ∃ y, ys[i]? = some y ∧ R i y) → (∀ p ∈ news, p.1 ≠ D) → Fr h₀ L h (fun z => if z = y then some (.ref D) else m z) → News h₀ L h ((D, LCg.lst ys) :: news) → Q .next { s₁ with heap := h, toks := tk }
theorem Assign_ListComp_E {elt iter : PySem.Expr} {x x₂ y : Str} {px px₂ tp py : Pos} {tk} {scope : Scope} {cl : List (Str × Addr)} {pos spos : Pos} {Q : Flow → Shared → Prop} (_F₀ : Fr h₀ L s.heap m) (hLe : env.locals = L)
    (hsw : swapsWith (.ListComp elt [⟨.Tuple [.Name x px, .Name x₂ px₂] tk tp, iter, [], 0⟩] scope pos) (some (.Name y py)) spos.line env = pure true)
    (hclos : closureFor scope env = pure cl) (hcell : ∀ z ∈ scope.names, z.2 ≠ .cell) (hkind : scope.kind = .function)
    (hnames : ∀ z ∈ scope.names, z.2 = .local → scope.names.lookup z.1 = some .local) (hx : scope.names.lookup x = some .local) (hx₂ : scope.names.lookup x₂ = some .local) (hxx : x ≠ x₂)
    (hy : env.kindOf y = some .local) (hp : (env.scope.kind == .class || (env.scope.kind == .module && env.locals != env.globals)) = false)
    (h : wpAny (model prog w) A (eval iter env) (SrcEA prog w A h₀ L m env elt x x₂ scope cl y Q) E s)
    (hs : ∀ x, foldedSetIterable iter env x = pure x := by intro _; rfl) :
    wpAny (model prog w) A (exec (.Assign [.Name y py] (.ListComp elt [⟨.Tuple [.Name x px, .Name x₂ px₂] tk tp, iter, [], 0⟩] scope pos) spos) env) Q E s := by
  subst hLe
  rw [exec_Assign_Name_used _ _ _ _ hsw]
  refine wpAny_bind (wpAny_standAt (wpAny_bind ?_))
  show wpAny _ A (do let _ ← comprehension (.ListComp elt [⟨.Tuple [.Name x px, .Name x₂ px₂] tk tp, iter, [], 0⟩] scope pos) scope env _ (newList []) false (eval iter env) (some (assign (.Name y py) env))) _ _ s
  refine wpAny_bind (wpAny_mono (wpAny_comprehension_free (use := some (assign (.Name y py) env)) (Q := fun _ s' => Q .next s') rfl hs hclos hkind hnames
    (wpAny_mono h (fun xv s₁ h₁ => ?_) fun _ _ e => e)) (fun _ s' hq => wpAny_pure (wpAny_pure hq)) fun _ _ e => e)
  obtain ⟨e, it, l, items, k, news, R, rfl, hh, he, hit, hl, hei, hsz, F, N, hLe, he₀, hLi, hi₀, off, turn, fin⟩ := h₁
  refine wpAny_pyIter_enum he ?_
  refine block_E hh he hit hl hei hsz hcell hkind hx hx₂ hxx F N hLe he₀ hLi hi₀ off turn ?_
  intro D C h' tk m' ys F' N' offD hn hC₀ hD₀ hCL hDL hCD offC hyl hR
  show wpAny _ A (assign (.Name y py) env (.ref D)) _ _ _
  refine wpAny_assign_Name (wpAny_storeName_local hy F'.ns (fun h₂ hn₂ hs₂ => ?_) hp)
  have hL₀ : h₀.get? env.locals = none := Heap.get?_none_of_le F'.above
  have F₂ : Fr h₀ env.locals h₂ (fun z => if z = y then some (.ref D) else m z) := ⟨hn₂, fun b o e => hs₂.extBut b o (fun q => by rw [q, hL₀] at e; cases e) (F'.keep b o e), F'.above⟩
  refine ⟨m', hn.sameBut hs₂ hCL, fun h'' hs'' => fin D h'' _ ys hyl hR offD (F₂.change hs'' hCL hC₀) (fun p hp => ?_)⟩
  have z : h₂.get? p.1 = some p.2 := hs₂.extBut _ _ (N' p hp).2.1 (N' p hp).1
  refine ⟨hs''.extBut _ _ ?_ z, (N' p hp).2⟩
  rcases List.mem_cons.mp hp with rfl | hp
  · exact Ne.symm hCD
  · exact offC p hp
theorem enum_srcA {elt : PySem.Expr} {x x₂ y : Str} {scope : Scope} {cl : List (Str × Addr)} {Q : Flow → Shared → Prop} {l : Addr} {items : Array Value} {k : Nat} {news : List (Addr × Obj)} (R : Nat → Value → Prop)
    (hh : A.handled = none) (F : Fr h₀ L s.heap m) (N : News h₀ L s.heap news) (hl : (l, ({ cls := .type "list", data := .seq items k } : Obj)) ∈ news) (hsz : items.size ≤ sizeLine)
    (turn : Halt (∀ h, TurnE prog w A h₀ L m env elt x x₂ scope cl { s with heap := h } news items R))
    (fin : Halt (∀ D h tk ys, ys.length = items.size → (∀ i : Nat, i < items.size → ∃ y, ys[i]? = some y ∧ R i y) → (∀ p ∈ news, p.1 ≠ D) → Fr h₀ L h (fun z => if z = y then some (.ref D) else m z) → News h₀ L h ((D, LCg.lst ys) :: news) → Q .next { s with heap := h, toks := tk })) :
    wpAny (model prog w) A (call (.type "enumerate") [.ref l]) (SrcEA prog w A h₀ L m env elt x x₂ scope cl y Q) E s := by
  refine call_enumerate_1 (N _ hl).1 fun h' he hit hsz' hk => ?_
  have nlt : ∀ p ∈ news, p.1 < s.heap.objs.size := fun p hp => Heap.lt_size (N p hp).1
  have fresh₀ : ∀ a, s.heap.objs.size ≤ a → h₀.get? a = none := fun a ha => by
    cases q : h₀.get? a with
    | none => rfl
    | some o' => exact absurd (Heap.lt_size (F.keep a o' q)) (Nat.not_lt.mpr ha)
  exact ⟨_, _, l, items, k, news, R, rfl, hh, he, hit, hl, Nat.succ_ne_self _, hsz, F.keeps hk, N.grown hk, Nat.ne_of_lt (Nat.lt_succ_of_lt F.ns.lt), fresh₀ _ (Nat.le_succ _), Nat.ne_of_lt F.ns.lt, fresh₀ _ (Nat.le_refl _),
    fun p hp => ⟨Nat.ne_of_lt (Nat.lt_succ_of_lt (nlt p hp)), Nat.ne_of_lt (nlt p hp)⟩, turn.out _, fun D h tk ys h1 h2 h3 h4 h5 => fin.out D h tk ys h1 h2 h3 h4 h5⟩
end
end Mine
end
section
open PySem PySem.W PyProof.Rows PySem.Calls PySem.Spec PySem.Builtin PySem.Builtin.Str
set_option Elab.async false
set_option maxRecDepth 100000
set_option maxHeartbeats 400000
namespace Mine
/-- texts as lists of code points -/
noncomputable def joinC (sep : List Nat) : List (List Nat) → List Nat
  | [] => []
  | [a] => a
  | a :: b :: r => a ++ sep ++ joinC sep (b :: r)
theorem join_codes (sep : Str) : ∀ L : List Str, (Txt.join sep L).cps.toList = joinC sep.cps.toList (L.map (·.cps.toList))
  | [] => rfl
  | [a] => by
    show (glued sep [a]).cps.toList = _
    rw [StrLaws.glued_eq_join]; rfl
  | a :: b :: r => by
    have ih := join_codes sep (b :: r)
    have e : Txt.join sep (a :: b :: r) = a ++ sep ++ Txt.join sep (b :: r) := by
      show glued sep (a :: b :: r) = a ++ sep ++ glued sep (b :: r)
      rw [StrLaws.glued_eq_join, StrLaws.glued_eq_join]; rfl
    rw [e, Str.cps_append, Str.cps_append, Array.toList_append, Array.toList_append, ih]
    rfl
theorem join_flat : ∀ L : List Str, (Txt.join Str.empty L).cps.toList = (L.map (·.cps.toList)).flatten := by
  intro L
  rw [join_codes]
  induction L with
  | nil => rfl
  | cons a r ih =>
    cases r with
    | nil => simp [joinC]
    | cons b r =>
      show a.cps.toList ++ [] ++ joinC [] (b.cps.toList :: r.map (·.cps.toList)) = _
      rw [List.append_nil, List.map_cons, List.flatten_cons]
      exact congrArg _ ih
theorem str_ext {a b : Str} (h : a.cps.toList = b.cps.toList) : a = b := by
  cases a; cases b
  simp only [Str.mk.injEq]
  exact Array.toList_inj.mp h
theorem free_split {c : Nat} : ∀ {a a' X X' : List Nat}, c ∉ a → c ∉ a' → a ++ c :: X = a' ++ c :: X' → a = a' ∧ X = X'
  | [], [], _, _, _, _, h => ⟨rfl, by simpa using h⟩
  | [], x :: a', _, _, _, h2, h => absurd (by have := (List.cons.inj h).1; rw [this]; exact .head _) h2
  | x :: a, [], _, _, h1, _, h => absurd (by have := (List.cons.inj h).1; rw [← this]; exact .head _) h1
  | x :: a, y :: a', X, X', h1, h2, h => by
    obtain ⟨e1, e2⟩ := List.cons.inj h
    obtain ⟨e3, e4⟩ := free_split (fun q => h1 (.tail _ q)) (fun q => h2 (.tail _ q)) e2
    exact ⟨by rw [e1, e3], e4⟩
theorem free_no {c : Nat} {a a' X : List Nat} (h1 : c ∉ a) (h : a = a' ++ c :: X) : False := h1 (by rw [h]; exact List.mem_append_right _ (.head _))
theorem joinC_inj {c : Nat} : ∀ {P P' : List (List Nat)}, P ≠ [] → P' ≠ [] → (∀ a ∈ P, c ∉ a) → (∀ a ∈ P', c ∉ a) → joinC [c] P = joinC [c] P' → P = P'
  | [], _, h, _, _, _, _ => absurd rfl h
  | _, [], _, h, _, _, _ => absurd rfl h
  | [a], [a'], _, _, _, _, h => by
    have : a = a' := h
    rw [this]
  | [a], a' :: b' :: r', _, _, h1, _, h => by
    have h : a = a' ++ [c] ++ joinC [c] (b' :: r') := h
    rw [List.append_assoc] at h
    exact (free_no (h1 a (.head _)) h).elim
  | a :: b :: r, [a'], _, _, _, h2, h => by
    have h : a ++ [c] ++ joinC [c] (b :: r) = a' := h
    rw [List.append_assoc] at h
    exact (free_no (h2 a' (.head _)) h.symm).elim
  | a :: b :: r, a' :: b' :: r', _, _, h1, h2, h => by
    have h : a ++ [c] ++ joinC [c] (b :: r) = a' ++ [c] ++ joinC [c] (b' :: r') := h
    rw [List.append_assoc, List.append_assoc] at h
    obtain ⟨e1, e2⟩ := free_split (h1 a (.head _)) (h2 a' (.head _)) h
    have := joinC_inj (by simp) (by simp) (fun x hx => h1 x (.tail _ hx)) (fun x hx => h2 x (.tail _ hx)) e2
    rw [e1, this]
theorem split_is {c : Nat} {L : List Str} (hL : L ≠ []) (hf : ∀ a ∈ L, c ∉ a.cps.toList) : Txt.split (Txt.join ⟨#[c]⟩ L) ⟨#[c]⟩ = L := by
  have h1 := StrLaws.join_split (Txt.join ⟨#[c]⟩ L) ⟨#[c]⟩
  have h2 := StrLaws.split_free (Txt.join ⟨#[c]⟩ L) c
  have h3 : Txt.join ⟨#[c]⟩ (Txt.split (Txt.join ⟨#[c]⟩ L) ⟨#[c]⟩) = Txt.join ⟨#[c]⟩ L := by
    show glued _ _ = _
    rw [StrLaws.glued_eq_join]; exact h1
  have h4 := congrArg (·.cps.toList) h3
  rw [join_codes, join_codes] at h4
  have h5 : Txt.split (Txt.join ⟨#[c]⟩ L) ⟨#[c]⟩ ≠ [] := by
    intro e
    have := split_pos (Txt.join ⟨#[c]⟩ L) ⟨#[c]⟩
    rw [e] at this; simp at this
  have h6 := joinC_inj (c := c) (by simpa using h5) (by simpa using hL) (fun a ha => by
    obtain ⟨y, hy, rfl⟩ := List.mem_map.mp ha
    exact h2 y hy) (fun a ha => by
    obtain ⟨y, hy, rfl⟩ := List.mem_map.mp ha
    exact hf y hy) h4
  have inj : ∀ {A B : List Str}, A.map (·.cps.toList) = B.map (·.cps.toList) → A = B := by
    intro A
    induction A with
    | nil => intro B h; cases B with
      | nil => rfl
      | cons => simp at h
    | cons a A ih => intro B h; cases B with
      | nil => simp at h
      | cons b B =>
        simp only [List.map_cons, List.cons.injEq] at h
        rw [str_ext h.1, ih h.2]
  exact inj h6
end Mine
end
section
open PySem PySem.W PyProof.Rows PySem.Calls PySem.Spec PySem.Builtin PySem.Builtin.Str
set_option Elab.async false
set_option maxRecDepth 100000
set_option maxHeartbeats 400000
namespace Mine
/-- the typed text of the signs cs -/
noncomputable abbrev typedText (cs : List Nat) : Str := Txt.join (Str.ofString " ") (cs.map one)
theorem blankS : Str.ofString " " = ⟨#[32]⟩ := by decide +kernel
theorem emptyS : Str.ofString "" = ⟨#[]⟩ := by decide +kernel
theorem join_len : ∀ {cs : List Nat}, cs ≠ [] → (joinC [32] (cs.map fun c => [c])).length + 1 = 2 * cs.length
  | [], h => absurd rfl h
  | [a], _ => rfl
  | a :: b :: r, _ => by
    have ih := join_len (cs := b :: r) (by simp)
    show ([a] ++ [32] ++ joinC [32] ((b :: r).map fun c => [c])).length + 1 = _
    simp only [List.length_append, List.length_cons, List.length_nil] at ih ⊢
    lia
theorem join_odd : ∀ {cs : List Nat} {i : Nat}, i < cs.length → (joinC [32] (cs.map fun c => [c])).getD (2 * i) 0 = cs.getD i 0
  | [], _, h => absurd h (Nat.not_lt_zero _)
  | [a], i, h => by
    obtain rfl : i = 0 := by simp at h; lia
    rfl
  | a :: b :: r, 0, _ => rfl
  | a :: b :: r, i + 1, h => by
    have ih := join_odd (cs := b :: r) (i := i) (by simpa using h)
    show (a :: 32 :: joinC [32] ((b :: r).map fun c => [c])).getD (2 * (i + 1)) 0 = _
    rw [show 2 * (i + 1) = 2 * i + 1 + 1 by lia]
    simpa using ih
theorem join_even : ∀ {cs : List Nat} {i : Nat}, i + 1 < cs.length → (joinC [32] (cs.map fun c => [c])).getD (2 * i + 1) 0 = 32
  | [], _, h => absurd h (Nat.not_lt_zero _)
  | [a], i, h => by simp at h
  | a :: b :: r, 0, _ => rfl
  | a :: b :: r, i + 1, h => by
    have ih := join_even (cs := b :: r) (i := i) (by simpa using h)
    show (a :: 32 :: joinC [32] ((b :: r).map fun c => [c])).getD (2 * (i + 1) + 1) 0 = _
    rw [show 2 * (i + 1) + 1 = 2 * i + 1 + 1 + 1 by lia]
    simpa using ih
theorem typed_codes (cs : List Nat) : (typedText cs).cps.toList = joinC [32] (cs.map fun c => [c]) := by
  unfold typedText
  rw [join_codes, blankS, List.map_map]
  rfl
theorem typed_getD (cs : List Nat) (i : Nat) : (typedText cs).cps.getD i 0 = (joinC [32] (cs.map fun c => [c])).getD i 0 := by
  rw [← typed_codes]
  simp [List.getD_eq_getElem?_getD]
theorem typed_is {cs : List Nat} {n : Nat} (hn : cs.length = n) (h0 : 0 < n) (hb : ∀ c ∈ cs, blank c = false) : Typed (typedText cs) n where
  pos := h0
  size := by
    have := join_len (cs := cs) (by intro e; rw [e] at hn; simp at hn; lia)
    rw [← typed_codes, hn] at this
    simpa using this
  odd i hi := by rw [typed_getD, join_odd (by lia)]; exact hb _ (mem_getD (by lia))
  even i hi := by rw [typed_getD, join_even (by lia)]
theorem sign_typed {cs : List Nat} {i : Nat} (hi : i < cs.length) : signAt (typedText cs) (2 * i) = one (cs.getD i 0) := by
  apply str_ext
  have hl := join_len (cs := cs) (by intro e; rw [e] at hi; simp at hi)
  have h2 : 2 * i < (joinC [32] (cs.map fun c => [c])).length := by lia
  have h3 := join_odd hi
  rw [List.getD_eq_getElem?_getD, List.getElem?_eq_getElem h2, Option.getD_some] at h3
  show ((typedText cs).cps.extract (2 * i) (2 * i + 1)).toList = [cs.getD i 0]
  rw [Array.toList_extract, typed_codes]
  show (List.drop (2 * i) _).take (2 * i + 1 - 2 * i) = _
  rw [show 2 * i + 1 - 2 * i = 1 by lia, List.drop_eq_getElem_cons h2, h3]
  rfl
/-- the chunks -/
noncomputable def chsOf (cs : List Nat) (i : Nat) : Chunk := (if i = 0 then Str.ofString "" else Str.ofString " ", one (cs.getD i 0))
theorem chunks_typed (cs : List Nat) (h0 : 0 < cs.length) : ChunksOf (typedText cs) cs.length (chsOf cs) where
  zero := by
    unfold chsOf
    rw [if_pos rfl]
    have := sign_typed h0
    rw [← this]
  succ i h1 h2 := by
    unfold chsOf
    rw [if_neg (by lia), sign_typed h2]
noncomputable def seg (cs : List Nat) (a b : Nat) : List Chunk := (List.range (b - a)).map fun j => chsOf cs (a + j)
theorem seg_snoc {cs : List Nat} {a b : Nat} (h : a ≤ b) : seg cs a (b + 1) = seg cs a b ++ [chsOf cs b] := by
  unfold seg
  rw [show b + 1 - a = (b - a) + 1 by lia, List.range_succ, List.map_append]
  simp [show a + (b - a) = b by lia]
theorem seg_self {cs : List Nat} {a : Nat} : seg cs a a = [] := by simp [seg]
theorem seg_one {cs : List Nat} {a : Nat} : seg cs a (a + 1) = [chsOf cs a] := by rw [seg_snoc (Nat.le_refl _), seg_self]; rfl
theorem seg_len {cs : List Nat} {a b : Nat} : (seg cs a b).length = b - a := by simp [seg]
theorem lenL_snoc (l : List Chunk) (p : Chunk) : lenL (l ++ [p]) = lenL l + ((p.1.length + p.2.length : Nat) : Int) := by simp [lenL]
theorem chs_len (cs : List Nat) (i : Nat) : (chsOf cs i).1.length + (chsOf cs i).2.length = if i = 0 then 1 else 2 := by
  unfold chsOf
  by_cases h : i = 0
  · rw [if_pos h, if_pos h, emptyS]; rfl
  · rw [if_neg h, if_neg h, blankS]; rfl
theorem lenL_first (cs : List Nat) : ∀ i, lenL (seg cs 0 (i + 1)) = 2 * (i : Int) + 1
  | 0 => by rw [seg_one]; have := chs_len cs 0; simp only [lenL, List.map_cons, List.map_nil, List.sum_cons, List.sum_nil]; rw [this]; rfl
  | i + 1 => by
    rw [seg_snoc (Nat.zero_le _), lenL_snoc, lenL_first cs i, chs_len, if_neg (by lia)]
    lia
theorem lenL_seg (cs : List Nat) (a : Nat) (ha : 0 < a) : ∀ n, lenL (seg cs a (a + n)) = 2 * (n : Int)
  | 0 => by rw [Nat.add_zero, seg_self]; rfl
  | n + 1 => by
    rw [← Nat.add_assoc, seg_snoc (by lia), lenL_snoc, lenL_seg cs a ha n, chs_len, if_neg (by lia)]
    lia
section
variable (cs : List Nat) (h s : Nat) (room : Int)
noncomputable def rowAt (i : Nat) : Nat := if i ≤ h then 0 else if i ≤ h + s then h else h + s
noncomputable def curOf (i : Nat) : List Chunk := seg cs (rowAt h s i) i
noncomputable def lsOf (i : Nat) : List Str := if i ≤ h then [] else if i ≤ h + s then [textL (seg cs 0 h)] else [textL (seg cs 0 h), textL (seg cs h (h + s))]
noncomputable def kOf (i : Nat) : Int := if i ≤ h then room else 0
theorem plan_typed (hh : 1 ≤ h) (hs : 1 ≤ s) (hs1 : s ≤ 20) (h1 : h ≤ 40) (r0 : 0 ≤ room) (r1 : room + 2 * h ≤ 2 * s + 1) (r2 : 2 * s ≤ room + 2 * h) :
    Plan (2 * (s : Int)) (h + 2 * s) (chsOf cs) (lsOf cs h s) (curOf cs h s) (kOf h room) where
  step i hi := by
    unfold lsOf curOf kOf rowAt
    by_cases c1 : i + 1 ≤ h
    · left
      rw [if_pos (show i ≤ h by lia), if_pos c1, if_pos (show i ≤ h by lia), if_pos c1, if_pos (show i ≤ h by lia), if_pos c1, ← seg_snoc (Nat.zero_le _)]
      refine ⟨?_, rfl, rfl, rfl⟩
      rw [lenL_first]; lia
    by_cases c2 : i ≤ h
    · obtain rfl : i = h := by lia
      right
      rw [if_pos c2, if_neg c1, if_pos (show i + 1 ≤ i + s by lia), if_pos c2, if_pos c2, if_neg c1, if_pos (show i + 1 ≤ i + s by lia), if_neg c1, ← seg_snoc (Nat.zero_le _), seg_one]
      refine ⟨?_, by unfold chsOf; rw [if_neg (by lia)], ?_, rfl, rfl, rfl⟩
      · rw [lenL_first]; lia
      · intro e; have := seg_len (cs := cs) (a := 0) (b := i); rw [e] at this; simp at this; lia
    by_cases c3 : i + 1 ≤ h + s
    · left
      rw [if_neg c2, if_neg c2, if_neg c2, if_neg c1, if_neg c1, if_neg c1, if_pos c3, if_pos c3, if_pos (show i ≤ h + s by lia), if_pos (show i ≤ h + s by lia), ← seg_snoc (by lia)]
      refine ⟨?_, rfl, rfl, rfl⟩
      have := lenL_seg cs h (by lia) (i + 1 - h)
      rw [show h + (i + 1 - h) = i + 1 by lia] at this
      rw [this]; lia
    by_cases c4 : i ≤ h + s
    · obtain rfl : i = h + s := by lia
      right
      rw [if_neg c2, if_neg c2, if_neg c2, if_neg c1, if_neg c1, if_neg c1, if_neg c3, if_neg c3, if_pos c4, if_pos c4, ← seg_snoc (by lia), seg_one]
      refine ⟨?_, by unfold chsOf; rw [if_neg (by lia)], ?_, rfl, rfl, rfl⟩
      · have := lenL_seg cs h (by lia) (s + 1)
        rw [show h + (s + 1) = h + s + 1 by lia] at this
        rw [this]; lia
      · intro e; have := seg_len (cs := cs) (a := h) (b := h + s); rw [e] at this; simp at this; lia
    · left
      rw [if_neg c2, if_neg c2, if_neg c2, if_neg c1, if_neg c1, if_neg c1, if_neg c3, if_neg c3, if_neg c4, if_neg c4, ← seg_snoc (by lia)]
      refine ⟨?_, rfl, rfl, rfl⟩
      have := lenL_seg cs (h + s) (by lia) (i + 1 - (h + s))
      rw [show h + s + (i + 1 - (h + s)) = i + 1 by lia] at this
      rw [this]; lia
  short i hi := by
    unfold lsOf curOf kOf
    rw [seg_len]
    refine ⟨by lia, ?_, ?_, ?_⟩
    · split
      · simp
      · split <;> simp
    · split <;> lia
    · split <;> lia
  ch i hi := by
    unfold chsOf
    refine ⟨?_, Nat.le_refl 1⟩
    dsimp only
    split
    · rw [emptyS]; exact Nat.zero_le _
    · rw [blankS]; exact Nat.le_refl 1
end
/-- a row of blanks and typed signs, and its letters -/
inductive RowOf : List Nat → List Nat → Prop
  | nil : RowOf [] []
  | blank {xs zs : List Nat} : RowOf xs zs → RowOf (32 :: xs) zs
  | sign {c j : Nat} {xs zs : List Nat} : TypedSign c j → RowOf xs zs → RowOf (c :: xs) ((97 + j) :: zs)
theorem RowOf.app {xs zs xs' zs' : List Nat} (h : RowOf xs zs) (h' : RowOf xs' zs') : RowOf (xs ++ xs') (zs ++ zs') := by
  induction h with
  | nil => exact h'
  | blank _ ih => exact .blank ih
  | sign t _ ih => exact .sign t ih
theorem piece_codes (p : Chunk) : (pieceL p).cps.toList = p.1.cps.toList ++ p.2.cps.toList := by
  unfold pieceL
  rw [join_flat]
  simp
theorem text_snoc (l : List Chunk) (p : Chunk) : (textL (l ++ [p])).cps.toList = (textL l).cps.toList ++ (p.1.cps.toList ++ p.2.cps.toList) := by
  unfold textL
  rw [join_flat, join_flat]
  simp [piece_codes]
theorem row_seg {cs : List Nat} {J : Nat → Nat} (hT : ∀ i, i < cs.length → TypedSign (cs.getD i 0) (J i)) (a : Nat) : ∀ n, a + n ≤ cs.length → RowOf (textL (seg cs a (a + n))).cps.toList ((List.range n).map fun j => 97 + J (a + j))
  | 0, _ => by rw [Nat.add_zero, seg_self]; exact .nil
  | n + 1, h => by
    have ih := row_seg hT a n (by lia)
    rw [← Nat.add_assoc, seg_snoc (by lia), text_snoc, List.range_succ, List.map_append]
    refine ih.app ?_
    have ht := hT (a + n) (by lia)
    unfold chsOf
    by_cases c : a + n = 0
    · rw [if_pos c, emptyS]
      exact .sign ht .nil
    · rw [if_neg c, blankS]
      exact .blank (.sign ht .nil)
theorem TypedSign.facts {c j : Nat} (h : TypedSign c j) : blank c = false ∧ c ≠ 10 ∧ c ≠ 32 ∧ PyData.strOk ⟨#[c]⟩ = true ∧ Unicode.isSpace c = false := by
  obtain ⟨hj, h⟩ := h
  have A : ∀ b ∈ [97, 65, 119808, 119860], ∀ j, j < 26 → (!blank (b + j) && (b + j != 10) && (b + j != 32) && PyData.strOk ⟨#[b + j]⟩ && !Unicode.isSpace (b + j)) = true := by
    intro b hb j hj
    exact all_range (p := fun j => (!blank (b + j) && (b + j != 10) && (b + j != 32) && PyData.strOk ⟨#[b + j]⟩ && !Unicode.isSpace (b + j))) (by
      simp only [List.mem_cons, List.not_mem_nil, or_false] at hb
      rcases hb with rfl | rfl | rfl | rfl <;> kernel_rfl) j hj
  have key : ∀ b ∈ [97, 65, 119808, 119860], blank (b + j) = false ∧ b + j ≠ 10 ∧ b + j ≠ 32 ∧ PyData.strOk ⟨#[b + j]⟩ = true ∧ Unicode.isSpace (b + j) = false := by
    intro b hb
    have := A b hb j hj
    simp only [Bool.and_eq_true, Bool.not_eq_true', bne_iff_ne, ne_eq] at this
    exact ⟨this.1.1.1.1, this.1.1.1.2, this.1.1.2, this.1.2, this.2⟩
  rcases h with rfl | rfl | rfl | rfl
  · exact key 97 (by simp)
  · exact key 65 (by simp)
  · exact key 119808 (by simp)
  · exact key 119860 (by simp)
theorem RowOf.free {xs zs : List Nat} (h : RowOf xs zs) : 10 ∉ xs := by
  induction h with
  | nil => simp
  | blank _ ih => simpa using ih
  | sign t _ ih =>
    intro q
    rcases List.mem_cons.mp q with q | q
    · exact t.facts.2.1 q.symm
    · exact ih q
theorem RowOf.nospace {xs zs : List Nat} (h : RowOf xs zs) (hz : zs ≠ []) : xs.all Unicode.isSpace = false := by
  induction h with
  | nil => exact absurd rfl hz
  | blank _ ih =>
    rw [List.all_cons, ih hz, Bool.and_false]
  | sign t _ ih => rw [List.all_cons, t.facts.2.2.2.2, Bool.false_and]
end Mine
end
section
open PySem PySem.W PyProof.Rows PySem.Calls Builtin Builtin.ObjectAttr Builtin.Getset_descriptor
set_option Elab.async false
set_option maxRecDepth 100000
set_option maxHeartbeats 0
namespace Mine
theorem signs_cons {x : Str} {k : Nat} {ps : List (Str × Tok)} (hk : 0 < k) (h : ps.map (·.1) = signs x k) : ∃ t0 ps', ps = (signAt x 0, t0) :: ps' := by
  cases ps with
  | nil =>
    have := congrArg List.length h
    simp at this; lia
  | cons p ps' =>
    refine ⟨p.2, ps', ?_⟩
    have e : p.1 = signAt x 0 := by
      have := congrArg (fun l => l[0]?) h
      simp only [List.map_cons, List.getElem?_cons_zero, List.getElem?_map, List.getElem?_range hk, Option.map_some] at this
      exact Option.some.inj this
    rw [← e]
theorem add_empty {w : World} {A : Around} {E : Value → Shared → Prop} {s : Shared} {y : Str} {t u : Tok} {Q : Value → Shared → Prop} (h : Q (.str y u) s) : wpAny (model pr w) A (binaryOp .Add (.str (Str.ofString "") t) (.str y u)) Q E s :=
  PySem.P.add_str (by rw [if_pos (by decide)]; exact h)
theorem signAt_len {x : Str} {i : Nat} (h : i < x.cps.size) : (signAt x i).length = 1 := by
  show (x.cps.extract i (i + 1)).size = 1
  rw [Array.size_extract]; lia
theorem truthy_pos {w : World} {A : Around} {E : Value → Shared → Prop} {s : Shared} {y : Str} {t : Tok} {Q : Bool → Shared → Prop} (hy : y.length = 1) (h : Q true { s with toks := s.toks + 1 + 1 }) : wpAny (model pr w) A (truthy (.str y t)) Q E s := by
  refine PySem.P.truthy_str (by rw [hy]; decide) ?_
  rw [hy]; exact h
theorem callWith_TS {M : Model} {A : Around} {E : Value → Shared → Prop} {s : Shared} {env : Env} {pos p : Pos} {first : List Value} {Q : Value → Shared → Prop} {e : PySem.Expr} {T : String}
    (h : wpAny M A (eval e env) (fun v s₁ => StarOf M A E v (fun vs s₂ => True ∧ wpAny M A (call (.type T) (first ++ vs)) Q E s₂) s₁) E s)
    (he : starEach [.Starred e p] env = [(true, eval e env)] := by rfl) :
    wpAny M A (callWith pos (.type T) first (backTo pos (starEach [.Starred e p] env)) []) Q E s := by
  rw [he]
  exact ks_call (P := fun _ => True) rfl (fun h _ => ⟨.machine, .inr (.inl rfl), .now⟩) (ks_lone h)
theorem it_entry : entryFor table "iter" = some Builtin.«iter» := entryFor_of_tree (by kernel_rfl)
theorem it_args (a : Value) : argsOk "iter" ⟨[a], []⟩ := by unfold argsOk; kernel_rfl
theorem iter_K {w : World} {A : Around} {E : Value → Shared → Prop} {s : Shared} {h₀ : Heap} {L l : Addr} {m : Str → Option Value} {news : List (Addr × Obj)} {vs : Array Value} {n : Nat} {Q : Value → Shared → Prop} (F : Fr h₀ L s.heap m) (N : News h₀ L s.heap news) (hl : (l, W.listOf vs n) ∈ news)
    (h : ∀ (it : Addr) (h' : Heap), (∀ p ∈ news, p.1 < it) → Fr h₀ L h' m → News h₀ L h' ((it, iterO l 0) :: news) → Q (.ref it) { s with heap := h' }) : wpAny (model pr w) A (call (.builtin "iter") [.ref l]) Q E s := by
  refine call_function_entry (by decide +kernel) (by decide +kernel) it_entry (it_args _) ?_
  unfold Builtin.«iter»
  refine wpAny_bind (m := someArgs "iter" 1 2 _) (wpAny_of_eq (a := [Value.ref l]) (by first | rfl | kernel_rfl) ?_)
  dsimp only
  refine wpAny_bind (wpAny_pyIter_list ⟨_, (N _ hl).1, rfl, _, rfl⟩ (wpAny_pure ⟨_, rfl, ?_⟩))
  exact h _ _ (fun p hp => Heap.lt_size (N p hp).1) (F.push _) (N.push F (iterO l 0))
theorem mul2_K {w : World} {A : Around} {E : Value → Shared → Prop} {s : Shared} {h₀ : Heap} {L l : Addr} {m : Str → Option Value} {news : List (Addr × Obj)} {v : Value} {n : Nat} {u : Tok} {Q : Value → Shared → Prop} (F : Fr h₀ L s.heap m) (N : News h₀ L s.heap news) (hl : (l, W.listOf #[v] n) ∈ news)
    (h : ∀ (a : Addr) (h' : Heap), (∀ p ∈ news, p.1 < a) → Fr h₀ L h' m → News h₀ L h' ((a, W.listOf #[v, v] 0) :: news) → Q (.ref a) { s with heap := h' }) : wpAny (model pr w) A (binaryOp .Mult (.ref l) (.int 2 u)) Q E s :=
  mul_list F N (N _ hl).1 (by decide) (by decide) (Nat.le_of_ble_eq_true rfl) (fun h' F' N' => h _ h' (fun p hp => Heap.lt_size (N p hp).1) F' N')
theorem Fr.named {h₀ h : Heap} {L : Addr} {m : Str → Option Value} {x : Str} {v : Value} (F : Fr h₀ L h m) (e : m x = some v) : Fr h₀ L h (fun y => if y = x then some v else m y) := by
  have : (fun y => if y = x then some v else m y) = m := by
    funext y
    by_cases h : y = x
    · rw [if_pos h, h, e]
    · rw [if_neg h]
  rw [this]; exact F
theorem alRest_ne {w : World} {f fd ll x dx l : Addr} {mx : Int} {T : FT} {ls : List (Str × Tok)} {c : Nat} {parts : List Part} {n : Nat} {k : Int} {ti te : Tok} {ps qs : Array Value} {rest : List (Addr × Obj)}
    (h : ∀ p ∈ AL w x dx parts n k ti te ps qs (FR w f fd ll x mx T ls c rest), p.1 < l) : ∀ p ∈ rest, p.1 ≠ l := fun p hp => ne_lt (h p (.tail _ (.tail _ (.tail _ (.tail _ (.tail _ (.tail _ (.tail _ hp))))))))
theorem signs_size {x : Str} {k : Nat} {ps : List (Str × Tok)} (h : ps.map (·.1) = signs x k) : (linesV ps).size = k := by
  have := congrArg List.length h
  simp at this
  simp [linesV, this]
theorem first_K {w : World} {A : Around} {E : Value → Shared → Prop} {s : Shared} {h₀ : Heap} {L l : Addr} {news : List (Addr × Obj)} {value slice : PySem.Expr} {p : Str × Tok} {ps : List (Str × Tok)} {n : Nat} {u : Tok} {Q : Value → Shared → Prop} (N : News h₀ L s.heap news) (hl : (l, W.listOf (linesV (p :: ps)) n) ∈ news)
    (h : Q (.str p.1 p.2) s) (hs : subscripted slice false (.ref l) (.int 0 u) = operate [.ref l, .int 0 u] (getItem (.ref l) (.int 0 u)) := by with_unfolding_all rfl) : wpAny (model pr w) A (subscriptTail value slice (.ref l) (.int 0 u)) Q E s := by
  have z : s.heap.IsList l (linesV (p :: ps)) := ⟨_, (N _ hl).1, rfl, _, rfl⟩
  exact tail_any z.typeIs slot_list_getitem.lookup (wpAny_getItem_list z (by decide) (by decide) (by simp [linesV]) h) hs
theorem lines_FmJ_1 : True := by
  w_top off
  k_with_none
  k_with "m9:room" => ktr_room
  k_with "m9:inst" => (refine' inst_acc ?NQ8 ?h1Q8 ?h2Q8; (case NQ8 => k_asm); (case h1Q8 => k_mem); (case h2Q8 => k_mem))
  k_with "m9:all" => first | (with_reducible assumption) | exact allNe_lt (by assumption)
  k_with "m9:mem" => first | exact List.Mem.head _ | (refine' List.Mem.tail _ ?_; k_mem) | assumption
  k_with "m:eval Name" => dsimp only
  k_with "m:spliced" => dsimp only
  k_with "m:execs cons" => dsimp only
  k_with "m:eval Constant int" => dsimp only
  k_with "m:eval BinOp" => dsimp only
  k_with "m:execs nil" => dsimp only
  k_with "m:eval Call" => dsimp only
  k_with "m:storeName" => dsimp only
  k_with "m:exec Assign" => dsimp only
  k_with "m:callWith" => dsimp only
  k_with "m:eval Subscript" => dsimp only
  k_with "m:eval Call Attribute" => dsimp only
  k_with "m:evalPart none" => dsimp only
  k_with "m:truthy bool" => dsimp only
  k_with "m:callWith ref" => dsimp only
  k_with "m:call ref" => dsimp only
  k_with "m:isTrue Compare" => dsimp only
  k_with "m:getMethod ref" => dsimp only
  k_with "m:exec If" => dsimp only
  k_with "m:exec Return some" => dsimp only
  k_with "m:getAttr ref" => dsimp only
  k_with "m:eval Attribute Name" => dsimp only
  k_with "m:binaryOp Add int int" => dsimp only
  k_with "m:isTrue BoolOp" => dsimp only
  k_with "m:binaryOp Mod int int" => dsimp only
  k_with "m:subscriptTail Name Constant ref int" => dsimp only
  k_with "m:evalPart some" => dsimp only
  k_with "m:eval Slice" => dsimp only
  k_with "m:exec Expr" => dsimp only
  k_with "m:isTrue" => dsimp only
  k_with "m:eval Constant str" => dsimp only
  k_with "m:assignInOrder" => dsimp only
  k_with "m:call builtin:len" => dsimp only
  k_with "m:newTuple" => dsimp only
  k_with "m:eval Tuple" => dsimp only
  k_with "m:eval BoolOp" => dsimp only
  k_with "m:subscriptTail Name Slice str ref" => dsimp only
  k_with "m:getMethod str" => dsimp only
  k_with "m:setAttr ref" => dsimp only
  k_with "m:newList" => dsimp only
  k_with "m:eval List" => dsimp only
  k_with "m:binaryOp Mult int int" => dsimp only
  k_with "m:con_enter" => (refine wpAny_call ?_; k_dflt (first | cell_enter | (refine' code_defC ?k1Q8 ?k2Q8 ?k3Q8 ?k4Q8 ?k5Q8 ?kAQ8 ?kFQ8 ?kKQ8 ?k6Q8 ?k7Q8 ?k8Q8 ?k9Q8 ?kBQ8 ?kDQ8 ?_ ?c2Q8 ?c3Q8 ?c4Q8; (case kAQ8 => exact rfl); (case kFQ8 => exact rfl); (case kKQ8 => assumption); (case k1Q8 => k_asm); (case k2Q8 => k_asm); (case k3Q8 => k_asm); (case k4Q8 => k_asm); (case k5Q8 => k_asm); (case k6Q8 => k_is); (case k7Q8 => k_is); (case k8Q8 => ktr_room); (case k9Q8 => first | exact BindsTo.of_eq rfl | exact binds_K (by k_in) rfl (by k_is) rfl rfl rfl | fail "k_enter: no rule for these arguments"); (case kBQ8 => exact rfl); (case kDQ8 => decide +kernel); (case c2Q8 => exact rfl); (case c3Q8 => exact rfl); (case c4Q8 => exact rfl); k_whole; intro g'Q9 L'Q9 h'Q9 tk'Q9 cells'Q9 FG'Q9 F'Q9 N'Q9 Y'Q9 B'Q9 X'Q9 T'Q9 l1Q9; (try k_lt l1Q9); k_cells Y'Q9; (try simp only [List.cons_append, List.nil_append] at N'Q9); (try dsimp only); (try k_lift B'Q9); (try k_fold))))
  k_with "m:con_enterS" => (refine wpAny_call ?_; k_dflt (refine' code_defS ?k1Q8 ?k2Q8 ?k3Q8 ?k4Q8 ?k5Q8 ?kAQ8 ?kFQ8 ?kKQ8 ?k6Q8 ?k7Q8 ?k8Q8 ?k9Q8 ?kBQ8 ?_ ?c2Q8 ?c3Q8 ?c4Q8 ?c5Q8; (case kAQ8 => exact rfl); (case kFQ8 => exact rfl); (case kKQ8 => first | assumption | exact rfl); (case k1Q8 => k_asm); (case k2Q8 => k_asm); (case k3Q8 => k_asm); (case k4Q8 => k_asm); (case k5Q8 => k_asm); (case k6Q8 => k_is); (case k7Q8 => k_is); (case k8Q8 => ktr_room); (case k9Q8 => first | exact BindsTo.of_eq rfl | exact binds_K (by k_in) rfl (by k_is) rfl rfl rfl); (case c5Q8 => decide); (case kBQ8 => exact locs rfl); (case c2Q8 => exact rfl); (case c3Q8 => exact rfl); (case c4Q8 => exact rfl); k_whole; intro g'Q9 L'Q9 h'Q9 FG'Q9 F'Q9 N'Q9 B'Q9 X'Q9 T'Q9 l1Q9; (try dsimp only); (try k_lift B'Q9); (try k_fold)))
  k_with "m:con_enterT" => (k_dflt (refine' code_defS ?k1Q8 ?k2Q8 ?k3Q8 ?k4Q8 ?k5Q8 ?kAQ8 ?kFQ8 ?kKQ8 ?k6Q8 ?k7Q8 ?k8Q8 ?k9Q8 ?kBQ8 ?_ ?c2Q8 ?c3Q8 ?c4Q8 ?c5Q8; (case kAQ8 => exact rfl); (case kFQ8 => exact rfl); (case kKQ8 => first | assumption | exact rfl); (case k1Q8 => k_asm); (case k2Q8 => k_asm); (case k3Q8 => k_asm); (case k4Q8 => k_asm); (case k5Q8 => k_asm); (case k6Q8 => k_is); (case k7Q8 => k_is); (case k8Q8 => ktr_room); (case k9Q8 => first | exact BindsTo.of_eq rfl | exact binds_K (by k_in) rfl (by k_is) rfl rfl rfl); (case c5Q8 => decide); (case kBQ8 => exact locs rfl); (case c2Q8 => exact rfl); (case c3Q8 => exact rfl); (case c4Q8 => exact rfl); k_whole; intro g'Q9 L'Q9 h'Q9 FG'Q9 F'Q9 N'Q9 B'Q9 X'Q9 T'Q9 l1Q9; (try dsimp only); (try k_lift B'Q9); (try k_fold)))
  k_with "m:call builtin:str.isspace" => (k_here; k_dflt (refine KXw.isspace (b := true) (by decide +kernel) ?_))
  k_with "m:call ref" => (k_here; k_dflt (first | (refine' F_push ?hOQ8 ?hTQ8 ?a1Q8 ?a2Q8 ?a3Q8 _ _ _ _ _ _ _ _ _ _ _ _ _ _ _ _ _ ?k1Q8 ?k2Q8 ?k3Q8 ?k4Q8 ?k5Q8 ?kKQ8 ?kGQ8 ?kdQ8 ?kuQ8 ?_; (case k1Q8 => k_asm); (case k2Q8 => k_asm); (case k3Q8 => k_asm); (case k4Q8 => first | k_asm | exact news_drop1 (by k_asm) | exact news_drop2 (by k_asm) | exact news_drop1 (news_drop2 (by k_asm))); (case k5Q8 => k_asm); (case kKQ8 => first | exact rfl | assumption); (case kGQ8 => k_asm); (case kdQ8 => ktr_room); (case kuQ8 => first | ktr_units | (rw [tc_units]; dsimp only [ktrTop]; (first | (law_clear; lia) | omega))); (case hOQ8 => assumption); (case hTQ8 => assumption); (case a1Q8 => first | assumption | (first | (law_clear; lia) | omega) | decide); (case a2Q8 => first | assumption | (first | (law_clear; lia) | omega) | decide); (case a3Q8 => first | assumption | (first | (law_clear; lia) | omega) | decide); k_whole; intro t'Q9 n'Q9 h'Q9 tk'Q9 hfr'Q9 O'Q9 F'Q9 N'Q9; (try (have hLen9Q9 := FitOk.le (by assumption) t'Q9)); (try (have hLen9Q9 := CutOk.le (by assumption) t'Q9)); (try k_sweep); (try dsimp only)) | (refine' F_pop ?hOQ8 ?hTQ8 _ _ _ _ _ _ _ _ _ _ _ _ _ _ _ _ _ ?k1Q8 ?k2Q8 ?k3Q8 ?k4Q8 ?k5Q8 ?kKQ8 ?kGQ8 ?kdQ8 ?kuQ8 ?_; (case k1Q8 => k_asm); (case k2Q8 => k_asm); (case k3Q8 => k_asm); (case k4Q8 => first | k_asm | exact news_drop1 (by k_asm) | exact news_drop2 (by k_asm) | exact news_drop1 (news_drop2 (by k_asm))); (case k5Q8 => k_asm); (case kKQ8 => first | exact rfl | assumption); (case kGQ8 => k_asm); (case kdQ8 => ktr_room); (case kuQ8 => first | ktr_units | (rw [tc_units]; dsimp only [ktrTop]; (first | (law_clear; lia) | omega))); (case hOQ8 => assumption); (case hTQ8 => assumption); k_whole; intro n'Q9 h'Q9 tk'Q9 O'Q9 F'Q9 N'Q9; (try k_sweep); (try dsimp only)) | (refine' F_cut ?hOQ8 ?hTQ8 ?a1Q8 _ _ _ _ _ _ _ _ _ _ _ _ _ _ _ _ _ ?k1Q8 ?k2Q8 ?k3Q8 ?k4Q8 ?k5Q8 ?kKQ8 ?kGQ8 ?kdQ8 ?kuQ8 ?_; (case k1Q8 => k_asm); (case k2Q8 => k_asm); (case k3Q8 => k_asm); (case k4Q8 => first | k_asm | exact news_drop1 (by k_asm) | exact news_drop2 (by k_asm) | exact news_drop1 (news_drop2 (by k_asm))); (case k5Q8 => k_asm); (case kKQ8 => first | exact rfl | assumption); (case kGQ8 => k_asm); (case kdQ8 => ktr_room); (case kuQ8 => first | ktr_units | (rw [tc_units]; dsimp only [ktrTop]; (first | (law_clear; lia) | omega))); (case hOQ8 => assumption); (case hTQ8 => assumption); (case a1Q8 => first | assumption | (first | (law_clear; lia) | omega) | (simp only [List.length_append, List.length_cons, List.length_nil]; (first | (law_clear; lia) | omega))); k_whole; intro l'Q9 n'Q9 h'Q9 tk'Q9 O1'Q9 O2'Q9 F'Q9 N'Q9; (try k_sweep); (try dsimp only)) | (refine' F_reset ?hOQ8 ?hTQ8 ?a1Q8 ?a2Q8 _ _ _ _ _ _ _ _ _ _ _ _ _ _ _ _ _ ?k1Q8 ?k2Q8 ?k3Q8 ?k4Q8 ?k5Q8 ?kKQ8 ?kGQ8 ?kdQ8 ?kuQ8 ?_; (case k1Q8 => k_asm); (case k2Q8 => k_asm); (case k3Q8 => k_asm); (case k4Q8 => first | k_asm | exact news_drop1 (by k_asm) | exact news_drop2 (by k_asm) | exact news_drop1 (news_drop2 (by k_asm))); (case k5Q8 => k_asm); (case kKQ8 => first | exact rfl | assumption); (case kGQ8 => k_asm); (case kdQ8 => ktr_room); (case kuQ8 => first | ktr_units | (rw [tc_units]; dsimp only [ktrTop]; (first | (law_clear; lia) | omega))); (case hOQ8 => assumption); (case hTQ8 => assumption); (case a1Q8 => k_mem); (case a2Q8 => assumption); k_whole; intro n'Q9 ti'Q9 te'Q9 h'Q9 tk'Q9 F'Q9 N'Q9; (try k_sweep); (try dsimp only)) | (refine' A_resetN ?hOQ8 ?hTQ8 _ _ _ _ _ _ _ _ _ _ _ _ _ _ _ _ _ ?k1Q8 ?k2Q8 ?k3Q8 ?k4Q8 ?k5Q8 ?kKQ8 ?kGQ8 ?kdQ8 ?kuQ8 ?_; (case k1Q8 => k_asm); (case k2Q8 => k_asm); (case k3Q8 => k_asm); (case k4Q8 => first | k_asm | exact news_drop1 (by k_asm) | exact news_drop2 (by k_asm) | exact news_drop1 (news_drop2 (by k_asm))); (case k5Q8 => k_asm); (case kKQ8 => first | exact rfl | assumption); (case kGQ8 => k_asm); (case kdQ8 => ktr_room); (case kuQ8 => first | ktr_units | (rw [tc_units]; dsimp only [ktrTop]; (first | (law_clear; lia) | omega))); (case hOQ8 => exact FOk.ok (by assumption)); (case hTQ8 => assumption); k_whole; intro n'Q9 ti'Q9 te'Q9 h'Q9 tk'Q9 F'Q9 N'Q9; (try k_sweep); (try dsimp only)) | (refine' A_ws ?hOQ8 ?hTQ8 ?a1Q8 ?a2Q8 ?a3Q8 _ _ _ _ _ _ _ _ _ _ _ _ _ _ _ _ _ ?k1Q8 ?k2Q8 ?k3Q8 ?k4Q8 ?k5Q8 ?kKQ8 ?kGQ8 ?kdQ8 ?kuQ8 ?_; (case k1Q8 => k_asm); (case k2Q8 => k_asm); (case k3Q8 => k_asm); (case k4Q8 => first | k_asm | exact news_drop1 (by k_asm) | exact news_drop2 (by k_asm) | exact news_drop1 (news_drop2 (by k_asm))); (case k5Q8 => k_asm); (case kKQ8 => first | exact rfl | assumption); (case kGQ8 => k_asm); (case kdQ8 => ktr_room); (case kuQ8 => first | ktr_units | (rw [tc_units]; dsimp only [ktrTop]; (first | (law_clear; lia) | omega))); (case hOQ8 => exact FOk.ok (by assumption)); (case hTQ8 => assumption); (case a1Q8 => first | rfl | (first | (law_clear; lia) | omega) | assumption); (case a2Q8 => exact NlOk.len (by assumption) _); (case a3Q8 => exact NlOk.sp (by assumption) _); k_whole; intro t'Q9 n'Q9 ti'Q9 te'Q9 ps'Q9 qs'Q9 h'Q9 g'Q9 d'Q9 tk'Q9 TT'Q9 F'Q9 N'Q9 G'Q9; (try k_sweep); (try dsimp only)) | (refine' A_count ?hOQ8 ?hTQ8 _ _ _ _ _ _ _ _ _ _ _ _ _ _ _ _ _ ?k1Q8 ?k2Q8 ?k3Q8 ?k4Q8 ?k5Q8 ?kKQ8 ?kGQ8 ?kdQ8 ?kuQ8 ?_; (case k1Q8 => k_asm); (case k2Q8 => k_asm); (case k3Q8 => k_asm); (case k4Q8 => first | k_asm | exact news_drop1 (by k_asm) | exact news_drop2 (by k_asm) | exact news_drop1 (news_drop2 (by k_asm))); (case k5Q8 => k_asm); (case kKQ8 => first | exact rfl | assumption); (case kGQ8 => k_asm); (case kdQ8 => ktr_room); (case kuQ8 => first | ktr_units | (rw [tc_units]; dsimp only [ktrTop]; (first | (law_clear; lia) | omega))); (case hOQ8 => exact FOk.ok (by assumption)); (case hTQ8 => assumption); k_whole; intro t'Q9 h'Q9 tk'Q9 F'Q9 N'Q9; (try k_sweep); (try dsimp only))))
  k_with "m:call builtin:len" => (k_here; k_dflt (first | (refine' A_len ?hOQ8 ?hTQ8 ?h0Q8 ?h1Q8 _ _ _ _ _ _ _ _ _ _ _ _ _ _ _ _ _ ?k1Q8 ?k2Q8 ?k3Q8 ?k4Q8 ?k5Q8 ?kKQ8 ?kGQ8 ?kdQ8 ?kuQ8 ?_; (case k1Q8 => k_asm); (case k2Q8 => k_asm); (case k3Q8 => k_asm); (case k4Q8 => first | k_asm | exact news_drop1 (by k_asm) | exact news_drop2 (by k_asm) | exact news_drop1 (news_drop2 (by k_asm))); (case k5Q8 => k_asm); (case kKQ8 => first | exact rfl | assumption); (case kGQ8 => k_asm); (case kdQ8 => ktr_room); (case kuQ8 => first | ktr_units | (rw [tc_units]; dsimp only [ktrTop]; (first | (law_clear; lia) | omega))); (case hOQ8 => exact FOk.ok (by assumption)); (case hTQ8 => assumption); (case h0Q8 => first | (first | (law_clear; lia) | omega) | decide); (case h1Q8 => first | (first | (law_clear; lia) | omega) | decide); k_whole; intro t'Q9 n'Q9 ti'Q9 te'Q9 ps'Q9 qs'Q9 h'Q9 g'Q9 d'Q9 tk'Q9 TT'Q9 F'Q9 N'Q9 G'Q9; (try k_sweep); (try dsimp only))))
  k_with "m:call type:str" => (k_here; k_dflt (first | (refine' A_str ?hOQ8 ?hTQ8 _ _ _ _ _ _ _ _ _ _ _ _ _ _ _ _ _ ?k1Q8 ?k2Q8 ?k3Q8 ?k4Q8 ?k5Q8 ?kKQ8 ?kGQ8 ?kdQ8 ?kuQ8 ?_; (case k1Q8 => k_asm); (case k2Q8 => k_asm); (case k3Q8 => k_asm); (case k4Q8 => first | k_asm | exact news_drop1 (by k_asm) | exact news_drop2 (by k_asm) | exact news_drop1 (news_drop2 (by k_asm))); (case k5Q8 => k_asm); (case kKQ8 => first | exact rfl | assumption); (case kGQ8 => k_asm); (case kdQ8 => ktr_room); (case kuQ8 => first | ktr_units | (rw [tc_units]; dsimp only [ktrTop]; (first | (law_clear; lia) | omega))); (case hOQ8 => exact FOk.ok (by assumption)); (case hTQ8 => assumption); k_whole; intro t'Q9 n'Q9 ti'Q9 te'Q9 ps'Q9 qs'Q9 h'Q9 g'Q9 d'Q9 tk'Q9 TT'Q9 F'Q9 N'Q9 G'Q9; (try k_sweep); (try dsimp only))))
  k_with "m:truthy ref" => (k_here; k_dflt (first | (refine' A_truthy ?hOQ8 ?hTQ8 ?h0Q8 ?h1Q8 _ _ _ _ _ _ _ _ _ _ _ _ _ _ _ _ _ ?k1Q8 ?k2Q8 ?k3Q8 ?k4Q8 ?k5Q8 ?kKQ8 ?kGQ8 ?kdQ8 ?kuQ8 ?_; (case k1Q8 => k_asm); (case k2Q8 => k_asm); (case k3Q8 => k_asm); (case k4Q8 => first | k_asm | exact news_drop1 (by k_asm) | exact news_drop2 (by k_asm) | exact news_drop1 (news_drop2 (by k_asm))); (case k5Q8 => k_asm); (case kKQ8 => first | exact rfl | assumption); (case kGQ8 => k_asm); (case kdQ8 => ktr_room); (case kuQ8 => first | ktr_units | (rw [tc_units]; dsimp only [ktrTop]; (first | (law_clear; lia) | omega))); (case hOQ8 => exact FOk.ok (by assumption)); (case hTQ8 => assumption); (case h0Q8 => first | (first | (law_clear; lia) | omega) | decide); (case h1Q8 => first | (first | (law_clear; lia) | omega) | decide); k_whole; intro t'Q9 n'Q9 ti'Q9 te'Q9 ps'Q9 qs'Q9 h'Q9 g'Q9 d'Q9 tk'Q9 TT'Q9 F'Q9 N'Q9 G'Q9; (try k_sweep); (try dsimp only))))
  k_with "m:call builtin:list.append" => (k_here; k_dflt (refine' F_append ?hOQ8 ?k1Q8 ?k2Q8 ?zQ8 ?_; (case k1Q8 => k_asm); (case k2Q8 => k_asm); (case hOQ8 => assumption); (case zQ8 => first | assumption | (first | (law_clear; lia) | omega)); k_whole); intro h'Q9 F'Q9 N'Q9; (try k_sweep))
  k_with "m:subscriptTail" => (k_here; k_dflt (refine' acc_getint_K ?k1Q8 ?k2Q8 ?k3Q8 ?k4Q8 ?k5Q8 ?k6Q8 ?k7Q8 ?k8Q8 ?_; (case k1Q8 => k_asm); (case k2Q8 => k_asm); (case k3Q8 => k_asm); (case k4Q8 => k_mem); (case k5Q8 => first | (first | (law_clear; lia) | omega) | (simp only [List.length_append, List.length_cons, List.length_nil]; (first | (law_clear; lia) | omega))); (case k6Q8 => first | (first | (law_clear; lia) | omega) | (simp only [List.length_append, List.length_cons, List.length_nil]; (first | (law_clear; lia) | omega))); (case k7Q8 => first | assumption | exact refs_at_last); (case k8Q8 => with_unfolding_all rfl); k_whole))
  k_with "m:getAttr ref" => (k_here; (with_reducible show wpAny _ _ (getAttr (Value.ref _) (PySem.Str.ofString "_current_line") _) _ _ _); k_dflt (refine' F_get_cur ?k1Q8 ?k2Q8 ?k3Q8 ?k4Q8 ?k5Q8 ?_; (case k1Q8 => k_asm); (case k2Q8 => k_asm); (case k3Q8 => k_asm); (case k4Q8 => k_mem); (case k5Q8 => k_mem); k_whole))
  k_with "m:getAttr ref" => (k_here; (with_reducible show wpAny _ _ (getAttr (Value.ref _) (PySem.Str.ofString "_lines") _) _ _ _); k_dflt (refine' F_get_lines ?k1Q8 ?k2Q8 ?k3Q8 ?k4Q8 ?k5Q8 ?_; (case k1Q8 => k_asm); (case k2Q8 => k_asm); (case k3Q8 => k_asm); (case k4Q8 => k_mem); (case k5Q8 => k_mem); k_whole))
  k_with "m:getAttr ref" => (k_here; (with_reducible show wpAny _ _ (getAttr (Value.ref _) (PySem.Str.ofString "_maxlen") _) _ _ _); k_dflt (refine' F_get_max ?k1Q8 ?k2Q8 ?k3Q8 ?k4Q8 ?k5Q8 ?_; (case k1Q8 => k_asm); (case k2Q8 => k_asm); (case k3Q8 => k_asm); (case k4Q8 => k_mem); (case k5Q8 => k_mem); k_whole))
  k_with "m:getAttr ref" => (k_here; (with_reducible show wpAny _ _ (getAttr (Value.ref _) (PySem.Str.ofString "_splitchars") _) _ _ _); k_dflt (refine' F_get_split ?k1Q8 ?k2Q8 ?k3Q8 ?k4Q8 ?k5Q8 ?_; (case k1Q8 => k_asm); (case k2Q8 => k_asm); (case k3Q8 => k_asm); (case k4Q8 => k_mem); (case k5Q8 => k_mem); k_whole))
  k_with "m:getMethod ref" => (k_here; (with_reducible show wpAny _ _ (getMethod (Value.ref _) (PySem.Str.ofString "push") _) _ _ _); k_dflt (refine' A_meth am_push ?k1Q8 ?k2Q8 ?k3Q8 ?k4Q8 ?k5Q8 ?k6Q8 ?_; (case k1Q8 => k_asm); (case k2Q8 => k_asm); (case k3Q8 => k_asm); (case k4Q8 => k_mem); (case k5Q8 => k_mem); (case k6Q8 => exact noIni (by k_get)); k_whole))
  k_with "m:getMethod ref" => (k_here; (with_reducible show wpAny _ _ (getMethod (Value.ref _) (PySem.Str.ofString "pop_from") _) _ _ _); k_dflt (refine' A_meth am_pop_from ?k1Q8 ?k2Q8 ?k3Q8 ?k4Q8 ?k5Q8 ?k6Q8 ?_; (case k1Q8 => k_asm); (case k2Q8 => k_asm); (case k3Q8 => k_asm); (case k4Q8 => k_mem); (case k5Q8 => k_mem); (case k6Q8 => exact noIni (by k_get)); k_whole))
  k_with "m:getMethod ref" => (k_here; (with_reducible show wpAny _ _ (getMethod (Value.ref _) (PySem.Str.ofString "pop") _) _ _ _); k_dflt (refine' A_meth am_pop ?k1Q8 ?k2Q8 ?k3Q8 ?k4Q8 ?k5Q8 ?k6Q8 ?_; (case k1Q8 => k_asm); (case k2Q8 => k_asm); (case k3Q8 => k_asm); (case k4Q8 => k_mem); (case k5Q8 => k_mem); (case k6Q8 => exact noIni (by k_get)); k_whole))
  k_with "m:getMethod ref" => (k_here; (with_reducible show wpAny _ _ (getMethod (Value.ref _) (PySem.Str.ofString "reset") _) _ _ _); k_dflt (refine' A_meth am_reset ?k1Q8 ?k2Q8 ?k3Q8 ?k4Q8 ?k5Q8 ?k6Q8 ?_; (case k1Q8 => k_asm); (case k2Q8 => k_asm); (case k3Q8 => k_asm); (case k4Q8 => k_mem); (case k5Q8 => k_mem); (case k6Q8 => exact noIni (by k_get)); k_whole))
  k_with "m:getMethod ref" => (k_here; (with_reducible show wpAny _ _ (getMethod (Value.ref _) (PySem.Str.ofString "is_onlyws") _) _ _ _); k_dflt (refine' A_meth am_ws ?k1Q8 ?k2Q8 ?k3Q8 ?k4Q8 ?k5Q8 ?k6Q8 ?_; (case k1Q8 => k_asm); (case k2Q8 => k_asm); (case k3Q8 => k_asm); (case k4Q8 => k_mem); (case k5Q8 => k_mem); (case k6Q8 => exact noIni (by k_get)); k_whole))
  k_with "m:getMethod ref" => (k_here; (with_reducible show wpAny _ _ (getMethod (Value.ref _) (PySem.Str.ofString "part_count") _) _ _ _); k_dflt (refine' A_meth am_count ?k1Q8 ?k2Q8 ?k3Q8 ?k4Q8 ?k5Q8 ?k6Q8 ?_; (case k1Q8 => k_asm); (case k2Q8 => k_asm); (case k3Q8 => k_asm); (case k4Q8 => k_mem); (case k5Q8 => k_mem); (case k6Q8 => exact noIni (by k_get)); k_whole))
  k_with "m:compareOp NotEq ref ref" => (k_here; k_dflt (refine' F_ne ?k1Q8 ?k2Q8 ?k3Q8 ?k4Q8 ?kkQ8 ?k5Q8 ?_; (case k1Q8 => k_asm); (case k2Q8 => k_mem); (case k3Q8 => k_mem); (case k4Q8 => assumption); (case kkQ8 => assumption); (case k5Q8 => ktr_units); k_whole))
  k_with "m:eval Call Attribute" => (k_here; (with_reducible show wpAny _ _ (eval (Expr.Call (Expr.Attribute _ _ _) [Expr.Starred _ _] _ _) _) _ _ _); refine MethodStar ?_)
  k_with "m:callWith ref" => (k_here; (with_reducible show wpAny _ _ (callWith _ (Value.ref _) _ (backTo _ (starEach [Expr.Starred _ _] _)) []) _ _ _); k_dflt (refine' callWith_MS ?k1Q8 ?k2Q8 ?k3Q8 ?k4Q8 ?_; (case k1Q8 => k_asm); (case k2Q8 => k_asm); (case k3Q8 => k_mem); (case k4Q8 => k_is); k_whole))
  k_with "m:getAttr ref" => (k_here; (with_reducible show wpAny _ _ (getAttr (Value.ref _) (PySem.Str.ofString "push") _) _ _ _); k_dflt (refine' acc_bound_K ?k1Q8 ?k2Q8 ?k3Q8 ?kIQ8 ?k4Q8 ?k5Q8 ?k6Q8 ?k7Q8 ?k8Q8 ?k9Q8 ?_; (case k1Q8 => k_asm); (case k2Q8 => k_asm); (case k3Q8 => k_asm); (case kIQ8 => k_inst); (case k4Q8 => k_is); (case k5Q8 => k_is); (case k6Q8 => k_is); (case k7Q8 => k_is); (case k8Q8 => decide +kernel); (case k9Q8 => k_get); k_whole; intro q'Q9 h'Q9 F'Q9 N'Q9 l1Q9; (try k_lt l1Q9); (try k_sweep); (try dsimp only)))
  k_with "m:call ref" => (k_here; k_dflt (refine' F_pushM ?hqQ8 ?_; (case hqQ8 => exact (News.get (by k_asm) (by k_mem))); (refine' F_pushC ?hOQ8 ?hTQ8 ?a1Q8 ?a2Q8 ?a3Q8 _ _ _ _ _ _ _ _ _ _ _ _ _ _ _ _ _ ?k1Q8 ?k2Q8 ?k3Q8 ?k4Q8 ?k5Q8 ?kKQ8 ?kdQ8 ?kuQ8 ?_; (case k1Q8 => k_asm); (case k2Q8 => k_asm); (case k3Q8 => k_asm); (case k4Q8 => first | k_asm | exact news_drop1 (by k_asm) | exact news_drop2 (by k_asm) | exact news_drop1 (news_drop2 (by k_asm))); (case k5Q8 => k_asm); (case kKQ8 => first | exact rfl | assumption); (case kdQ8 => ktr_room); (case kuQ8 => first | ktr_units | (rw [tc_units]; dsimp only [ktrTop]; (first | (law_clear; lia) | omega))); (case hOQ8 => assumption); (case hTQ8 => assumption); (case a1Q8 => first | assumption | (first | (law_clear; lia) | omega) | decide); (case a2Q8 => first | assumption | (first | (law_clear; lia) | omega) | decide); (case a3Q8 => first | assumption | (first | (law_clear; lia) | omega) | decide); k_whole; intro t'Q9 n'Q9 h'Q9 tk'Q9 O'Q9 F'Q9 N'Q9; (try (have hLen9Q9 := NlOk.len (by assumption) t'Q9)); (try k_sweep); (try dsimp only))))
  k_with "m:subscriptTail Name Constant ref int" => (k_here; k_dflt (refine' first_K ?k1Q8 ?k2Q8 ?_; (case k1Q8 => k_asm); (case k2Q8 => k_mem); k_whole; (try dsimp only)))
  k_with "m:truthy str" => (k_here; k_dflt (refine' truthy_pos ?k1Q8 ?_; (case k1Q8 => exact signAt_len (by have := Typed.size (by assumption); have := Typed.pos (by assumption); (first | (law_clear; lia) | omega)))))
  k_with "m:setItem ref" => (k_here; k_dflt (refine' front_K ?k1Q8 ?k2Q8 ?k3Q8 ?k4Q8 ?k5Q8 ?k6Q8 ?k7Q8 ?k8Q8 ?_; (case k1Q8 => k_asm); (case k2Q8 => k_asm); (case k3Q8 => k_asm); (case k4Q8 => k_mem); (case k5Q8 => k_upd); (case k6Q8 => first | assumption | exact ne_lt (by assumption) | (apply ne_lt1; assumption) | (apply ne_lt2; assumption) | exact (ne_lt1 (by assumption)).symm | (first | (law_clear; lia) | omega)); (case k7Q8 => first | assumption | (first | (law_clear; lia) | omega) | (rw [signs_size (by assumption)]; (first | (law_clear; lia) | omega))); (case k8Q8 => exact Nat.le_of_ble_eq_true rfl); k_whole); intro h'Q9 F'Q9 N'Q9; (try k_sweep))
  k_with "m:binaryOp Add str str" => (k_here; k_dflt (refine' add_empty ?_))
  k_with "m:getMethod ref" => (k_here; (with_reducible show wpAny _ _ (getMethod (Value.ref _) (PySem.Str.ofString "split") _) _ _ _); k_dflt (refine' pat_meth ?k1Q8 ?k2Q8 ?_; (case k1Q8 => k_asm); (case k2Q8 => k_asm); k_whole))
  k_with "m:call builtin:re.Pattern.split" => (k_here; k_dflt (refine' pat_split ?hTQ8 ?hnQ8 ?k1Q8 ?k2Q8 ?k3Q8 ?_; (case hTQ8 => assumption); (case hnQ8 => assumption); (case k1Q8 => k_asm); (case k2Q8 => k_asm); (case k3Q8 => k_asm); k_whole); intro l'Q9 ps'Q9 h'Q9 tk'Q9 hps'Q9 l1Q9 F'Q9 N'Q9; (obtain ⟨t0'Q9, ps2'Q9, e9Q9⟩ := signs_cons (by have := Typed.pos (by assumption); (first | (law_clear; lia) | omega)) hps'Q9); subst e9Q9; (have hal9Q9 := alRest_ne l1Q9); (have hsp9Q9 := SpOrd.of l1Q9); (try k_lt l1Q9); (try k_sweep))
  k_with "m:exec For" => (k_here; refine wpAny_For ?_ (by intro _; rfl))
  k_with "m:call type:zip" => (k_here; k_dflt (refine' zone_K ?k1Q8 ?k2Q8 ?k3Q8 ?_; (case k1Q8 => k_asm); (case k2Q8 => k_asm); (case k3Q8 => k_mem); k_whole); intro TI'Q9 TO'Q9 z'Q9 h'Q9 l1Q9 l2Q9 l3Q9 F'Q9 N'Q9; (have hzo9Q9 := TiOrd.of l1Q9 l2Q9 l3Q9); clear l1Q9 l2Q9 l3Q9; (try k_sweep))
  k_with "m:callWith type:zip" => (k_here; refine callWith_TS ?_)
  k_with "m:callWith" => (k_here; (with_reducible show wpAny _ _ (callWith _ (Value.type _) _ (backTo _ (starEach [Expr.Starred _ _] _)) []) _ _ _); refine callWith_TS ?_)
  k_with "m:call builtin:iter" => (k_here; k_dflt (refine' iter_K ?k1Q8 ?k2Q8 ?k3Q8 ?_; (case k1Q8 => k_asm); (case k2Q8 => k_asm); (case k3Q8 => k_mem); k_whole); intro it'Q9 h'Q9 l1Q9 F'Q9 N'Q9; (have hio9Q9 := ItOrd.of l1Q9); (try k_lt l1Q9); (try k_sweep))
  k_with "m:binaryOp Mult ref int" => (k_here; k_dflt (refine' mul2_K ?k1Q8 ?k2Q8 ?k3Q8 ?_; (case k1Q8 => k_asm); (case k2Q8 => k_asm); (case k3Q8 => k_mem); k_whole); intro l'Q9 h'Q9 l1Q9 F'Q9 N'Q9; (try k_lt l1Q9); (try k_sweep))
  k_with "m:getMethod ref" => (k_here; (with_reducible show wpAny _ _ (getMethod (Value.ref _) (PySem.Str.ofString "_append_chunk") _) _ _ _); k_dflt (refine' F_m_append ?k1Q8 ?k2Q8 ?k3Q8 ?k4Q8 ?k5Q8 ?_; (case k1Q8 => k_asm); (case k2Q8 => k_asm); (case k3Q8 => first | k_asm | exact news_drop1 (by k_asm)); (case k4Q8 => k_mem); (case k5Q8 => k_mem); k_whole))
  k_with "m:getMethod ref" => (k_here; (with_reducible show wpAny _ _ (getMethod (Value.ref _) (PySem.Str.ofString "_ascii_split") _) _ _ _); k_dflt (refine' F_m_split ?k1Q8 ?k2Q8 ?k3Q8 ?k4Q8 ?k5Q8 ?_; (case k1Q8 => k_asm); (case k2Q8 => k_asm); (case k3Q8 => first | k_asm | exact news_drop1 (by k_asm)); (case k4Q8 => k_mem); (case k5Q8 => k_mem); k_whole))
  k_with "m:getMethod ref" => (k_here; (with_reducible show wpAny _ _ (getMethod (Value.ref _) (PySem.Str.ofString "_str") _) _ _ _); k_dflt (refine' F_m_str ?k1Q8 ?k2Q8 ?k3Q8 ?k4Q8 ?k5Q8 ?_; (case k1Q8 => k_asm); (case k2Q8 => k_asm); (case k3Q8 => first | k_asm | exact news_drop1 (by k_asm)); (case k4Q8 => k_mem); (case k5Q8 => k_mem); k_whole))
  k_with "m:call ref" => (k_here; k_dflt (first | (refine' fmt_fit _ _ _ _ _ _ _ _ _ _ _ _ _ _ _ _ _ _ _ _ _ _ _ _ _ ?hOQ8 ?hTQ8 ?hpQ8 ?laQ8 ?lbQ8 ?h0Q8 ?h1Q8 ?hFQ8 _ _ _ _ _ _ _ _ _ _ _ _ _ _ _ _ _ ?k1Q8 ?k2Q8 ?k3Q8 ?k4Q8 ?k5Q8 ?kKQ8 ?kGQ8 ?kdQ8 ?kuQ8 ?_; (case k1Q8 => k_asm); (case k2Q8 => k_asm); (case k3Q8 => k_asm); (case k4Q8 => first | k_asm | exact news_drop1 (by k_asm) | exact news_drop2 (by k_asm) | exact news_drop1 (news_drop2 (by k_asm))); (case k5Q8 => k_asm); (case kKQ8 => first | exact rfl | assumption); (case kGQ8 => k_asm); (case kdQ8 => ktr_room); (case kuQ8 => first | ktr_units | (rw [tc_units]; dsimp only [ktrTop]; (first | (law_clear; lia) | omega))); (case hOQ8 => assumption); (case hTQ8 => assumption); (case hpQ8 => assumption); (case laQ8 => assumption); (case lbQ8 => assumption); (case h0Q8 => assumption); (case h1Q8 => assumption); (case hFQ8 => assumption); k_whole; intro t'Q9 n'Q9 ti'Q9 te'Q9 ps'Q9 qs'Q9 h'Q9 g'Q9 d'Q9 tk'Q9 hfr'Q9 TT'Q9 O'Q9 F'Q9 N'Q9 G'Q9; (try k_sweep); (try dsimp only)) | (refine' fmt_cut _ _ _ _ _ _ _ _ _ _ _ _ _ _ _ _ _ _ _ _ _ _ _ _ ?hOQ8 ?hTQ8 ?hpQ8 ?hqQ8 ?lbQ8 ?h0Q8 ?h1Q8 ?hFQ8 ?hzQ8 _ _ _ _ _ _ _ _ _ _ _ _ _ _ _ _ _ ?k1Q8 ?k2Q8 ?k3Q8 ?k4Q8 ?k5Q8 ?kKQ8 ?kGQ8 ?kdQ8 ?kuQ8 ?_; (case k1Q8 => k_asm); (case k2Q8 => k_asm); (case k3Q8 => k_asm); (case k4Q8 => first | k_asm | exact news_drop1 (by k_asm) | exact news_drop2 (by k_asm) | exact news_drop1 (news_drop2 (by k_asm))); (case k5Q8 => k_asm); (case kKQ8 => first | exact rfl | assumption); (case kGQ8 => k_asm); (case kdQ8 => ktr_room); (case kuQ8 => first | ktr_units | (rw [tc_units]; dsimp only [ktrTop]; (first | (law_clear; lia) | omega))); (case hOQ8 => assumption); (case hTQ8 => assumption); (case hpQ8 => assumption); (case hqQ8 => assumption); (case lbQ8 => assumption); (case h0Q8 => assumption); (case h1Q8 => assumption); (case hFQ8 => assumption); (case hzQ8 => assumption); k_whole; intro rest'Q9 t'Q9 tt'Q9 n'Q9 c'Q9 ti'Q9 te'Q9 ps'Q9 qs'Q9 h'Q9 g'Q9 d'Q9 tk'Q9 hfr'Q9 TT'Q9 O'Q9 sub'Q9 F'Q9 N'Q9 G'Q9; (try k_sweep); (try dsimp only))))
  k_with "m:pyIter ref" => (k_here; k_dflt (refine' wpAny_pyIter_zip ?k1Q8 ?_; (case k1Q8 => exact News.get (by k_asm) (by k_mem)); k_whole))
  trivial
theorem fmt_split (w : World) (mean : ExcName → Option Value) (mg mb : Str → Option Value) (f fd ll x dx : Addr) (mx : Int) (T : FT) (k : Nat → Int) (ti te tf tt tu : Tok) (ps qs : Array Value) (rest : List (Addr × Obj)) (y : Str) (N : Nat) (n c : Nat) (chs : Nat → Chunk) (lsF : Nat → List Str) (cur : Nat → List Chunk)
    (O : FOk f fd ll x dx [] rest) (TT : Tabs ps qs) (hT : Typed y N) (hN : N ≤ 100) (hC : ChunksOf y N chs) (hP : Plan mx N chs lsF cur k) (h0 : cur 0 = []) (h1 : lsF 0 = []) :
    ConG 60 360 w mean mg mb 120 (AL w x dx [] n (k 0) ti te ps qs (FR w f fd ll x mx T [] c rest)) [.ref f, .str (Str.ofString "") tf, .str y tt, .str (Str.ofString " ") tu]
      (fun h₀ L m s Q => ∀ (parts : List Part) (ls : List (Str × Tok)) (c n : Nat) (ti te : Tok) (ps qs : Array Value) (rest' : List (Addr × Obj)) (h' : Heap) (g' : Array GenState) (d' : Drawn) (tk' : Nat), Tabs ps qs → FOk f fd ll x dx parts rest' → (∀ q ∈ rest, q ∈ rest') →
        textsOf parts = cur N → ls.map (·.1) = lsF N → Fr h₀ L h' m → News h₀ L h' (AL w x dx parts n (k N) ti te ps qs (FR w f fd ll x mx T ls c rest')) → AllBare g' → Q .none ⟨h', g', d', tk', s.os⟩) := by
  dsimp only [ConG, pr, lsV]; k_fill
  intros; rename_i hret
  walk_at "con_enter"
  k_steps
  · trivial
  (with_reducible rename SpOrd _ _ _ => hSp)
  (with_reducible rename ItOrd _ _ => hIo)
  (with_reducible rename TiOrd _ _ _ _ => hZo)
  (with_reducible rename News _ _ _ ((_, zipO _ _) :: _) => NN)
  (with_reducible rename Fr _ _ _ _ => FF)
  (with_reducible rename List.map _ _ = signs _ _ => hps)
  (with_reducible rename AllBare _ => GG)
  refine zip_loop (h₀ := _) (L := _) (k := k) (chs := chs) (lsF := lsF) (cur := cur) (rest₀ := rest) (os := _) (vals_of hT hC hps) rfl (LS.start FF (by rfl) NN O TT hSp hIo hZo GG rfl h0 h1) ?turn ?last
  case turn =>
    clear FF NN hSp hIo hZo hps GG O TT h0 h1
    intro i s' m' parts ls c' n' ti' te' ps' qs' a b io rest' hi S Tt ta tb h' io' F2 N2 hic hid O2
    have F3 := Fr.named F2 S.self
    clear F2
    have TT2 := S.TT
    have G2 := S.G
    have hsh := hP.short i (Nat.le_of_lt hi)
    have hch := hP.ch i hi
    have hlen : parts.length ≤ 98 := by rw [S.len]; exact hsh.1
    have hk0 := hsh.2.2.1
    have hk1 := hsh.2.2.2
    have hz : ls.length ≤ 900 := by rw [S.lenl]; exact hsh.2.1
    rcases hP.step i hi with hf | hf
    · have hF : FitOk parts (k i) mx (chs i).1 ta (chs i).2 tb := ⟨fun t => by rw [lenOf_eq, texts_snoc, S.tx]; exact hf.1⟩
      have la := hch.1
      have lb := hch.2
      k_steps
      (with_reducible rename Fr _ _ _ _ => F4)
      (with_reducible rename News _ _ _ _ => N4)
      (with_reducible rename Tabs _ _ => T4)
      (with_reducible rename AllBare _ => G4)
      (with_reducible rename FOk _ _ _ _ _ (_ ++ [_]) _ => O4)
      (with_reducible rename ∀ q ∈ ZR _ _ _ _ _ _ _ _, q.1 < _ => hfr)
      rw [← hf.2.2.2] at N4
      refine ⟨_, _, _, _, _, _, _, _, _, _, _, _, _, S.step hic hid F4 (by rfl) N4 O4 T4 (fun q hq => List.Mem.tail _ hq) ?_ G4 S.os ?_ ?_⟩
      · intro p hp
        rcases List.mem_append.mp hp with hp | hp
        · exact .inl hp
        · rw [List.mem_singleton] at hp; subst hp; exact .inr hfr
      · rw [texts_snoc, S.tx]; exact hf.2.2.1.symm
      · exact S.lx.trans hf.2.1.symm
    · obtain ⟨hf1, hf2, hf3, hf4, hf5, hf6⟩ := hf
      have hF : CutOk parts (k i) mx (Str.ofString " ") ta (chs i).2 tb := ⟨fun t => by rw [lenOf_eq, texts_snoc, S.tx, ← hf2]; exact hf1⟩
      have hq1 : 1 ≤ parts.length := by
        rw [S.len]
        cases h : cur i with
        | nil => exact absurd h hf3
        | cons _ _ => simp
      have lb := hch.2
      rw [hf2] at N2 O2
      k_steps
      --T
      (with_reducible rename Fr _ _ _ _ => F4)
      (with_reducible rename News _ _ _ _ => N4)
      (with_reducible rename Tabs _ _ => T4)
      (with_reducible rename AllBare _ => G4)
      (with_reducible rename FOk _ _ _ _ _ [_] _ => O4)
      (with_reducible rename ∀ q ∈ ZR _ _ _ _ _ _ _ _, q.1 < _ => hfr)
      (with_reducible rename ∀ q ∈ ZR _ _ _ _ _ _ _ _, q ∈ _ => hsub)
      rw [← hf6] at N4
      refine ⟨_, _, _, _, _, _, _, _, _, _, _, _, _, S.step hic hid F4 (by rfl) N4 O4 T4 hsub ?_ G4 S.os ?_ ?_⟩
      · intro p hp
        rw [List.mem_singleton] at hp; subst hp; exact .inr hfr
      · rw [hf5]; show [(Str.ofString " ", (chs i).2)] = [chs i]; rw [← hf2]
      · rw [List.map_append, S.lx, hf4, textOf_eq, S.tx]; rfl
  case last =>
    clear FF NN hSp hIo hZo hps GG O TT h0 h1
    intro s' m' parts ls c' n' ti' te' ps' qs' a b io rest' S h' F2 N2
    have TT2 := S.TT
    have G2 := S.G
    have O2 := S.O.drop3 S.pin
    k_steps
    rw [S.os]
    exact hret _ _ _ _ _ _ _ _ _ _ _ _ _ TT2 O2 S.sub S.tx S.lx (by assumption) (by assumption) G2
end Mine
end
section
open PySem PySem.W PyProof.Rows PySem.Calls PySem.Spec PySem.Builtin PySem.Builtin.Str
set_option Elab.async false
set_option maxRecDepth 100000
set_option maxHeartbeats 400000
namespace Mine
theorem none_LwD : True := by w_top off; k_with_none; trivial
theorem texts_last : ∀ {parts : List Part} {l : List Chunk} {a b : Str}, textsOf parts = l ++ [(a, b)] → ∃ parts0 tp ta tb, parts = parts0 ++ [(tp, (a, ta), (b, tb))] ∧ textsOf parts0 = l := by
  intro parts l a b h
  rcases List.eq_nil_or_concat parts with rfl | ⟨p0, p, rfl⟩
  · have := congrArg List.length h
    simp [textsOf] at this
  · rw [List.concat_eq_append] at h ⊢
    obtain ⟨tp, ⟨a', ta⟩, ⟨b', tb⟩⟩ := p
    rw [texts_snoc] at h
    obtain ⟨h1, h2⟩ := List.append_inj' h rfl
    simp only [List.cons.injEq, Prod.mk.injEq, and_true] at h2
    obtain ⟨rfl, rfl⟩ := h2
    exact ⟨p0, tp, ta, tb, rfl, h1⟩
theorem textL_nonspace {l : List Nat} {x : Str} (e : x.cps.toList = l) (h : l.all Unicode.isSpace = false) : Txt.isspace x = false := by
  unfold Txt.isspace
  rw [← Array.all_toList, e, h, Bool.and_false]
/-- the formatter's cut of the typed text into three rows -/
theorem split_rows (w : World) (mean : ExcName → Option Value) (mg mb : Str → Option Value) (f fd ll x dx : Addr) (T : FT) (ti te tf tt tu : Tok) (ps qs : Array Value) (rest : List (Addr × Obj)) (n c : Nat) (cs : List Nat) (size head : Nat) (room : Int) (J : Nat → Nat)
    (O : FOk f fd ll x dx [] rest) (TT : Tabs ps qs) (hN : cs.length = head + 2 * size) (hJ : ∀ i, i < head + 2 * size → TypedSign (cs.getD i 0) (J i))
    (hs0 : 1 ≤ size) (hs1 : size ≤ 13) (hh0 : 1 ≤ head) (hh1 : head ≤ 14) (r0 : 0 ≤ room) (r1 : room + 2 * head ≤ 2 * size + 1) (r2 : 2 * size ≤ room + 2 * head) :
    ConG 60 360 w mean mg mb 120 (AL w x dx [] n room ti te ps qs (FR w f fd ll x (2 * (size : Int)) T [] c rest)) [.ref f, .str (Str.ofString "") tf, .str (Txt.join (Str.ofString " ") (cs.map one)) tt, .str (Str.ofString " ") tu]
      (fun h₀ L m s Q => ∀ (parts : List Part) (tp : Addr) (ta tb : Tok) (b : Str) (ls : List (Str × Tok)) (c n : Nat) (ti te : Tok) (ps qs : Array Value) (rest' : List (Addr × Obj)) (h' : Heap) (g' : Array GenState) (d' : Drawn) (tk' : Nat), Tabs ps qs → FOk f fd ll x dx (parts ++ [bp tp ta b tb]) rest' → (∀ q ∈ rest, q ∈ rest') →
        NlOk parts ta b tb (textL (seg cs (head + size) (head + size + size))) → ls.map (·.1) = [textL (seg cs 0 head), textL (seg cs head (head + size))] → Fr h₀ L h' m → News h₀ L h' (AL w x dx (parts ++ [bp tp ta b tb]) n 0 ti te ps qs (FR w f fd ll x (2 * (size : Int)) T ls c rest')) → AllBare g' → Q .none ⟨h', g', d', tk', s.os⟩) := by
  have hT : Typed (typedText cs) (head + 2 * size) := typed_is hN (by lia) (fun c hc => by
    obtain ⟨i, hi, rfl⟩ := List.getElem_of_mem hc
    have := hJ i (by lia)
    rw [List.getD_eq_getElem?_getD, List.getElem?_eq_getElem hi, Option.getD_some] at this
    exact this.facts.1)
  have hC : ChunksOf (typedText cs) (head + 2 * size) (chsOf cs) := hN ▸ chunks_typed cs (by lia)
  have hP := plan_typed cs head size room hh0 hs0 (by lia) (by lia) r0 r1 r2
  have hk0 : kOf head room 0 = room := by unfold kOf; rw [if_pos (by lia)]
  have hkN : kOf head room (head + 2 * size) = 0 := by unfold kOf; rw [if_neg (by lia)]
  have hlN : lsOf cs head size (head + 2 * size) = [textL (seg cs 0 head), textL (seg cs head (head + size))] := by unfold lsOf; rw [if_neg (by lia), if_neg (by lia)]
  have hcN : curOf cs head size (head + 2 * size) = seg cs (head + size) (head + size + size) := by
    unfold curOf rowAt; rw [if_neg (by lia), if_neg (by lia)]; congr 1; lia
  have base := fmt_split w mean mg mb f fd ll x dx (2 * (size : Int)) T (kOf head room) ti te tf tt tu ps qs rest (typedText cs) (head + 2 * size) n c (chsOf cs) (lsOf cs head size) (curOf cs head size) O TT hT (by lia) hC hP (by unfold curOf rowAt; rw [if_pos (by lia)]; exact seg_self) (by unfold lsOf; rw [if_pos (by lia)])
  rw [hk0, hkN, hlN, hcN] at base
  intro dp un gd cn cs' a ccd cl outer A₀ bs h₀ L m s Q E B F X N Tp hk hG hd hu hret
  refine base dp un gd cn cs' a ccd cl outer A₀ bs h₀ L m s Q E B F X N Tp hk hG hd hu ?_
  intro parts ls c n ti te ps qs rest' h' g' d' tk' TT' O' hsub htx hls F' N' G'
  have hseg : seg cs (head + size) (head + size + size) = seg cs (head + size) (head + size + (size - 1)) ++ [(Str.ofString " ", one (cs.getD (head + size + (size - 1)) 0))] := by
    have := seg_snoc (cs := cs) (a := head + size) (b := head + size + (size - 1)) (by lia)
    rw [show head + size + (size - 1) + 1 = head + size + size by lia] at this
    rw [this]
    unfold chsOf
    rw [if_neg (by lia)]
  rw [hseg] at htx
  obtain ⟨parts0, tp, ta, tb, rfl, ht0⟩ := texts_last htx
  have htl : ∀ t : Addr, textsOf (parts0 ++ [bp t ta (one (cs.getD (head + size + (size - 1)) 0)) tb]) = seg cs (head + size) (head + size + size) := by
    intro t
    rw [texts_snoc, ht0, ← hseg]
  have hrow := row_seg (cs := cs) (J := J) (fun i hi => hJ i (by lia)) (head + size) size (by lia)
  refine hret parts0 tp ta tb (one (cs.getD (head + size + (size - 1)) 0)) ls c n ti te ps qs rest' h' g' d' tk' TT' O' hsub ⟨fun t => ?_, fun t => ?_, ?_, rfl, ?_⟩ hls F' N' G'
  · rw [lenOf_eq, htl, lenL_seg cs (head + size) (by lia) size]; lia
  · rw [textOf_eq, htl]
  · refine textL_nonspace rfl (hrow.nospace ?_)
    intro e
    have := congrArg List.length e
    simp at this; lia
  · exact (hJ _ (by lia)).facts.2.2.2.1
theorem nlS : Str.ofString "\n" = ⟨#[10]⟩ := by decide +kernel
theorem text_le (cs : List Nat) (a : Nat) : ∀ n, (textL (seg cs a (a + n))).length ≤ 2 * n
  | 0 => by rw [Nat.add_zero, seg_self]; exact Nat.le_refl 0
  | n + 1 => by
    have ih := text_le cs a n
    have h := congrArg List.length (text_snoc (seg cs a (a + n)) (chsOf cs (a + n)))
    rw [← seg_snoc (by lia)] at h
    have h2 := chs_len cs (a + n)
    have h3 : (chsOf cs (a + n)).1.length + (chsOf cs (a + n)).2.length ≤ 2 := by rw [h2]; split <;> lia
    simp only [List.length_append, Array.length_toList] at h
    have e1 : (textL (seg cs a (a + n + 1))).length = (textL (seg cs a (a + n + 1))).cps.size := rfl
    have e2 : (textL (seg cs a (a + n))).length = (textL (seg cs a (a + n))).cps.size := rfl
    have e3 : (chsOf cs (a + n)).1.length = (chsOf cs (a + n)).1.cps.size := rfl
    have e4 : (chsOf cs (a + n)).2.length = (chsOf cs (a + n)).2.cps.size := rfl
    rw [← Nat.add_assoc]
    lia
noncomputable abbrev rows3 (cs : List Nat) (head size : Nat) : List Str := [textL (seg cs 0 head), textL (seg cs head (head + size)), textL (seg cs (head + size) (head + size + size))]
section
variable {cs : List Nat} {size head : Nat}
theorem rows3_sum (hs1 : size ≤ 13) (hh1 : head ≤ 14) : ((rows3 cs head size).map (·.length)).sum ≤ 80 := by
  have h0 := text_le cs 0 head
  have h1 := text_le cs head size
  have h2 := text_le cs (head + size) size
  rw [Nat.zero_add] at h0
  simp only [rows3, List.map_cons, List.map_nil, List.sum_cons, List.sum_nil]
  lia
theorem rows3_ok (hs1 : size ≤ 13) (hh1 : head ≤ 14) : JoinOk (Str.ofString "\n") (rows3 cs head size) = true := by
  have h := rows3_sum (cs := cs) hs1 hh1
  refine joinOk_of ?_
  rw [nlS]
  show _ + 3 * 1 ≤ _
  lia
theorem rows3_len (hs1 : size ≤ 13) (hh1 : head ≤ 14) : (Txt.join (Str.ofString "\n") (rows3 cs head size)).length + 2 ≤ sizeLine := by
  have h := rows3_sum (cs := cs) hs1 hh1
  have h2 := StrLaws.join_length_le (Str.ofString "\n") (rows3 cs head size)
  have e : (Txt.join (Str.ofString "\n") (rows3 cs head size)).length = (Str.join (Str.ofString "\n") (rows3 cs head size)).length := by
    show (glued _ _).length = _
    rw [StrLaws.glued_eq_join]
  rw [e]
  rw [nlS] at h2 ⊢
  have h3 : (rows3 cs head size).length * (⟨#[10]⟩ : Str).length = 3 := rfl
  rw [h3] at h2
  exact Nat.le_trans (show _ ≤ 90 by lia) (by decide)
theorem rows3_free {J : Nat → Nat} (hN : cs.length = head + 2 * size) (hJ : ∀ i, i < head + 2 * size → TypedSign (cs.getD i 0) (J i)) : ∀ a ∈ rows3 cs head size, 10 ∉ a.cps.toList := by
  have r0 := row_seg (cs := cs) (J := J) (fun i hi => hJ i (by lia)) 0 head (by lia)
  have r1 := row_seg (cs := cs) (J := J) (fun i hi => hJ i (by lia)) head size (by lia)
  have r2 := row_seg (cs := cs) (J := J) (fun i hi => hJ i (by lia)) (head + size) size (by lia)
  rw [Nat.zero_add] at r0
  intro a ha
  simp only [rows3, List.mem_cons, List.not_mem_nil, or_false] at ha
  rcases ha with rfl | rfl | rfl
  · exact r0.free
  · exact r1.free
  · exact r2.free
end
theorem str_rows (w : World) (mean : ExcName → Option Value) (mg mb : Str → Option Value) (f fd ll x dx : Addr) (mx : Int) (T : FT) (ls : List (Str × Tok)) (c : Nat) (parts : List Part) (tp : Addr) (b : Str) (ta tb ts : Tok) (n : Nat) (ti te : Tok) (ps qs : Array Value) (rest : List (Addr × Obj)) (T0 T1 T2 : Str)
    (O : FOk f fd ll x dx (parts ++ [bp tp ta b tb]) rest) (TT : Tabs ps qs) (hN : NlOk parts ta b tb T2) (hls : ls.map (·.1) = [T0, T1]) (hJ : JoinOk (Str.ofString "\n") [T0, T1, T2] = true) :
    ConG 32 180 w mean mg mb 78 (AL w x dx (parts ++ [bp tp ta b tb]) n 0 ti te ps qs (FR w f fd ll x mx T ls c rest)) [.ref f, .str (Str.ofString "\n") ts]
      (fun h₀ L m s Q => ∀ (t' : Tok) (ps qs : Array Value) (h' : Heap) (g' : Array GenState) (d' : Drawn) (tk' : Nat), Tabs ps qs → Fr h₀ L h' m → News h₀ L h' ((176, tabObj ps) :: (183, tabObj qs) :: rest) → AllBare g' → Q (.str (Txt.join (Str.ofString "\n") [T0, T1, T2]) t') ⟨h', g', d', tk', s.os⟩) := by
  have hl : ls.length ≤ 900 := by
    have := congrArg List.length hls
    simp at this; lia
  have base := fmt_str w mean mg mb f fd ll x dx mx T ls c parts tp b T2 (Str.ofString "\n") ta tb ts n ti te ps qs rest O TT hN hl (fun tt => by rw [List.map_append, hls]; exact hJ)
  rw [hls] at base
  exact base
theorem nl_split {w : World} {A : Around} {E : Value → Shared → Prop} {s : Shared} {h₀ : Heap} {L : Addr} {m : Str → Option Value} {news : List (Addr × Obj)} {T0 T1 T2 : Str} {t u : Tok} {Q : Value → Shared → Prop} (F : Fr h₀ L s.heap m) (N : News h₀ L s.heap news)
    (hf : ∀ a ∈ [T0, T1, T2], 10 ∉ a.cps.toList) (hz : (Txt.join (Str.ofString "\n") [T0, T1, T2]).length + 2 ≤ sizeLine)
    (h : ∀ D t0 t1 t2 h' k, (∀ p ∈ news, p.1 < D) → Fr h₀ L h' m → News h₀ L h' ((D, W.listOf #[.str T0 t0, .str T1 t1, .str T2 t2] 0) :: news) → Q (.ref D) { s with heap := h', toks := k }) :
    wpAny (model pr w) A (call (.builtin "str.split") [.str (Txt.join (Str.ofString "\n") [T0, T1, T2]) t, .str (Str.ofString "\n") u]) Q E s := by
  refine KSpl.split1 F N (by rw [nlS]; rfl) (fun D l h' k e _ F' N' hlt => ?_) hz
  rw [nlS, split_is (by simp) hf] at e
  match l, e with
  | [(a0, t0), (a1, t1), (a2, t2)], e =>
    simp only [List.map_cons, List.map_nil, List.cons.injEq, and_true] at e
    obtain ⟨rfl, rfl, rfl⟩ := e
    exact h D t0 t1 t2 h' k hlt F' N'
end Mine
end
section
open PySem PySem.W PyProof.Rows PySem.Calls PySem.Spec
set_option Elab.async false
set_option maxRecDepth 100000
set_option maxHeartbeats 400000
namespace Mine
section
variable {prog : Program} {w : World} {A : Around} {E : Value → Shared → Prop} {s : Shared} {h₀ : Heap} {L : Addr} {m : Str → Option Value} {env : Env}
/-- the source of a comprehension with a test is a text -/
noncomputable def SrcS (prog : Program) (w : World) (A : Around) (h₀ : Heap) (L : Addr) (m : Str → Option Value) (env : Env) (ct elt : PySem.Expr) (x : Str) (scope : Scope) (cl : List (Str × Addr)) (Fin : Shared → List Value → List (Addr × Obj) → Prop) (xv : Value) (s₁ : Shared) : Prop :=
  ∃ y t news, xv = .str y t ∧ A.handled = none ∧ Fr h₀ L s₁.heap m ∧ News h₀ L s₁.heap news ∧ y.cps.size ≤ sizeLine ∧
    ∀ s₂ : Shared, (∃ h, s₂ = { s₁ with heap := h }) → LCt.CompRestT prog w A h₀ L m env ct elt x scope cl s₂ (fun _ => True) (SignAt y) (Fin s₂) y.cps.size 0 [] news
theorem str_walks {I : Addr} {y : Str} {t : Tok} (hh : A.handled = none) : Walks prog w A I [I] [I] y.cps.size (SignAt y) (fun i h => h.IsStrIter I (strIterType y) y t i) := by
  cases ha : y.cps.all (· < 128)
  · have e : strIterType y = "str_iterator" := by simp [strIterType, ha]
    rw [e]; exact Walks.strWide hh I y t
  · have e : strIterType y = "str_ascii_iterator" := by simp [strIterType, ha]
    rw [e]; exact Walks.strAscii hh I y t
theorem ListComp_TS {ct elt iter : PySem.Expr} {x : Str} {px : Pos} {scope : Scope} {cl : List (Str × Addr)} {pos : Pos} {Q : Value → Shared → Prop} (_F₀ : Fr h₀ L s.heap m)
    (hclos : closureFor scope env = pure cl) (hcell : ∀ y ∈ scope.names, y.2 ≠ .cell) (hkind : scope.kind = .function)
    (hnames : ∀ y ∈ scope.names, y.2 = .local → scope.names.lookup y.1 = some .local) (hx : scope.names.lookup x = some .local)
    (h : wpAny (model prog w) A (eval iter env) (SrcS prog w A h₀ L m env ct elt x scope cl (fun s₂ => LCg.FinE h₀ L m s₂ Q)) E s)
    (hs : ∀ x, foldedSetIterable iter env x = pure x := by intro _; rfl) :
    wpAny (model prog w) A (eval (.ListComp elt [⟨.Name x px, iter, [ct], 0⟩] scope pos) env) Q E s := by
  rw [eval_ListComp]
  refine wpAny_comprehension_free (use := none) rfl hs hclos hkind hnames (wpAny_mono h (fun xv s₁ h₁ => ?_) fun _ _ e => e)
  obtain ⟨y, t, news, rfl, hh, F, N, hsz, R⟩ := h₁
  refine wpAny_pyIter_strU ?_
  refine LCt.block_T (str_walks (t := t) hh) hsz (fun i h st => by obtain ⟨o, e, _⟩ := st; exact ⟨o, e⟩) (fun i h h' o nw st e e' _ _ _ => by obtain ⟨o', q, r⟩ := st; rw [e] at q; cases q; exact ⟨o, e', r⟩) hcell hkind hx
    ⟨_, Heap.get?_push_size _ rfl, rfl, rfl⟩ (fun b hb => ?_)
    (F.keeps fun _ _ e => Heap.get?_push_of_some _ e) (N.grown fun _ _ e => Heap.get?_push_of_some _ e) (Nat.ne_of_lt F.ns.lt) (next_is_new F) (fun p hp => Nat.ne_of_lt (Heap.lt_size (N p hp).1)) trivial (R _ ⟨_, rfl⟩) ?_
  · rw [List.mem_singleton.mp hb]
    show s₁.heap.objs.size < (s₁.heap.push _).objs.size
    rw [Heap.size_push]; exact Nat.lt_succ_self _
  · intro D C h tk m' ys news' F' N' o1 hn hC₀ hD₀ hCL hDL hCD offC fin
    refine ⟨m', hn, fun h'' hs'' => fin D h'' tk (F'.change hs'' hCL hC₀) (fun p hp => ?_) o1⟩
    refine ⟨hs''.extBut _ _ ?_ (N' p hp).1, (N' p hp).2⟩
    rcases List.mem_cons.mp hp with rfl | hp
    · exact Ne.symm hCD
    · exact offC p hp
end
section
variable {prog : Program} {w : World} {A : Around} {s : Shared} {h₀ : Heap} {L : Addr} {m : Str → Option Value} {env : Env} {ct elt : PySem.Expr} {x : Str} {scope : Scope} {cl : List (Str × Addr)} {S : List (Addr × Obj) → Prop} {Fin : List Value → List (Addr × Obj) → Prop} {news : List (Addr × Obj)}
noncomputable abbrev Turn (prog : Program) (w : World) (A : Around) (s : Shared) (h₀ : Heap) (L : Addr) (m : Str → Option Value) (env : Env) (ct elt : PySem.Expr) (x : Str) (scope : Scope) (cl : List (Str × Addr)) (S : List (Addr × Obj) → Prop) (news : List (Addr × Obj)) (c : Nat) (yes : Value → Prop) (no : Prop) : Prop :=
  ∀ u I oI C oC D m₂ ys h tk (E' : Value → Shared → Prop), LCg.NsObj oC m₂ → m₂ x = some (.str ⟨#[c]⟩ u) → Fr h₀ L h m → News h₀ L h ((I, oI) :: (C, oC) :: (D, LCg.lst ys) :: news) → LCg.Off3 I C D news → ((@Ne Nat I C) ∧ (@Ne Nat I D) ∧ (@Ne Nat C D)) →
      wpAny (model prog w) A (isTrue ct (compEnvC scope cl C env) (eval ct (compEnvC scope cl C env))) (fun ok s' => if ok = true then
        wpAny (model prog w) A (eval elt (compEnvC scope cl C env)) (LCg.CompEnd h₀ L m { s with heap := h, toks := tk } I oI C oC D (LCg.lst ys) S (fun y news' => news' = news ∧ yes y)) E' s'
        else LCg.CompEnd h₀ L m { s with heap := h, toks := tk } I oI C oC D (LCg.lst ys) S (fun _ news' => news' = news ∧ no) Value.none s') E' { s with heap := h, toks := tk }
theorem row_rest {y : Str} {zs : List Nat} (hr : RowOf y.cps.toList zs)
    (blank : Turn prog w A s h₀ L m env ct elt x scope cl S news 32 (fun _ => False) True)
    (sign : ∀ c j, TypedSign c j → Turn prog w A s h₀ L m env ct elt x scope cl S news c (fun y => ∃ t, y = .str ⟨#[97 + j]⟩ t) False)
    (fin : ∀ ps : List (Str × Tok), ps.map (·.1) = zs.map one → Fin (strValues ps) news) : LCt.CompRestT prog w A h₀ L m env ct elt x scope cl s S (SignAt y) Fin y.cps.size 0 [] news := by
  have key : ∀ (xs zs : List Nat), RowOf xs zs → ∀ (i : Nat) (ps : List (Str × Tok)), i + xs.length = y.cps.size → (∀ k, k < xs.length → y.cps[i + k]? = xs[k]?) → (∀ ps' : List (Str × Tok), ps'.map (·.1) = zs.map one → Fin (strValues (ps ++ ps')) news) →
      LCt.CompRestT prog w A h₀ L m env ct elt x scope cl s S (SignAt y) Fin xs.length i (strValues ps) news := by
    intro xs zs hr
    induction hr with
    | nil =>
      intro i ps hi hx hf
      refine LCt.CompRestT.zero ?_
      have := hf [] rfl
      rw [List.append_nil] at this; exact this
    | @blank xs zs _ ih =>
      intro i ps hi hx hf
      refine LCt.CompRestT.succ ?_
      intro v I oI C oC D m₂ h tk E' hv hC hm F N off ne
      obtain ⟨c, u, hc, rfl⟩ := hv
      have h0 := hx 0 (by simp)
      rw [Nat.add_zero, hc] at h0
      obtain rfl : c = 32 := by simpa using h0
      refine wpAny_mono (blank u I oI C oC D m₂ _ h tk E' hC hm F N off ne) (fun ok s₂ hq => ?_) fun _ _ e => e
      cases ok with
      | true =>
        simp only [if_true] at hq ⊢
        exact wpAny_mono hq (fun y s₃ hz => by obtain ⟨_, _, _, _, _, _, _, _, _, q⟩ := hz; exact q.elim) fun _ _ e => e
      | false =>
        simp only [Bool.false_eq_true, if_false] at hq ⊢
        obtain ⟨h', tk', nw, e, F', N', off', hS, hn, _⟩ := hq
        subst hn
        exact ⟨h', tk', _, e, F', N', off', hS, ih (i + 1) ps (by simp at hi; lia) (fun k hk => by have := hx (k + 1) (by simpa using hk); rw [Nat.add_assoc, Nat.add_comm 1 k]; simpa using this) hf⟩
    | @sign c j xs zs ht _ ih =>
      intro i ps hi hx hf
      refine LCt.CompRestT.succ ?_
      intro v I oI C oC D m₂ h tk E' hv hC hm F N off ne
      obtain ⟨c', u, hc, rfl⟩ := hv
      have h0 := hx 0 (by simp)
      rw [Nat.add_zero, hc] at h0
      obtain rfl : c' = c := by simpa using h0
      refine wpAny_mono (sign c' j ht u I oI C oC D m₂ _ h tk E' hC hm F N off ne) (fun ok s₂ hq => ?_) fun _ _ e => e
      cases ok with
      | true =>
        simp only [if_true] at hq ⊢
        refine wpAny_mono hq (fun y s₃ hz => ?_) fun _ _ e => e
        obtain ⟨h', tk', nw, e, F', N', off', hS, hn, t, rfl⟩ := hz
        subst hn
        have e2 : strValues ps ++ [Value.str ⟨#[97 + j]⟩ t] = strValues (ps ++ [(⟨#[97 + j]⟩, t)]) := by simp [strValues]
        refine ⟨h', tk', _, e, F', N', off', hS, ?_⟩
        show LCt.CompRestT prog w A h₀ L m env ct elt x scope cl s S (SignAt y) Fin xs.length (i + 1) (strValues ps ++ [Value.str ⟨#[97 + j]⟩ t]) _
        rw [e2]
        refine ih (i + 1) (ps ++ [(⟨#[97 + j]⟩, t)]) (by simp at hi; lia) (fun k hk => by have := hx (k + 1) (by simpa using hk); rw [Nat.add_assoc, Nat.add_comm 1 k]; simpa using this) fun ps' hp => ?_
        have := hf ((⟨#[97 + j]⟩, t) :: ps') (by simp [hp])
        rw [List.append_assoc]; exact this
      | false =>
        simp only [Bool.false_eq_true, if_false] at hq ⊢
        obtain ⟨_, _, _, _, _, _, _, _, _, q⟩ := hq
        exact q.elim
  have := key _ _ hr 0 [] (by simp) (fun k hk => by simp) (fun ps' hp => by rw [List.nil_append]; exact fin ps' hp)
  rw [Array.length_toList] at this
  exact this
end
theorem join_row {zs : List Nat} : Txt.join (Str.ofString "") (zs.map one) = strL zs := by
  apply str_ext
  rw [emptyS]
  show (Txt.join Str.empty (zs.map one)).cps.toList = zs
  rw [join_flat, List.map_map]
  induction zs with
  | nil => rfl
  | cons a r ih => rw [List.map_cons, List.flatten_cons, ih]; rfl
theorem J_is {n1 : Int} {i ring : Nat} (h1 : 0 ≤ n1) (h0 : 0 < ring) : (Int.fmod (n1 + Int.fmod (i : Int) ring) 26).toNat = (n1.toNat + i % ring) % 26 := by
  have e1 : Int.fmod (i : Int) ring = ((i % ring : Nat) : Int) := by
    rw [Int.fmod_eq_emod_of_nonneg _ (by lia)]; exact (Int.natCast_emod i ring).symm
  rw [e1, Int.fmod_eq_emod_of_nonneg _ (by decide)]
  have e2 : n1 + ((i % ring : Nat) : Int) = ((n1.toNat + i % ring : Nat) : Int) := by lia
  rw [e2]
  lia
theorem seg_row {cs : List Nat} {start ring N : Nat} (hN : cs.length = N) (hT : ∀ i, i < N → TypedSign (cs.getD i 0) ((start + i % ring) % 26)) (a n : Nat) (h : a + n ≤ N) : RowOf (textL (seg cs a (a + n))).cps.toList (letts start ring a n) :=
  row_seg (cs := cs) (J := fun i => (start + i % ring) % 26) (fun i hi => hT i (by lia)) a n (by lia)
/-- three rows in a list's items -/
noncomputable def ThreeRows (its : Array Value) (Z : Nat → List Nat) : Prop := ∀ i v, its[i]? = some v → ∃ X t, v = .str X t ∧ RowOf X.cps.toList (Z i) ∧ X.cps.size ≤ 64 ∧ (Z i).length ≤ 64
end Mine
end
section
open PySem PySem.W PyProof.Rows PySem.Calls PySem.Spec
set_option Elab.async false
set_option maxRecDepth 100000
set_option maxHeartbeats 0
namespace Mine
theorem lines_LwC_1 : True := by
  w_top off
  k_with_none
  k_with "m9:room" => ktr_room
  k_with "m9:mem" => first | exact List.Mem.head _ | (refine' List.Mem.tail _ ?_; k_mem) | assumption
  k_with "m:eval Name" => dsimp only
  k_with "m:spliced" => dsimp only
  k_with "m:execs cons" => dsimp only
  k_with "m:eval Constant int" => dsimp only
  k_with "m:eval BinOp" => dsimp only
  k_with "m:execs nil" => dsimp only
  k_with "m:eval Call" => dsimp only
  k_with "m:storeName" => dsimp only
  k_with "m:exec Assign" => dsimp only
  k_with "m:callWith" => dsimp only
  k_with "m:eval Subscript" => dsimp only
  k_with "m:eval Call Attribute" => dsimp only
  k_with "m:evalPart none" => dsimp only
  k_with "m:truthy bool" => dsimp only
  k_with "m:callWith ref" => dsimp only
  k_with "m:call ref" => dsimp only
  k_with "m:isTrue Compare" => dsimp only
  k_with "m:getMethod ref" => dsimp only
  k_with "m:exec If" => dsimp only
  k_with "m:exec Return some" => dsimp only
  k_with "m:getAttr ref" => dsimp only
  k_with "m:eval Attribute Name" => dsimp only
  k_with "m:binaryOp Add int int" => dsimp only
  k_with "m:isTrue BoolOp" => dsimp only
  k_with "m:binaryOp Mod int int" => dsimp only
  k_with "m:subscriptTail Name Constant ref int" => dsimp only
  k_with "m:evalPart some" => dsimp only
  k_with "m:eval Slice" => dsimp only
  k_with "m:exec Expr" => dsimp only
  k_with "m:isTrue" => dsimp only
  k_with "m:eval Constant str" => dsimp only
  k_with "m:assignInOrder" => dsimp only
  k_with "m:call builtin:len" => dsimp only
  k_with "m:newTuple" => dsimp only
  k_with "m:eval Tuple" => dsimp only
  k_with "m:eval BoolOp" => dsimp only
  k_with "m:subscriptTail Name Slice str ref" => dsimp only
  k_with "m:getMethod str" => dsimp only
  k_with "m:setAttr ref" => dsimp only
  k_with "m:newList" => dsimp only
  k_with "m:eval List" => dsimp only
  k_with "m:binaryOp Mult int int" => dsimp only
  k_with "m:con_enter" => (refine wpAny_call ?_; k_dflt (first | cell_enter | (refine' code_defC ?k1Q8 ?k2Q8 ?k3Q8 ?k4Q8 ?k5Q8 ?kAQ8 ?kFQ8 ?kKQ8 ?k6Q8 ?k7Q8 ?k8Q8 ?k9Q8 ?kBQ8 ?kDQ8 ?_ ?c2Q8 ?c3Q8 ?c4Q8; (case kAQ8 => exact rfl); (case kFQ8 => exact rfl); (case kKQ8 => assumption); (case k1Q8 => k_asm); (case k2Q8 => k_asm); (case k3Q8 => k_asm); (case k4Q8 => k_asm); (case k5Q8 => k_asm); (case k6Q8 => k_is); (case k7Q8 => k_is); (case k8Q8 => ktr_room); (case k9Q8 => first | exact BindsTo.of_eq rfl | exact binds_K (by k_in) rfl (by k_is) rfl rfl rfl | fail "k_enter: no rule for these arguments"); (case kBQ8 => exact rfl); (case kDQ8 => decide +kernel); (case c2Q8 => exact rfl); (case c3Q8 => exact rfl); (case c4Q8 => exact rfl); k_whole; intro g'Q9 L'Q9 h'Q9 tk'Q9 cells'Q9 FG'Q9 F'Q9 N'Q9 Y'Q9 B'Q9 X'Q9 T'Q9 l1Q9; (try k_lt l1Q9); k_cells Y'Q9; (try simp only [List.cons_append, List.nil_append] at N'Q9); (try dsimp only); (try k_lift B'Q9); (try k_fold))))
  k_with "m:con_enterS" => (refine wpAny_call ?_; k_dflt (refine' code_defS ?k1Q8 ?k2Q8 ?k3Q8 ?k4Q8 ?k5Q8 ?kAQ8 ?kFQ8 ?kKQ8 ?k6Q8 ?k7Q8 ?k8Q8 ?k9Q8 ?kBQ8 ?_ ?c2Q8 ?c3Q8 ?c4Q8 ?c5Q8; (case kAQ8 => exact rfl); (case kFQ8 => exact rfl); (case kKQ8 => first | assumption | exact rfl); (case k1Q8 => k_asm); (case k2Q8 => k_asm); (case k3Q8 => k_asm); (case k4Q8 => k_asm); (case k5Q8 => k_asm); (case k6Q8 => k_is); (case k7Q8 => k_is); (case k8Q8 => ktr_room); (case k9Q8 => first | exact BindsTo.of_eq rfl | exact binds_K (by k_in) rfl (by k_is) rfl rfl rfl); (case c5Q8 => decide); (case kBQ8 => exact locs rfl); (case c2Q8 => exact rfl); (case c3Q8 => exact rfl); (case c4Q8 => exact rfl); k_whole; intro g'Q9 L'Q9 h'Q9 FG'Q9 F'Q9 N'Q9 B'Q9 X'Q9 T'Q9 l1Q9; (try dsimp only); (try k_lift B'Q9); (try k_fold)))
  k_with "m:con_enterT" => (k_dflt (refine' code_defS ?k1Q8 ?k2Q8 ?k3Q8 ?k4Q8 ?k5Q8 ?kAQ8 ?kFQ8 ?kKQ8 ?k6Q8 ?k7Q8 ?k8Q8 ?k9Q8 ?kBQ8 ?_ ?c2Q8 ?c3Q8 ?c4Q8 ?c5Q8; (case kAQ8 => exact rfl); (case kFQ8 => exact rfl); (case kKQ8 => first | assumption | exact rfl); (case k1Q8 => k_asm); (case k2Q8 => k_asm); (case k3Q8 => k_asm); (case k4Q8 => k_asm); (case k5Q8 => k_asm); (case k6Q8 => k_is); (case k7Q8 => k_is); (case k8Q8 => ktr_room); (case k9Q8 => first | exact BindsTo.of_eq rfl | exact binds_K (by k_in) rfl (by k_is) rfl rfl rfl); (case c5Q8 => decide); (case kBQ8 => exact locs rfl); (case c2Q8 => exact rfl); (case c3Q8 => exact rfl); (case c4Q8 => exact rfl); k_whole; intro g'Q9 L'Q9 h'Q9 FG'Q9 F'Q9 N'Q9 B'Q9 X'Q9 T'Q9 l1Q9; (try dsimp only); (try k_lift B'Q9); (try k_fold)))
  trivial
theorem cell2_rot {h₀ h : Heap} {L : Addr} {a b c d : Addr × Obj} {l : List (Addr × Obj)} (N : News h₀ L h (a :: b :: c :: d :: l)) : News h₀ L h (c :: d :: a :: b :: l) := fun p hp => N p (mem_sw (A := [a, b]) (B := [c, d]) [] hp)
theorem cells_hr {L : Addr} {Q : Prop} {o o2 : Obj} {rest : List (Addr × Obj)} (h1 : 176 < L ∧ 183 < L ∧ Q) (hr : ∀ p ∈ rest, p.1 ≠ 176 ∧ p.1 ≠ 183) : ∀ p ∈ (L + 1 + 1, o) :: (L + 1, o2) :: rest, p.1 ≠ 176 ∧ p.1 ≠ 183 := by
  intro p hp
  have a1 : (176 : Nat) < L := h1.1
  have a2 : (183 : Nat) < L := h1.2.1
  rcases List.mem_cons.mp hp with rfl | hp
  · exact ⟨(ne_lt (show (176 : Nat) < L + 1 + 1 by lia)).symm, (ne_lt (show (183 : Nat) < L + 1 + 1 by lia)).symm⟩
  rcases List.mem_cons.mp hp with rfl | hp
  · exact ⟨(ne_lt (show (176 : Nat) < L + 1 by lia)).symm, (ne_lt (show (183 : Nat) < L + 1 by lia)).symm⟩
  exact hr p hp
theorem lines_LwC_2 : True := by
  k_with "m:call ref" => (k_here; k_dflt (first | ((with_reducible show wpAny _ _ (call (Value.ref 130) _) _ _ _); refine' fmt_make _ _ _ _ _ _ _ _ _ _ _ _ _ ?hrQ8 _ _ _ _ _ _ _ _ _ _ _ _ _ _ _ _ _ ?k1Q8 ?k2Q8 ?k3Q8 ?k4Q8 ?k5Q8 ?kKQ8 ?kGQ8 ?kdQ8 ?kuQ8 ?_; (case k1Q8 => k_asm); (case k2Q8 => k_asm); (case k3Q8 => k_asm); (case k4Q8 => first | exact cell2_rot (by k_asm) | k_asm | exact news_drop1 (by k_asm) | exact news_drop2 (by k_asm) | exact news_drop1 (news_drop2 (by k_asm))); (case k5Q8 => k_asm); (case kKQ8 => first | exact rfl | assumption); (case kGQ8 => k_asm); (case kdQ8 => ktr_room); (case kuQ8 => first | ktr_units | (rw [tc_units]; dsimp only [ktrTop]; (first | (law_clear; lia) | omega))); (case hrQ8 => first | assumption | exact cells_hr (by assumption) (by assumption)); k_whole; intro f'Q9 fd'Q9 ll'Q9 x'Q9 dx'Q9 T'Q9 ti'Q9 te'Q9 h'Q9 tk'Q9 hlt'Q9 O'Q9 F'Q9 N'Q9; (try k_sweep); (try dsimp only))))
  k_with "m:eval ListComp" => (k_here; (with_reducible show wpAny _ _ (eval (PySem.Expr.ListComp _ [⟨_, _, [], _⟩] _ _) _) _ _ _); k_dflt (refine LCg.ListComp_U (F₀ := by k_asm) (by with_unfolding_all rfl) (by decide) (by rfl) (by decide) (by rfl) ?_))
  k_with "m:CompSrc" => (k_here; refine Hold.out ?_)
  k_with "m:call ref" => (k_here; k_dflt (first | ((with_reducible show wpAny _ _ (call (Value.ref 278) _) _ _ _); refine' typed_con _ _ _ _ _ _ _ _ _ _ _ _ _ _ _ _ _ _ _ ?hmQ8 ?aQ8 ?bQ8 ?cQ8 ?dQ8 ?eQ8 ?fQ8 ?gQ8 ?hQ8 _ _ _ _ _ _ _ _ _ _ _ _ _ _ _ _ _ ?k1Q8 ?k2Q8 ?k3Q8 ?k4Q8 ?k5Q8 ?kKQ8 ?kdQ8 ?kuQ8 ?_; (case k1Q8 => k_asm); (case k2Q8 => k_asm); (case k3Q8 => k_asm); (case k4Q8 => first | k_asm | exact news_drop1 (by k_asm) | exact news_drop2 (by k_asm) | exact news_drop1 (news_drop2 (by k_asm))); (case k5Q8 => k_asm); (case kKQ8 => first | exact rfl | assumption); (case kdQ8 => ktr_room); (case kuQ8 => first | ktr_units | (rw [tc_units]; dsimp only [ktrTop]; (first | (law_clear; lia) | omega))); (case hmQ8 => k_mem); (case aQ8 => first | assumption | (first | (law_clear; lia) | omega)); (case bQ8 => first | assumption | (first | (law_clear; lia) | omega)); (case cQ8 => first | assumption | (first | (law_clear; lia) | omega)); (case dQ8 => first | assumption | (first | (law_clear; lia) | omega)); (case eQ8 => first | assumption | (first | (law_clear; lia) | omega)); (case fQ8 => first | assumption | (first | (law_clear; lia) | omega)); (case gQ8 => first | assumption | (first | (law_clear; lia) | omega)); (case hQ8 => first | assumption | (first | (law_clear; lia) | omega)); k_whole; intro c'Q9 t'Q9 h'Q9 tk'Q9 hT'Q9 F'Q9 N'Q9; (try k_sweep); (try dsimp only))))
  k_with "m:call ref" => (k_here; k_dflt (first | ((with_reducible show wpAny _ _ (call (Value.ref 120) _) _ _ _); refine' split_rows _ _ _ _ _ _ _ _ _ _ _ _ _ _ _ _ _ _ _ _ _ _ _ _ _ ?a1Q8 ?a2Q8 ?a3Q8 ?a4Q8 ?a5Q8 ?a6Q8 ?a7Q8 ?a8Q8 ?a9Q8 ?a10Q8 ?a11Q8 _ _ _ _ _ _ _ _ _ _ _ _ _ _ _ _ _ ?k1Q8 ?k2Q8 ?k3Q8 ?k4Q8 ?k5Q8 ?kKQ8 ?kGQ8 ?kdQ8 ?kuQ8 ?_; (case k1Q8 => k_asm); (case k2Q8 => k_asm); (case k3Q8 => k_asm); (case k4Q8 => first | k_asm | exact news_drop1 (by k_asm) | exact news_drop2 (by k_asm) | exact news_drop1 (news_drop2 (by k_asm))); (case k5Q8 => k_asm); (case kKQ8 => first | exact rfl | assumption); (case kGQ8 => k_asm); (case kdQ8 => ktr_room); (case kuQ8 => first | ktr_units | (rw [tc_units]; dsimp only [ktrTop]; (first | (law_clear; lia) | omega))); (case a1Q8 => assumption); (case a2Q8 => assumption); (case a3Q8 => assumption); (case a4Q8 => assumption); (case a5Q8 => assumption); (case a6Q8 => assumption); (case a7Q8 => assumption); (case a8Q8 => assumption); (case a9Q8 => assumption); (case a10Q8 => assumption); (case a11Q8 => assumption); k_whole; intro parts'Q9 tp'Q9 tq'Q9 tr'Q9 b'Q9 ls'Q9 c'Q9 n'Q9 ti'Q9 te'Q9 ps'Q9 qs'Q9 rest'Q9 h'Q9 g'Q9 d'Q9 tk'Q9 TT'Q9 O'Q9 sub'Q9 hNl'Q9 hls'Q9 F'Q9 N'Q9 G'Q9; (try k_sweep); (try dsimp only))))
  k_with "m:getMethod ref" => (k_here; (with_reducible show wpAny _ _ (getMethod (Value.ref _) (PySem.Str.ofString "_append_chunk") _) _ _ _); k_dflt (refine' F_m_append ?k1Q8 ?k2Q8 ?k3Q8 ?k4Q8 ?k5Q8 ?_; (case k1Q8 => k_asm); (case k2Q8 => k_asm); (case k3Q8 => first | k_asm | exact news_drop1 (by k_asm)); (case k4Q8 => k_mem); (case k5Q8 => k_mem); k_whole))
  k_with "m:getMethod ref" => (k_here; (with_reducible show wpAny _ _ (getMethod (Value.ref _) (PySem.Str.ofString "_ascii_split") _) _ _ _); k_dflt (refine' F_m_split ?k1Q8 ?k2Q8 ?k3Q8 ?k4Q8 ?k5Q8 ?_; (case k1Q8 => k_asm); (case k2Q8 => k_asm); (case k3Q8 => first | k_asm | exact news_drop1 (by k_asm)); (case k4Q8 => k_mem); (case k5Q8 => k_mem); k_whole))
  k_with "m:getMethod ref" => (k_here; (with_reducible show wpAny _ _ (getMethod (Value.ref _) (PySem.Str.ofString "_str") _) _ _ _); k_dflt (refine' F_m_str ?k1Q8 ?k2Q8 ?k3Q8 ?k4Q8 ?k5Q8 ?_; (case k1Q8 => k_asm); (case k2Q8 => k_asm); (case k3Q8 => first | k_asm | exact news_drop1 (by k_asm)); (case k4Q8 => k_mem); (case k5Q8 => k_mem); k_whole))
  k_with "m:call ref" => (k_here; k_dflt (first | ((with_reducible show wpAny _ _ (call (Value.ref 78) _) _ _ _); refine' str_rows _ _ _ _ _ _ _ _ _ _ _ _ _ _ _ _ _ _ _ _ _ _ _ _ _ _ _ _ ?a1Q8 ?a2Q8 ?a3Q8 ?a4Q8 ?a5Q8 _ _ _ _ _ _ _ _ _ _ _ _ _ _ _ _ _ ?k1Q8 ?k2Q8 ?k3Q8 ?k4Q8 ?k5Q8 ?kKQ8 ?kGQ8 ?kdQ8 ?kuQ8 ?_; (case k1Q8 => k_asm); (case k2Q8 => k_asm); (case k3Q8 => k_asm); (case k4Q8 => first | k_asm | exact news_drop1 (by k_asm) | exact news_drop2 (by k_asm) | exact news_drop1 (news_drop2 (by k_asm))); (case k5Q8 => k_asm); (case kKQ8 => first | exact rfl | assumption); (case kGQ8 => k_asm); (case kdQ8 => ktr_room); (case kuQ8 => first | ktr_units | (rw [tc_units]; dsimp only [ktrTop]; (first | (law_clear; lia) | omega))); (case a1Q8 => assumption); (case a2Q8 => assumption); (case a3Q8 => assumption); (case a4Q8 => assumption); (case a5Q8 => assumption); k_whole; intro t'Q9 ps'Q9 qs'Q9 h'Q9 g'Q9 d'Q9 tk'Q9 TT'Q9 F'Q9 N'Q9 G'Q9; (try k_sweep); (try dsimp only))))
  k_with "m:call builtin:str.split" => (k_here; k_dflt (refine' nl_split ?k1Q8 ?k2Q8 ?k3Q8 ?k4Q8 ?_; (case k1Q8 => k_asm); (case k2Q8 => k_asm); (case k3Q8 => assumption); (case k4Q8 => assumption); k_whole); intro D'Q9 ta'Q9 tb'Q9 tc'Q9 h'Q9 tk'Q9 hlt'Q9 F'Q9 N'Q9; (try k_sweep))
  k_with "m:eval ListComp" => (k_here; (with_reducible show wpAny _ _ (eval (PySem.Expr.ListComp _ [⟨_, _, [_], _⟩] _ _) _) _ _ _); k_dflt (refine ListComp_TS (by k_asm) (by with_unfolding_all rfl) (by decide) (by rfl) (by decide) (by rfl) ?_))
  k_with "m:SrcS" => (k_here; refine Hold.out ?_)
  trivial
theorem c11_T (w : World) (mean : ExcName → Option Value) (mg mb : Str → Option Value) (news : List (Addr × Obj)) (t : Tok) :
    Con 8 60 w mean mg mb 271 news [.str ⟨#[32]⟩ t] (fun h₀ L m s Q => ∀ h' tk', Fr h₀ L h' m → News h₀ L h' news → Q (.bool true) { s with heap := h', toks := tk' }) := by
  have e : ((⟨#[32]⟩ : Str) == Str.ofString " ") = true := by decide +kernel
  rw [← e]; exact c11_con w mean mg mb news _ t
theorem c11_F (w : World) (mean : ExcName → Option Value) (mg mb : Str → Option Value) (news : List (Addr × Obj)) (c j : Nat) (t : Tok) (hc : TypedSign c j) :
    Con 8 60 w mean mg mb 271 news [.str ⟨#[c]⟩ t] (fun h₀ L m s Q => ∀ h' tk', Fr h₀ L h' m → News h₀ L h' news → Q (.bool false) { s with heap := h', toks := tk' }) := by
  have e : ((⟨#[c]⟩ : Str) == Str.ofString " ") = false := by rw [blankS]; exact str1_ne hc.facts.2.2.1
  rw [← e]; exact c11_con w mean mg mb news _ t
theorem lines_LwC_3 : True := by
  k_with "m:call ref" => (k_here; k_dflt (first | ((with_reducible show wpAny _ _ (call (Value.ref 271) _) _ _ _); refine' c11_T _ _ _ _ _ _ _ _ _ _ _ _ _ _ _ _ _ _ _ _ _ _ _ ?k1Q8 ?k2Q8 ?k3Q8 ?k4Q8 ?k5Q8 ?kKQ8 ?kdQ8 ?kuQ8 ?_; (case k1Q8 => k_asm); (case k2Q8 => k_asm); (case k3Q8 => k_asm); (case k4Q8 => first | k_asm | exact news_drop1 (by k_asm) | exact news_drop2 (by k_asm) | exact news_drop1 (news_drop2 (by k_asm))); (case k5Q8 => k_asm); (case kKQ8 => first | exact rfl | assumption); (case kdQ8 => ktr_room); (case kuQ8 => first | ktr_units | (rw [tc_units]; dsimp only [ktrTop]; (first | (law_clear; lia) | omega))); k_whole; intro h'Q9 tk'Q9 F'Q9 N'Q9; (try k_sweep); (try dsimp only)) | ((with_reducible show wpAny _ _ (call (Value.ref 271) _) _ _ _); refine' c11_F _ _ _ _ _ _ _ _ ?hcQ8 _ _ _ _ _ _ _ _ _ _ _ _ _ _ _ _ _ ?k1Q8 ?k2Q8 ?k3Q8 ?k4Q8 ?k5Q8 ?kKQ8 ?kdQ8 ?kuQ8 ?_; (case k1Q8 => k_asm); (case k2Q8 => k_asm); (case k3Q8 => k_asm); (case k4Q8 => first | k_asm | exact news_drop1 (by k_asm) | exact news_drop2 (by k_asm) | exact news_drop1 (news_drop2 (by k_asm))); (case k5Q8 => k_asm); (case kKQ8 => first | exact rfl | assumption); (case kdQ8 => ktr_room); (case kuQ8 => first | ktr_units | (rw [tc_units]; dsimp only [ktrTop]; (first | (law_clear; lia) | omega))); (case hcQ8 => assumption); k_whole; intro h'Q9 tk'Q9 F'Q9 N'Q9; (try k_sweep); (try dsimp only)) | ((with_reducible show wpAny _ _ (call (Value.ref 264) _) _ _ _); refine' b3_typed _ _ _ _ _ _ _ _ ?hcQ8 _ _ _ _ _ _ _ _ _ _ _ _ _ _ _ _ _ ?k1Q8 ?k2Q8 ?k3Q8 ?k4Q8 ?k5Q8 ?kKQ8 ?kdQ8 ?kuQ8 ?_; (case k1Q8 => k_asm); (case k2Q8 => k_asm); (case k3Q8 => k_asm); (case k4Q8 => first | k_asm | exact news_drop1 (by k_asm) | exact news_drop2 (by k_asm) | exact news_drop1 (news_drop2 (by k_asm))); (case k5Q8 => k_asm); (case kKQ8 => first | exact rfl | assumption); (case kdQ8 => ktr_room); (case kuQ8 => first | ktr_units | (rw [tc_units]; dsimp only [ktrTop]; (first | (law_clear; lia) | omega))); (case hcQ8 => assumption); k_whole; intro t'Q9 h'Q9 tk'Q9 F'Q9 N'Q9; (try k_sweep); (try dsimp only))))
  trivial
theorem join_KL {w : World} {A : Around} {E : Value → Shared → Prop} {s : Shared} {h₀ : Heap} {L D : Addr} {news : List (Addr × Obj)} {ps : List (Str × Tok)} {sep : Str} {ls : List Str} {t : Tok} {Q : Value → Shared → Prop}
    (N : News h₀ L s.heap news) (hd : (D, LCg.lst (strValues ps)) ∈ news) (hp : ps.map (·.1) = ls) (hJ : JoinOk sep ls = true)
    (h : ∀ t' tk', Q (.str (Txt.join sep ls) t') { s with toks := tk' }) : wpAny (model pr w) A (call (.builtin "str.join") [.str sep t, .ref D]) Q E s := by
  subst hp
  exact join_K N hd hJ h
theorem lines_LwC_4 : True := by
  k_with "m:call builtin:str.join" => (k_here; k_dflt (refine' join_KL ?k1Q8 ?k2Q8 ?k3Q8 ?k4Q8 ?_; (case k1Q8 => k_asm); (case k2Q8 => k_mem); (case k3Q8 => assumption); (case k4Q8 => assumption); k_whole; intro t9Q9 tk9Q9))
  trivial
theorem lineN {n : Nat} (h : n ≤ 64) : n ≤ sizeLine := Nat.le_trans h (by decide)
theorem range_cast {a b : Nat} : Builtin.Range.rangeSize 0 ((a : Int) + 2 * (b : Int)) 1 = ((a + 2 * b : Nat) : Int) := by
  have e : (a : Int) + 2 * (b : Int) = ((a + 2 * b : Nat) : Int) := by lia
  rw [e]; exact size_one
theorem joinOk_ones {sep : Str} {cs : List Nat} (hs : sep.length ≤ 1) (hc : cs.length ≤ 100) : JoinOk sep (cs.map one) = true := by
  refine joinOk_of ?_
  have e : ((cs.map one).map (·.length)).sum = cs.length := by
    rw [List.map_map]
    induction cs with
    | nil => rfl
    | cons c r ih =>
      simp only [List.map_cons, List.sum_cons, List.length_cons] at hc ⊢
      rw [ih (by lia)]
      show 1 + r.length = _
      lia
  have h1 : (cs.map one).length * sep.length ≤ (cs.map one).length * 1 := Nat.mul_le_mul_left _ hs
  rw [e]
  rw [List.length_map] at h1 ⊢
  lia
theorem off1_mem {D : Addr} : ∀ {l : List (Addr × Obj)}, LCg.Off1 D l → ∀ p ∈ l, p.1 ≠ D
  | [], _, _, h => nomatch h
  | _ :: _, x, p, h => (List.mem_cons.mp h).elim (fun e => e ▸ x.1) (fun h => off1_mem x.2 p h)
theorem rows_off {D : Addr} {a b : Obj} {c d : Addr × Obj} {rest rest' : List (Addr × Obj)} (h1 : @Ne Nat 176 D) (h2 : @Ne Nat 183 D) (h3 : LCg.Off1 D rest') (hs : ∀ q ∈ c :: d :: rest, q ∈ rest') : ∀ p ∈ (176, a) :: (183, b) :: rest, p.1 ≠ D := by
  intro p hp
  rcases List.mem_cons.mp hp with rfl | hp
  · exact h1
  rcases List.mem_cons.mp hp with rfl | hp
  · exact h2
  exact off1_mem h3 p (hs p (.tail _ (.tail _ hp)))
theorem rows_news {h₀ h : Heap} {L : Addr} {e f a b c d : Addr × Obj} {rest rest' : List (Addr × Obj)} (N : News h₀ L h (e :: f :: a :: b :: rest')) (hs : ∀ q ∈ c :: d :: rest, q ∈ rest') : News h₀ L h (e :: a :: b :: rest) := by
  intro p hp
  rcases List.mem_cons.mp hp with rfl | hp
  · exact N _ (.head _)
  rcases List.mem_cons.mp hp with rfl | hp
  · exact N _ (.tail _ (.tail _ (.head _)))
  rcases List.mem_cons.mp hp with rfl | hp
  · exact N _ (.tail _ (.tail _ (.tail _ (.head _))))
  exact N _ (.tail _ (.tail _ (.tail _ (.tail _ (hs p (.tail _ (.tail _ hp)))))))
theorem three_of {α : Type} {l : List α} {a b c : α} (hl : l.length = 3) (h0 : l[0]? = some a) (h1 : l[1]? = some b) (h2 : l[2]? = some c) : l = [a, b, c] := by
  rcases l with _ | ⟨x, _ | ⟨y, _ | ⟨z, _ | ⟨u, r⟩⟩⟩⟩
  · cases hl
  · cases hl
  · cases hl
  · cases h0; cases h1; cases h2; rfl
  · exact absurd hl (by simp)
theorem rows_con (w : World) (mean : ExcName → Option Value) (mg mb : Str → Option Value) (rest : List (Addr × Obj)) (ps qs : Array Value) (l : Addr) (size ring head : Nat) (room : Int) (n0 n1 n2 n3 : Int) (c : Nat) (t u v z t0 t1 t2 t3 : Tok) (hm : (l, numsO n0 n1 n2 n3 t0 t1 t2 t3 c) ∈ rest)
    (hr : ∀ p ∈ rest, p.1 ≠ 176 ∧ p.1 ≠ 183) (TT : Tabs ps qs)
    (hs0 : 1 ≤ size) (hs1 : size ≤ 13) (hg0 : 1 ≤ ring) (hg1 : ring ≤ 8) (hh0 : 1 ≤ head) (hh1 : head ≤ 14) (r0 : 0 ≤ room) (r1 : room + 2 * head ≤ 2 * size + 1) (r2 : 2 * size ≤ room + 2 * head) (hn1 : 0 ≤ n1) (hn1' : n1 ≤ 100000000) (hn2 : 0 ≤ n2) (hn2' : n2 ≤ 100000000) :
    ConG 100 500 w mean mg mb 283 ((176, tabObj ps) :: (183, tabObj qs) :: rest) [.int size t, .int ring u, .int head v, .int room z, .ref l]
      (fun h₀ L m s Q => ∀ (D : Addr) (ta tb tc : Tok) (ps qs : Array Value) (h' : Heap) (g' : Array GenState) (d' : Drawn) (tk' : Nat), Tabs ps qs → Fr h₀ L h' m → (∀ p ∈ (176, tabObj ps) :: (183, tabObj qs) :: rest, p.1 ≠ D) →
        News h₀ L h' ((D, LCg.lst [.str (strL (letts n1.toNat ring 0 head)) ta, .str (strL (letts n1.toNat ring head size)) tb, .str (strL (letts n1.toNat ring (head + size) size)) tc]) :: (176, tabObj ps) :: (183, tabObj qs) :: rest) → AllBare g' → Q (.ref D) ⟨h', g', d', tk', s.os⟩) := by
  have f1 : (ring : Int) ≤ 20 := by lia
  have f2 : (1 : Int) ≤ ring := by lia
  dsimp only [ConG, pr, lsV]; k_fill
  intros; rename_i hret
  walk_at "con_enter"
  k_steps
  (with_reducible rename IsRange _ _ _ _ _ _ _ _ => RR)
  refine Hold.mk ?_
  refine LCg.CompSrc.range (n := head + 2 * size) (by rfl) (by k_asm) (by k_asm) RR (small_one (by lia) (by lia) (by lia) (by lia)) range_cast (lineN (by lia)) ?_
  clear RR
  intro g9
  refine rel_rest (fun i y => ∃ c t, y = .str ⟨#[c]⟩ t ∧ TypedSign c ((n1.toNat + i % ring) % 26)) ?turn ?fin
  case turn =>
    intro i v I oI C oC D m₂ ys h tk E' hi hv hC hx F N off ne
    obtain ⟨tv, rfl⟩ := hv
    have hi2 : (i : Int) < head + 2 * size := by lia
    k_steps
    exact ⟨_, _, _, rfl, by assumption, by assumption, off, trivial, rfl, _, _, rfl, by rw [← J_is hn1 hg0, ← Int.zero_add (i : Int)]; assumption⟩
  intro ys hys hR
  obtain ⟨ps', cs, rfl, hps', hcs, htyp⟩ := typed_list hys hR
  have hcl : cs.length ≤ 100 := by lia
  have hJ : JoinOk (Str.ofString " ") (cs.map one) = true := joinOk_ones (by rw [blankS]; exact Nat.le_refl 1) hcl
  have hJ3 := rows3_ok (cs := cs) (size := size) (head := head) hs1 hh1
  have hz3 := rows3_len (cs := cs) (size := size) (head := head) hs1 hh1
  have hf3 := rows3_free hcs htyp
  dsimp only [rows3] at hJ3 hz3 hf3
  have q0 := seg_row hcs htyp 0 head (by lia)
  have q1 := seg_row hcs htyp head size (by lia)
  have q2 := seg_row hcs htyp (head + size) size (by lia)
  have z0 := text_le cs 0 head
  have z1 := text_le cs head size
  have z2 := text_le cs (head + size) size
  rw [Nat.zero_add] at q0 z0
  k_steps
  (with_reducible rename ∀ q ∈ _ :: _ :: rest, q ∈ _ => hsub)
  refine Hold.mk ?_
  refine LCg.CompSrc.ledger (by rfl) (by k_asm) (by k_asm) (List.Mem.head _) ?hsz ?_
  case hsz => exact lineN (show 3 ≤ 64 by decide)
  intro g9
  refine rel_rest (fun i y => ∃ t, y = .str (strL ([letts n1.toNat ring 0 head, letts n1.toNat ring head size, letts n1.toNat ring (head + size) size].getD i [])) t) ?turn2 ?fin2
  case turn2 =>
    intro i v I oI C oC D m₂ ys h tk E' hi hv hC hx F N off ne
    obtain ⟨X, zs, tX, rfl, hrow, hX, hzs, hZ⟩ : ∃ X zs tX, v = .str X tX ∧ RowOf X.cps.toList zs ∧ X.cps.size ≤ 64 ∧ zs.length ≤ 64 ∧ [letts n1.toNat ring 0 head, letts n1.toNat ring head size, letts n1.toNat ring (head + size) size].getD i [] = zs := by
      rcases i with _ | _ | _ | i
      · exact ⟨_, _, _, (Option.some.inj hv).symm, q0, by have e : (textL (seg cs 0 head)).length ≤ 2 * head := z0
                                                          exact Nat.le_trans e (by lia), by rw [letts_len]; lia, rfl⟩
      · exact ⟨_, _, _, (Option.some.inj hv).symm, q1, Nat.le_trans z1 (by lia), by rw [letts_len]; lia, rfl⟩
      · exact ⟨_, _, _, (Option.some.inj hv).symm, q2, Nat.le_trans z2 (by lia), by rw [letts_len]; lia, rfl⟩
      · exact absurd hi (by simp)
    rw [hZ]
    clear hZ hv
    k_steps
    refine Hold.mk ⟨X, tX, _, rfl, by rfl, by k_asm, by k_asm, lineN hX, ?_⟩
    rintro s₂ ⟨g8, rfl⟩
    refine row_rest hrow ?blank ?sign ?fin1
    case blank =>
      intro u8 I8 oI8 C8 oC8 D8 m8 ys8 h8 tk8 E8 hC8 hx8 F8 N8 off8 ne8
      k_steps
      exact ⟨_, _, _, rfl, by assumption, by assumption, off8, trivial, rfl, trivial⟩
    case sign =>
      intro c8 j8 hc8 u8 I8 oI8 C8 oC8 D8 m8 ys8 h8 tk8 E8 hC8 hx8 F8 N8 off8 ne8
      k_steps
      exact ⟨_, _, _, rfl, by assumption, by assumption, off8, trivial, rfl, _, rfl⟩
    intro ps8 hps8
    have hJ8 : JoinOk (Str.ofString "") (zs.map one) = true := joinOk_ones (by rw [emptyS]; exact Nat.zero_le _) (by lia)
    k_steps
    exact ⟨_, _, _, rfl, by assumption, news_tl (by assumption), off, .inr ⟨_, List.Mem.head _, rfl, _, rfl⟩, rfl, _, by rw [join_row]⟩
  intro ys2 hys2 hR2
  obtain ⟨y0, hy0, ta, rfl⟩ := hR2 0 (show 0 < 3 by lia)
  obtain ⟨y1, hy1, tb, rfl⟩ := hR2 1 (show 1 < 3 by lia)
  obtain ⟨y2, hy2, tc, rfl⟩ := hR2 2 (show 2 < 3 by lia)
  have e3 : ys2 = [.str (strL (letts n1.toNat ring 0 head)) ta, .str (strL (letts n1.toNat ring head size)) tb, .str (strL (letts n1.toNat ring (head + size) size)) tc] := three_of hys2 hy0 hy1 hy2
  subst e3
  clear hR2 hy0 hy1 hy2 hys2
  k_steps
  (with_reducible rename Fr _ _ _ _ => FF)
  (with_reducible rename News _ _ _ _ => NN)
  (with_reducible rename AllBare _ => GG)
  (with_reducible rename Tabs _ _ => T9)
  (with_reducible rename _ ∧ _ ∧ _ ∧ LCg.Off1 _ _ => oo)
  exact hret _ _ _ _ _ _ _ _ _ _ T9 FF (rows_off oo.2.1 oo.2.2.1 oo.2.2.2 hsub) (rows_news NN hsub) GG
end Mine
end
section
open PySem PySem.W PyProof.Rows PySem.Calls PySem.Spec PySem.Builtin PySem.Builtin.Str
set_option Elab.async false
set_option maxRecDepth 100000
set_option maxHeartbeats 0
namespace Mine
theorem slice_nat {x : Str} {a b : Nat} (hab : a ≤ b) (hb : b ≤ x.length) : Txt.slice x (some (a : Int)) (some (b : Int)) = ⟨((x.cps.toList.drop a).take (b - a)).toArray⟩ := by
  unfold Txt.slice
  have e := StrLaws.sliced_plain x hab hb
  split
  · rename_i h
    have hl : (strSliceIndices (some (a : Int)) (some (b : Int)) 1 x.length).length = x.length := by simpa using h
    rw [StrLaws.strSliceIndices_plain hab hb] at hl
    simp only [List.length_map, List.length_range] at hl
    have ha : a = 0 := by lia
    have hb2 : b = x.length := by lia
    apply str_ext
    subst ha hb2
    show _ = (x.cps.toList.drop 0).take (x.length - 0)
    rw [List.drop_zero, Nat.sub_zero]
    exact (List.take_of_length_le (by simp [Str.length])).symm
  · rw [e]
theorem slice_to {x : Str} {b : Nat} (hb : b ≤ x.length) : Txt.slice x none (some (b : Int)) = ⟨((x.cps.toList.drop 0).take (b - 0)).toArray⟩ := by
  have := slice_nat (x := x) (Nat.zero_le b) hb
  rw [← this]
  unfold Txt.slice
  rw [StrLaws.sliceIdx_none_lo]; rfl
theorem slice_from {x : Str} {a : Nat} (ha : a ≤ x.length) : Txt.slice x (some (a : Int)) none = ⟨((x.cps.toList.drop a).take (x.length - a)).toArray⟩ := by
  have := slice_nat (x := x) ha (Nat.le_refl _)
  rw [← this]
  unfold Txt.slice
  rw [StrLaws.sliceIdx_none_hi]
theorem letts_cut {start ring N a n : Nat} (h : a + n ≤ N) : ((letts start ring 0 N).drop a).take n = letts start ring a n := by
  apply List.ext_getElem
  · simp [letts]; lia
  · intro i h1 h2
    simp [letts]
section
variable {prog : Program} {w : World} {A : Around} {E : Value → Shared → Prop} {s : Shared} {value slice : PySem.Expr} {start ring N : Nat} {t : Tok} {h₀ : Heap} {L : Addr} {m : Str → Option Value} {news : List (Addr × Obj)} {Q : Value → Shared → Prop}
theorem cut_to {j : Int} {b : Nat} {uj : Tok} (hF : Fr h₀ L s.heap m) (hN : News h₀ L s.heap news) (hj : j = b) (hb : b ≤ N) (hn : N ≤ 64) (h : ∀ h' t' k, Fr h₀ L h' m → News h₀ L h' news → Q (.str (strL (letts start ring 0 b)) t') { s with heap := h', toks := k })
    (hs : subscripted slice false (.str (strL (letts start ring 0 N)) t) (.ref s.heap.objs.size) = operate [.ref s.heap.objs.size, .str (strL (letts start ring 0 N)) t] (getItem (.str (strL (letts start ring 0 N)) t) (.ref s.heap.objs.size)))
    (ht : ∀ r, letTemporaryGo value (.str (strL (letts start ring 0 N)) t) r = pure ()) :
    wpAny (model prog w) A (subscriptTail value slice (.str (strL (letts start ring 0 N)) t) (.ref s.heap.objs.size)) Q E { s with heap := s.heap.push { cls := .type "slice", data := .fields #[.none, .int j uj, .none] } } := by
  subst hj
  have hl : (strL (letts start ring 0 N)).length = N := by rw [strL_len, letts_len]
  refine slice_strN_ns hF hN (fun h' t' k F N' => ?_) hs ht (by rw [hl]; exact lineN hn)
  rw [slice_to (by rw [hl]; exact hb)]
  have e : ((strL (letts start ring 0 N)).cps.toList.drop 0).take (b - 0) = letts start ring 0 b := letts_cut (by lia)
  rw [e]; exact h h' t' k F N'
theorem cut_mid {i j : Int} {a b : Nat} {ui uj : Tok} (hF : Fr h₀ L s.heap m) (hN : News h₀ L s.heap news) (hi : i = a) (hj : j = a + b) (hb : a + b ≤ N) (hn : N ≤ 64) (h : ∀ h' t' k, Fr h₀ L h' m → News h₀ L h' news → Q (.str (strL (letts start ring a b)) t') { s with heap := h', toks := k })
    (hs : subscripted slice false (.str (strL (letts start ring 0 N)) t) (.ref s.heap.objs.size) = operate [.ref s.heap.objs.size, .str (strL (letts start ring 0 N)) t] (getItem (.str (strL (letts start ring 0 N)) t) (.ref s.heap.objs.size)))
    (ht : ∀ r, letTemporaryGo value (.str (strL (letts start ring 0 N)) t) r = pure ()) :
    wpAny (model prog w) A (subscriptTail value slice (.str (strL (letts start ring 0 N)) t) (.ref s.heap.objs.size)) Q E { s with heap := s.heap.push { cls := .type "slice", data := .fields #[.int i ui, .int j uj, .none] } } := by
  subst hi
  have hj' : j = ((a + b : Nat) : Int) := by lia
  subst hj'
  have hl : (strL (letts start ring 0 N)).length = N := by rw [strL_len, letts_len]
  refine slice_strN_ss hF hN (fun h' t' k F N' => ?_) hs ht (by rw [hl]; exact lineN hn)
  rw [slice_nat (by lia) (by rw [hl]; exact hb)]
  have e : ((strL (letts start ring 0 N)).cps.toList.drop a).take (a + b - a) = letts start ring a b := by
    rw [show a + b - a = b by lia]; exact letts_cut hb
  rw [e]; exact h h' t' k F N'
theorem cut_from {i : Int} {a b : Nat} {ui : Tok} (hF : Fr h₀ L s.heap m) (hN : News h₀ L s.heap news) (hi : i = a) (hb : a + b = N) (hn : N ≤ 64) (h : ∀ h' t' k, Fr h₀ L h' m → News h₀ L h' news → Q (.str (strL (letts start ring a b)) t') { s with heap := h', toks := k })
    (hs : subscripted slice false (.str (strL (letts start ring 0 N)) t) (.ref s.heap.objs.size) = operate [.ref s.heap.objs.size, .str (strL (letts start ring 0 N)) t] (getItem (.str (strL (letts start ring 0 N)) t) (.ref s.heap.objs.size)))
    (ht : ∀ r, letTemporaryGo value (.str (strL (letts start ring 0 N)) t) r = pure ()) :
    wpAny (model prog w) A (subscriptTail value slice (.str (strL (letts start ring 0 N)) t) (.ref s.heap.objs.size)) Q E { s with heap := s.heap.push { cls := .type "slice", data := .fields #[.int i ui, .none, .none] } } := by
  subst hi
  have hl : (strL (letts start ring 0 N)).length = N := by rw [strL_len, letts_len]
  refine slice_strN_sn hF hN (fun h' t' k F N' => ?_) hs ht (by rw [hl]; exact lineN hn)
  rw [slice_from (by rw [hl]; lia)]
  have e : ((strL (letts start ring 0 N)).cps.toList.drop a).take ((strL (letts start ring 0 N)).length - a) = letts start ring a b := by
    rw [hl, show N - a = b by lia]; exact letts_cut (by lia)
  rw [e]; exact h h' t' k F N'
end
theorem lines_ToA_1 : True := by
  w_top off
  k_with_none
  k_with "m9:room" => ktr_room
  k_with "m9:mem" => first | exact List.Mem.head _ | (refine' List.Mem.tail _ ?_; k_mem) | assumption
  k_with "m:eval Name" => dsimp only
  k_with "m:spliced" => dsimp only
  k_with "m:execs cons" => dsimp only
  k_with "m:eval Constant int" => dsimp only
  k_with "m:eval BinOp" => dsimp only
  k_with "m:execs nil" => dsimp only
  k_with "m:eval Call" => dsimp only
  k_with "m:storeName" => dsimp only
  k_with "m:exec Assign" => dsimp only
  k_with "m:callWith" => dsimp only
  k_with "m:eval Subscript" => dsimp only
  k_with "m:eval Call Attribute" => dsimp only
  k_with "m:evalPart none" => dsimp only
  k_with "m:truthy bool" => dsimp only
  k_with "m:callWith ref" => dsimp only
  k_with "m:call ref" => dsimp only
  k_with "m:isTrue Compare" => dsimp only
  k_with "m:getMethod ref" => dsimp only
  k_with "m:exec If" => dsimp only
  k_with "m:exec Return some" => dsimp only
  k_with "m:getAttr ref" => dsimp only
  k_with "m:eval Attribute Name" => dsimp only
  k_with "m:binaryOp Add int int" => dsimp only
  k_with "m:isTrue BoolOp" => dsimp only
  k_with "m:binaryOp Mod int int" => dsimp only
  k_with "m:subscriptTail Name Constant ref int" => dsimp only
  k_with "m:evalPart some" => dsimp only
  k_with "m:eval Slice" => dsimp only
  k_with "m:exec Expr" => dsimp only
  k_with "m:isTrue" => dsimp only
  k_with "m:eval Constant str" => dsimp only
  k_with "m:assignInOrder" => dsimp only
  k_with "m:call builtin:len" => dsimp only
  k_with "m:newTuple" => dsimp only
  k_with "m:eval Tuple" => dsimp only
  k_with "m:eval BoolOp" => dsimp only
  k_with "m:subscriptTail Name Slice str ref" => dsimp only
  k_with "m:getMethod str" => dsimp only
  k_with "m:setAttr ref" => dsimp only
  k_with "m:newList" => dsimp only
  k_with "m:eval List" => dsimp only
  k_with "m:binaryOp Mult int int" => dsimp only
  k_with "m:con_enter" => (refine wpAny_call ?_; k_dflt (first | cell_enter | (refine' code_defC ?k1Q8 ?k2Q8 ?k3Q8 ?k4Q8 ?k5Q8 ?kAQ8 ?kFQ8 ?kKQ8 ?k6Q8 ?k7Q8 ?k8Q8 ?k9Q8 ?kBQ8 ?kDQ8 ?_ ?c2Q8 ?c3Q8 ?c4Q8; (case kAQ8 => exact rfl); (case kFQ8 => exact rfl); (case kKQ8 => assumption); (case k1Q8 => k_asm); (case k2Q8 => k_asm); (case k3Q8 => k_asm); (case k4Q8 => k_asm); (case k5Q8 => k_asm); (case k6Q8 => k_is); (case k7Q8 => k_is); (case k8Q8 => ktr_room); (case k9Q8 => first | exact BindsTo.of_eq rfl | exact binds_K (by k_in) rfl (by k_is) rfl rfl rfl | fail "k_enter: no rule for these arguments"); (case kBQ8 => exact rfl); (case kDQ8 => decide +kernel); (case c2Q8 => exact rfl); (case c3Q8 => exact rfl); (case c4Q8 => exact rfl); k_whole; intro g'Q9 L'Q9 h'Q9 tk'Q9 cells'Q9 FG'Q9 F'Q9 N'Q9 Y'Q9 B'Q9 X'Q9 T'Q9 l1Q9; (try k_lt l1Q9); k_cells Y'Q9; (try simp only [List.cons_append, List.nil_append] at N'Q9); (try dsimp only); (try k_lift B'Q9); (try k_fold))))
  k_with "m:con_enterS" => (refine wpAny_call ?_; k_dflt (refine' code_defS ?k1Q8 ?k2Q8 ?k3Q8 ?k4Q8 ?k5Q8 ?kAQ8 ?kFQ8 ?kKQ8 ?k6Q8 ?k7Q8 ?k8Q8 ?k9Q8 ?kBQ8 ?_ ?c2Q8 ?c3Q8 ?c4Q8 ?c5Q8; (case kAQ8 => exact rfl); (case kFQ8 => exact rfl); (case kKQ8 => first | assumption | exact rfl); (case k1Q8 => k_asm); (case k2Q8 => k_asm); (case k3Q8 => k_asm); (case k4Q8 => k_asm); (case k5Q8 => k_asm); (case k6Q8 => k_is); (case k7Q8 => k_is); (case k8Q8 => ktr_room); (case k9Q8 => first | exact BindsTo.of_eq rfl | exact binds_K (by k_in) rfl (by k_is) rfl rfl rfl); (case c5Q8 => decide); (case kBQ8 => exact locs rfl); (case c2Q8 => exact rfl); (case c3Q8 => exact rfl); (case c4Q8 => exact rfl); k_whole; intro g'Q9 L'Q9 h'Q9 FG'Q9 F'Q9 N'Q9 B'Q9 X'Q9 T'Q9 l1Q9; (try dsimp only); (try k_lift B'Q9); (try k_fold)))
  k_with "m:con_enterT" => (k_dflt (refine' code_defS ?k1Q8 ?k2Q8 ?k3Q8 ?k4Q8 ?k5Q8 ?kAQ8 ?kFQ8 ?kKQ8 ?k6Q8 ?k7Q8 ?k8Q8 ?k9Q8 ?kBQ8 ?_ ?c2Q8 ?c3Q8 ?c4Q8 ?c5Q8; (case kAQ8 => exact rfl); (case kFQ8 => exact rfl); (case kKQ8 => first | assumption | exact rfl); (case k1Q8 => k_asm); (case k2Q8 => k_asm); (case k3Q8 => k_asm); (case k4Q8 => k_asm); (case k5Q8 => k_asm); (case k6Q8 => k_is); (case k7Q8 => k_is); (case k8Q8 => ktr_room); (case k9Q8 => first | exact BindsTo.of_eq rfl | exact binds_K (by k_in) rfl (by k_is) rfl rfl rfl); (case c5Q8 => decide); (case kBQ8 => exact locs rfl); (case c2Q8 => exact rfl); (case c3Q8 => exact rfl); (case c4Q8 => exact rfl); k_whole; intro g'Q9 L'Q9 h'Q9 FG'Q9 F'Q9 N'Q9 B'Q9 X'Q9 T'Q9 l1Q9; (try dsimp only); (try k_lift B'Q9); (try k_fold)))
  k_with "m:CompSrc" => (k_here; refine Hold.out ?_)
  trivial
theorem told_list {n : Nat} {f : Nat → Nat} : ∀ {ys : List Value}, ys.length = n → (∀ i, i < n → ∃ y, ys[i]? = some y ∧ ∃ t, y = .str ⟨#[f i]⟩ t) → ∃ ps : List (Str × Tok), ys = strValues ps ∧ ps.map (·.1) = ((List.range n).map f).map one := by
  induction n generalizing f with
  | zero =>
    intro ys h _
    exact ⟨[], by rw [List.length_eq_zero_iff.mp h]; rfl, rfl⟩
  | succ n ih =>
    intro ys h hR
    cases ys with
    | nil => simp at h
    | cons y ys =>
      obtain ⟨ps, e1, e2⟩ := ih (f := fun i => f (i + 1)) (ys := ys) (by simpa using h) (fun i hi => by
        have := hR (i + 1) (by lia)
        simpa using this)
      obtain ⟨y', hy', t, e⟩ := hR 0 (by lia)
      have : y = y' := by simpa using hy'
      subst this
      subst e
      refine ⟨(⟨#[f 0]⟩, t) :: ps, by rw [e1]; rfl, ?_⟩
      rw [List.map_cons, e2, List.range_succ_eq_map]
      simp
theorem join_S {w : World} {A : Around} {E : Value → Shared → Prop} {s : Shared} {h₀ : Heap} {L D : Addr} {news : List (Addr × Obj)} {ps : List (Str × Tok)} {zs : List Nat} {t : Tok} {Q : Value → Shared → Prop}
    (N : News h₀ L s.heap news) (hd : (D, LCg.lst (strValues ps)) ∈ news) (hp : ps.map (·.1) = zs.map one) (hJ : JoinOk (Str.ofString "") (zs.map one) = true)
    (h : ∀ t' tk', Q (.str (strL zs) t') { s with toks := tk' }) : wpAny (model pr w) A (call (.builtin "str.join") [.str (Str.ofString "") t, .ref D]) Q E s := by
  rw [← join_row] at h
  exact join_KL N hd hp hJ h
theorem lines_ToA_2 : True := by
  k_with "m:call builtin:str.join" => (k_here; k_dflt (refine' join_S ?k1Q8 ?k2Q8 ?k3Q8 ?k4Q8 ?_; (case k1Q8 => k_asm); (case k2Q8 => k_mem); (case k3Q8 => assumption); (case k4Q8 => assumption); k_whole; intro t9Q9 tk9Q9))
  k_with "m:subscriptTail Name Slice str ref" => (k_here; k_dflt (first | (refine' cut_to (s := ⟨_, _, _, _, _⟩) ?k1Q8 ?k2Q8 ?k3Q8 ?k4Q8 ?k5Q8 ?_ ?k6Q8 ?k7Q8; (case k1Q8 => k_asm); (case k2Q8 => k_asm); (case k3Q8 => rfl); (case k4Q8 => (first | (law_clear; lia) | omega)); (case k5Q8 => (first | (law_clear; lia) | omega)); (case k6Q8 => with_unfolding_all rfl); (case k7Q8 => intro _; with_unfolding_all rfl)) | (refine' cut_mid (s := ⟨_, _, _, _, _⟩) ?k1Q8 ?k2Q8 ?k3Q8 ?k4Q8 ?k5Q8 ?k8Q8 ?_ ?k6Q8 ?k7Q8; (case k1Q8 => k_asm); (case k2Q8 => k_asm); (case k3Q8 => rfl); (case k4Q8 => rfl); (case k5Q8 => (first | (law_clear; lia) | omega)); (case k8Q8 => (first | (law_clear; lia) | omega)); (case k6Q8 => with_unfolding_all rfl); (case k7Q8 => intro _; with_unfolding_all rfl)) | (refine' cut_from (s := ⟨_, _, _, _, _⟩) ?k1Q8 ?k2Q8 ?k3Q8 ?k4Q8 ?k5Q8 ?_ ?k6Q8 ?k7Q8; (case k1Q8 => k_asm); (case k2Q8 => k_asm); (case k3Q8 => rfl); (case k4Q8 => assumption); (case k5Q8 => (first | (law_clear; lia) | omega)); (case k6Q8 => with_unfolding_all rfl); (case k7Q8 => intro _; with_unfolding_all rfl))); k_whole; intro h'Q9 t'Q9 k'Q9 F'Q9 N'Q9)
  trivial
theorem told_news {h₀ h : Heap} {L : Addr} {a b c d : Addr × Obj} {l : List (Addr × Obj)} (N : News h₀ L h (a :: b :: c :: d :: l)) : News h₀ L h (a :: l) := fun p hp => by
  rcases List.mem_cons.mp hp with rfl | hp
  · exact N _ (.head _)
  · exact N _ (.tail _ (.tail _ (.tail _ (.tail _ hp))))
theorem told_con (w : World) (mean : ExcName → Option Value) (mg mb : Str → Option Value) (news : List (Addr × Obj)) (size ring head : Nat) (n1 : Int) (t u v z : Tok) (hs0 : 1 ≤ size) (hs1 : size ≤ 13) (hg0 : 1 ≤ ring) (hg1 : ring ≤ 8) (hh0 : 1 ≤ head) (hh1 : head ≤ 14) (hn1 : 0 ≤ n1) (hn1' : n1 ≤ 100000000) :
    Con 20 100 w mean mg mb 288 news [.int size t, .int ring u, .int head v, .int n1 z] (fun h₀ L m s Q => ∀ D ta tb tc h' tk', (∀ p ∈ news, p.1 ≠ D) → Fr h₀ L h' m → News h₀ L h' ((D, W.listOf #[.str (strL (letts n1.toNat ring 0 head)) ta, .str (strL (letts n1.toNat ring head size)) tb, .str (strL (letts n1.toNat ring (head + size) size)) tc] 0) :: news) → Q (.ref D) { s with heap := h', toks := tk' }) := by
  dsimp only [Con, pr, lsV]; k_fill
  intros; rename_i hret
  walk_at "con_enter"
  have b1 : head + (size + size) = head + 2 * size := by lia
  have b2 : (head + size) + size = head + 2 * size := by lia
  have b3 : head + 2 * size ≤ 64 := by lia
  k_steps
  (with_reducible rename IsRange _ _ _ _ _ _ _ _ => RR)
  refine Hold.mk ?_
  refine LCg.CompSrc.range (n := head + 2 * size) (by rfl) (by k_asm) (by k_asm) RR (small_one (by lia) (by lia) (by lia) (by lia)) range_cast (lineN (by lia)) ?_
  clear RR
  intro g9
  refine rel_rest (fun i y => ∃ t, y = .str ⟨#[lett n1.toNat ring (0 + i)]⟩ t) ?turn ?fin
  case turn =>
    intro i v I oI C oC D m₂ ys h tk E' hi hv hC hx F N off ne
    obtain ⟨tv, rfl⟩ := hv
    have hi2 : (i : Int) < head + 2 * size := by lia
    have hJ9 := J_is (n1 := n1) (i := i) (ring := ring) hn1 hg0
    rw [← Int.zero_add (i : Int)] at hJ9
    have hc9 : (97 + Int.fmod (n1 + Int.fmod (0 + (i : Int)) ring) 26).toNat = lett n1.toNat ring (0 + i) := by
      unfold lett
      rw [Nat.zero_add, ← hJ9]
      have := Int.fmod_nonneg_of_pos (n1 + Int.fmod (0 + (i : Int)) ring) (b := 26) (by decide)
      lia
    k_steps
    exact ⟨_, _, _, rfl, by assumption, by assumption, off, trivial, rfl, _, by rw [← hc9]⟩
  intro ys hys hR
  obtain ⟨ps', rfl, hps'⟩ := told_list hys hR
  have hJ : JoinOk (Str.ofString "") ((letts n1.toNat ring 0 (head + 2 * size)).map one) = true := joinOk_ones (by rw [emptyS]; exact Nat.zero_le _) (by rw [letts_len]; lia)
  have hps2 : ps'.map (·.1) = (letts n1.toNat ring 0 (head + 2 * size)).map one := hps'
  k_steps
  (with_reducible rename Fr _ _ _ _ => FF)
  (with_reducible rename News _ _ _ _ => NN)
  (with_reducible rename _ ∧ _ ∧ _ ∧ AllLt _ _ => oo)
  exact hret _ _ _ _ _ _ (fun p hp => Nat.ne_of_lt (allLt_mem oo.2.2.2 _ hp)) FF (told_news NN)
end Mine
end
section
open PySem PySem.W PyProof.Rows PySem.Calls PySem.Spec
set_option Elab.async false
set_option maxRecDepth 100000
set_option maxHeartbeats 0
namespace Mine
/-- the fewest divisions -/
noncomputable def fewF : Nat → Int → Int → Int
  | 0, _, _ => 1
  | k + 1, size, ring => if Int.fmod size ring = 0 then 1 else 1 + min (fewF k ring (Int.fmod size ring)) (fewF k ring (ring - Int.fmod size ring))
theorem lines_LxA_1 : True := by
  w_top off
  k_with_none
  k_with "m9:room" => ktr_room
  k_with "m9:mem" => first | exact List.Mem.head _ | (refine' List.Mem.tail _ ?_; k_mem) | assumption
  k_with "m:eval Name" => dsimp only
  k_with "m:spliced" => dsimp only
  k_with "m:execs cons" => dsimp only
  k_with "m:eval Constant int" => dsimp only
  k_with "m:eval BinOp" => dsimp only
  k_with "m:execs nil" => dsimp only
  k_with "m:eval Call" => dsimp only
  k_with "m:storeName" => dsimp only
  k_with "m:exec Assign" => dsimp only
  k_with "m:callWith" => dsimp only
  k_with "m:eval Subscript" => dsimp only
  k_with "m:eval Call Attribute" => dsimp only
  k_with "m:evalPart none" => dsimp only
  k_with "m:truthy bool" => dsimp only
  k_with "m:callWith ref" => dsimp only
  k_with "m:call ref" => dsimp only
  k_with "m:isTrue Compare" => dsimp only
  k_with "m:getMethod ref" => dsimp only
  k_with "m:exec If" => dsimp only
  k_with "m:exec Return some" => dsimp only
  k_with "m:getAttr ref" => dsimp only
  k_with "m:eval Attribute Name" => dsimp only
  k_with "m:binaryOp Add int int" => dsimp only
  k_with "m:isTrue BoolOp" => dsimp only
  k_with "m:binaryOp Mod int int" => dsimp only
  k_with "m:subscriptTail Name Constant ref int" => dsimp only
  k_with "m:evalPart some" => dsimp only
  k_with "m:eval Slice" => dsimp only
  k_with "m:exec Expr" => dsimp only
  k_with "m:isTrue" => dsimp only
  k_with "m:eval Constant str" => dsimp only
  k_with "m:assignInOrder" => dsimp only
  k_with "m:call builtin:len" => dsimp only
  k_with "m:newTuple" => dsimp only
  k_with "m:eval Tuple" => dsimp only
  k_with "m:eval BoolOp" => dsimp only
  k_with "m:subscriptTail Name Slice str ref" => dsimp only
  k_with "m:getMethod str" => dsimp only
  k_with "m:setAttr ref" => dsimp only
  k_with "m:newList" => dsimp only
  k_with "m:eval List" => dsimp only
  k_with "m:binaryOp Mult int int" => dsimp only
  k_with "m:con_enter" => (refine wpAny_call ?_; k_dflt (first | cell_enter | (refine' code_defC ?k1Q8 ?k2Q8 ?k3Q8 ?k4Q8 ?k5Q8 ?kAQ8 ?kFQ8 ?kKQ8 ?k6Q8 ?k7Q8 ?k8Q8 ?k9Q8 ?kBQ8 ?kDQ8 ?_ ?c2Q8 ?c3Q8 ?c4Q8; (case kAQ8 => exact rfl); (case kFQ8 => exact rfl); (case kKQ8 => assumption); (case k1Q8 => k_asm); (case k2Q8 => k_asm); (case k3Q8 => k_asm); (case k4Q8 => k_asm); (case k5Q8 => k_asm); (case k6Q8 => k_is); (case k7Q8 => k_is); (case k8Q8 => ktr_room); (case k9Q8 => first | exact BindsTo.of_eq rfl | exact binds_K (by k_in) rfl (by k_is) rfl rfl rfl | fail "k_enter: no rule for these arguments"); (case kBQ8 => exact rfl); (case kDQ8 => decide +kernel); (case c2Q8 => exact rfl); (case c3Q8 => exact rfl); (case c4Q8 => exact rfl); k_whole; intro g'Q9 L'Q9 h'Q9 tk'Q9 cells'Q9 FG'Q9 F'Q9 N'Q9 Y'Q9 B'Q9 X'Q9 T'Q9 l1Q9; (try k_lt l1Q9); k_cells Y'Q9; (try simp only [List.cons_append, List.nil_append] at N'Q9); (try dsimp only); (try k_lift B'Q9); (try k_fold))))
  k_with "m:con_enterS" => (refine wpAny_call ?_; k_dflt (refine' code_defS ?k1Q8 ?k2Q8 ?k3Q8 ?k4Q8 ?k5Q8 ?kAQ8 ?kFQ8 ?kKQ8 ?k6Q8 ?k7Q8 ?k8Q8 ?k9Q8 ?kBQ8 ?_ ?c2Q8 ?c3Q8 ?c4Q8 ?c5Q8; (case kAQ8 => exact rfl); (case kFQ8 => exact rfl); (case kKQ8 => first | assumption | exact rfl); (case k1Q8 => k_asm); (case k2Q8 => k_asm); (case k3Q8 => k_asm); (case k4Q8 => k_asm); (case k5Q8 => k_asm); (case k6Q8 => k_is); (case k7Q8 => k_is); (case k8Q8 => ktr_room); (case k9Q8 => first | exact BindsTo.of_eq rfl | exact binds_K (by k_in) rfl (by k_is) rfl rfl rfl); (case c5Q8 => decide); (case kBQ8 => exact locs rfl); (case c2Q8 => exact rfl); (case c3Q8 => exact rfl); (case c4Q8 => exact rfl); k_whole; intro g'Q9 L'Q9 h'Q9 FG'Q9 F'Q9 N'Q9 B'Q9 X'Q9 T'Q9 l1Q9; (try dsimp only); (try k_lift B'Q9); (try k_fold)))
  k_with "m:con_enterT" => (k_dflt (refine' code_defS ?k1Q8 ?k2Q8 ?k3Q8 ?k4Q8 ?k5Q8 ?kAQ8 ?kFQ8 ?kKQ8 ?k6Q8 ?k7Q8 ?k8Q8 ?k9Q8 ?kBQ8 ?_ ?c2Q8 ?c3Q8 ?c4Q8 ?c5Q8; (case kAQ8 => exact rfl); (case kFQ8 => exact rfl); (case kKQ8 => first | assumption | exact rfl); (case k1Q8 => k_asm); (case k2Q8 => k_asm); (case k3Q8 => k_asm); (case k4Q8 => k_asm); (case k5Q8 => k_asm); (case k6Q8 => k_is); (case k7Q8 => k_is); (case k8Q8 => ktr_room); (case k9Q8 => first | exact BindsTo.of_eq rfl | exact binds_K (by k_in) rfl (by k_is) rfl rfl rfl); (case c5Q8 => decide); (case kBQ8 => exact locs rfl); (case c2Q8 => exact rfl); (case c3Q8 => exact rfl); (case c4Q8 => exact rfl); k_whole; intro g'Q9 L'Q9 h'Q9 FG'Q9 F'Q9 N'Q9 B'Q9 X'Q9 T'Q9 l1Q9; (try dsimp only); (try k_lift B'Q9); (try k_fold)))
  k_with "m:call builtin:min" => (k_here; k_dflt (refine' min_K ?k0Q8 ?k1Q8 ?k2Q8 ?_; (case k0Q8 => exact rfl); (case k1Q8 => k_asm); (case k2Q8 => k_asm); k_whole); intro t'Q9 h'Q9 tk'Q9 F'Q9 N'Q9; (try k_sweep))
  trivial
noncomputable def FewCon (k : Nat) : Prop := ∀ (w : World) (mean : ExcName → Option Value) (mg mb : Str → Option Value) (news : List (Addr × Obj)) (size ring : Int) (t u : Tok), 0 < ring → ring ≤ k →
    Con (2 * k + 8) (40 * k + 60) w mean mg mb 295 news [.int size t, .int ring u] (fun h₀ L m s Q => ∀ t' h' tk', Fr h₀ L h' m → News h₀ L h' news → Q (.int (fewF k size ring) t') { s with heap := h', toks := tk' })
theorem lines_LxA_2 : True := by
  k_with "m:call ref" => (k_here; k_dflt (refine' (show FewCon _ from by assumption) _ _ _ _ _ _ _ _ _ ?hxQ8 ?hyQ8 _ _ _ _ _ _ _ _ _ _ _ _ _ _ _ _ _ ?k1Q8 ?k2Q8 ?k3Q8 ?k4Q8 ?k5Q8 ?kKQ8 ?kdQ8 ?kuQ8 ?_; (case k1Q8 => k_asm); (case k2Q8 => k_asm); (case k3Q8 => k_asm); (case k4Q8 => first | k_asm | exact news_drop1 (by k_asm) | exact news_drop2 (by k_asm) | exact news_drop1 (news_drop2 (by k_asm))); (case k5Q8 => k_asm); (case kKQ8 => first | exact rfl | assumption); (case kdQ8 => first | ktr_room | (dsimp only [ktrTop]; omega)); (case kuQ8 => first | ktr_units | (rw [tc_units]; dsimp only [ktrTop]; omega)); (case hxQ8 => omega); (case hyQ8 => omega); k_whole; intro t'Q9 h'Q9 tk'Q9 F'Q9 N'Q9; (try k_sweep); (try dsimp only)))
  trivial
theorem few_con : ∀ k, FewCon k
  | 0 => by intro w mean mg mb news size ring t u h0 h1; omega
  | k + 1 => by
    have ih := few_con k
    intro w mean mg mb news size ring t u h0 h1
    have hr0 := Int.fmod_nonneg_of_pos size h0
    have hr1 := Int.fmod_lt_of_pos size h0
    have h1' : ring ≤ k + 1 := by omega
    dsimp only [Con, pr, lsV]; k_fill
    intros; rename_i hret
    walk_at "con_enter"
    k_steps
    · (with_reducible rename Int.fmod _ _ = 0 => hz)
      have e : fewF (k + 1) size ring = 1 := by unfold fewF; rw [if_pos hz]
      rw [e] at hret
      exact hret _ _ _ (by assumption) (by assumption)
    · (with_reducible rename Int.fmod _ _ ≠ 0 => hz)
      have e : fewF (k + 1) size ring = 1 + min (fewF k ring (Int.fmod size ring)) (fewF k ring (ring - Int.fmod size ring)) := by conv => lhs; unfold fewF; rw [if_neg hz]
      rw [e] at hret
      exact hret _ _ _ (by assumption) (by assumption)
end Mine
end
section
open PySem PySem.W PyProof.Rows PySem.Calls PySem.Spec
set_option Elab.async false
set_option maxRecDepth 100000
set_option maxHeartbeats 0
namespace Mine
/-- the least of the rests and the lacks -/
noncomputable def lessF (size ring : Int) : Int := min (Int.fmod size ring) (Int.fmod (-size) ring)
/-- the told distances -/
noncomputable def restsF : Nat → Int → Int → List Int
  | 0, _, _ => []
  | k + 1, size, ring => if ring = 0 then [] else 4 * lessF size ring :: restsF k ring (lessF size ring)
structure RsJ (D : Addr) (rest : List (Addr × Obj)) (all : List Int) (n : Nat) (m : Str → Option Value) (nx : List (Addr × Obj)) : Prop where
  st : ∃ (size ring : Int) (t u : Tok) (us : List (Int × Tok)) (c : Nat), m (Str.ofString "size") = some (.int size t) ∧ m (Str.ofString "ring") = some (.int ring u) ∧ m (Str.ofString "found") = some (.ref D) ∧
    0 ≤ ring ∧ ring ≤ n ∧ nx = (D, W.listOf (rowV us) c) :: rest ∧ us.map (·.1) ++ restsF (n + 1) size ring = all ∧ us.length + n ≤ 20
theorem rs_step {D : Addr} {rest : List (Addr × Obj)} {all : List Int} {n : Nat} {m : Str → Option Value} {size ring x : Int} {t u tx : Tok} {us : List (Int × Tok)} {c : Nat} (h1 : m (Str.ofString "size") = some (.int size t)) (h2 : m (Str.ofString "ring") = some (.int ring u)) (h3 : m (Str.ofString "found") = some (.ref D))
    (h4 : 0 ≤ ring) (h5 : ring ≤ n) (h6 : us.map (·.1) ++ x :: restsF (n + 1) size ring = all) (h7 : us.length + 1 + n ≤ 20) : RsJ D rest all n m ((D, W.listOf ((rowV us).push (.int x tx)) c) :: rest) := by
  refine ⟨size, ring, t, u, us ++ [(x, tx)], c, h1, h2, h3, h4, h5, ?_, ?_, ?_⟩
  · have : rowV (us ++ [(x, tx)]) = (rowV us).push (.int x tx) := by simp [rowV]
    rw [this]
  · rw [← h6]; simp
  · simp; omega
theorem lines_LxB_1 : True := by
  w_top off
  k_with_none
  k_with "m9:room" => ktr_room
  k_with "m9:mem" => first | exact List.Mem.head _ | (refine' List.Mem.tail _ ?_; k_mem) | assumption
  k_with "m:eval Name" => dsimp only
  k_with "m:spliced" => dsimp only
  k_with "m:execs cons" => dsimp only
  k_with "m:eval Constant int" => dsimp only
  k_with "m:eval BinOp" => dsimp only
  k_with "m:execs nil" => dsimp only
  k_with "m:eval Call" => dsimp only
  k_with "m:storeName" => dsimp only
  k_with "m:exec Assign" => dsimp only
  k_with "m:callWith" => dsimp only
  k_with "m:eval Subscript" => dsimp only
  k_with "m:eval Call Attribute" => dsimp only
  k_with "m:evalPart none" => dsimp only
  k_with "m:truthy bool" => dsimp only
  k_with "m:callWith ref" => dsimp only
  k_with "m:call ref" => dsimp only
  k_with "m:isTrue Compare" => dsimp only
  k_with "m:getMethod ref" => dsimp only
  k_with "m:exec If" => dsimp only
  k_with "m:exec Return some" => dsimp only
  k_with "m:getAttr ref" => dsimp only
  k_with "m:eval Attribute Name" => dsimp only
  k_with "m:binaryOp Add int int" => dsimp only
  k_with "m:isTrue BoolOp" => dsimp only
  k_with "m:binaryOp Mod int int" => dsimp only
  k_with "m:subscriptTail Name Constant ref int" => dsimp only
  k_with "m:evalPart some" => dsimp only
  k_with "m:eval Slice" => dsimp only
  k_with "m:exec Expr" => dsimp only
  k_with "m:isTrue" => dsimp only
  k_with "m:eval Constant str" => dsimp only
  k_with "m:assignInOrder" => dsimp only
  k_with "m:call builtin:len" => dsimp only
  k_with "m:newTuple" => dsimp only
  k_with "m:eval Tuple" => dsimp only
  k_with "m:eval BoolOp" => dsimp only
  k_with "m:subscriptTail Name Slice str ref" => dsimp only
  k_with "m:getMethod str" => dsimp only
  k_with "m:setAttr ref" => dsimp only
  k_with "m:newList" => dsimp only
  k_with "m:eval List" => dsimp only
  k_with "m:binaryOp Mult int int" => dsimp only
  k_with "m:con_enter" => (refine wpAny_call ?_; k_dflt (first | cell_enter | (refine' code_defC ?k1Q8 ?k2Q8 ?k3Q8 ?k4Q8 ?k5Q8 ?kAQ8 ?kFQ8 ?kKQ8 ?k6Q8 ?k7Q8 ?k8Q8 ?k9Q8 ?kBQ8 ?kDQ8 ?_ ?c2Q8 ?c3Q8 ?c4Q8; (case kAQ8 => exact rfl); (case kFQ8 => exact rfl); (case kKQ8 => assumption); (case k1Q8 => k_asm); (case k2Q8 => k_asm); (case k3Q8 => k_asm); (case k4Q8 => k_asm); (case k5Q8 => k_asm); (case k6Q8 => k_is); (case k7Q8 => k_is); (case k8Q8 => ktr_room); (case k9Q8 => first | exact BindsTo.of_eq rfl | exact binds_K (by k_in) rfl (by k_is) rfl rfl rfl | fail "k_enter: no rule for these arguments"); (case kBQ8 => exact rfl); (case kDQ8 => decide +kernel); (case c2Q8 => exact rfl); (case c3Q8 => exact rfl); (case c4Q8 => exact rfl); k_whole; intro g'Q9 L'Q9 h'Q9 tk'Q9 cells'Q9 FG'Q9 F'Q9 N'Q9 Y'Q9 B'Q9 X'Q9 T'Q9 l1Q9; (try k_lt l1Q9); k_cells Y'Q9; (try simp only [List.cons_append, List.nil_append] at N'Q9); (try dsimp only); (try k_lift B'Q9); (try k_fold))))
  k_with "m:con_enterS" => (refine wpAny_call ?_; k_dflt (refine' code_defS ?k1Q8 ?k2Q8 ?k3Q8 ?k4Q8 ?k5Q8 ?kAQ8 ?kFQ8 ?kKQ8 ?k6Q8 ?k7Q8 ?k8Q8 ?k9Q8 ?kBQ8 ?_ ?c2Q8 ?c3Q8 ?c4Q8 ?c5Q8; (case kAQ8 => exact rfl); (case kFQ8 => exact rfl); (case kKQ8 => first | assumption | exact rfl); (case k1Q8 => k_asm); (case k2Q8 => k_asm); (case k3Q8 => k_asm); (case k4Q8 => k_asm); (case k5Q8 => k_asm); (case k6Q8 => k_is); (case k7Q8 => k_is); (case k8Q8 => ktr_room); (case k9Q8 => first | exact BindsTo.of_eq rfl | exact binds_K (by k_in) rfl (by k_is) rfl rfl rfl); (case c5Q8 => decide); (case kBQ8 => exact locs rfl); (case c2Q8 => exact rfl); (case c3Q8 => exact rfl); (case c4Q8 => exact rfl); k_whole; intro g'Q9 L'Q9 h'Q9 FG'Q9 F'Q9 N'Q9 B'Q9 X'Q9 T'Q9 l1Q9; (try dsimp only); (try k_lift B'Q9); (try k_fold)))
  k_with "m:con_enterT" => (k_dflt (refine' code_defS ?k1Q8 ?k2Q8 ?k3Q8 ?k4Q8 ?k5Q8 ?kAQ8 ?kFQ8 ?kKQ8 ?k6Q8 ?k7Q8 ?k8Q8 ?k9Q8 ?kBQ8 ?_ ?c2Q8 ?c3Q8 ?c4Q8 ?c5Q8; (case kAQ8 => exact rfl); (case kFQ8 => exact rfl); (case kKQ8 => first | assumption | exact rfl); (case k1Q8 => k_asm); (case k2Q8 => k_asm); (case k3Q8 => k_asm); (case k4Q8 => k_asm); (case k5Q8 => k_asm); (case k6Q8 => k_is); (case k7Q8 => k_is); (case k8Q8 => ktr_room); (case k9Q8 => first | exact BindsTo.of_eq rfl | exact binds_K (by k_in) rfl (by k_is) rfl rfl rfl); (case c5Q8 => decide); (case kBQ8 => exact locs rfl); (case c2Q8 => exact rfl); (case c3Q8 => exact rfl); (case c4Q8 => exact rfl); k_whole; intro g'Q9 L'Q9 h'Q9 FG'Q9 F'Q9 N'Q9 B'Q9 X'Q9 T'Q9 l1Q9; (try dsimp only); (try k_lift B'Q9); (try k_fold)))
  k_with "m:call builtin:min" => (k_here; k_dflt (refine' min_K ?k0Q8 ?k1Q8 ?k2Q8 ?_; (case k0Q8 => exact rfl); (case k1Q8 => k_asm); (case k2Q8 => k_asm); k_whole); intro t'Q9 h'Q9 tk'Q9 F'Q9 N'Q9; (try k_sweep))
  k_with "m:exec While" => (k_here; refine Stay.out ?_)
  trivial
theorem rests_con (w : World) (mean : ExcName → Option Value) (mg mb : Str → Option Value) (news : List (Addr × Obj)) (size ring : Int) (k : Nat) (t u : Tok) (h0 : 0 < ring) (h1 : ring ≤ k) (hk : k ≤ 20) :
    Con 20 100 w mean mg mb 302 news [.int size t, .int ring u] (fun h₀ L m s Q => ∀ D us c h' tk', us.map (·.1) = restsF (k + 1) size ring → (∀ p ∈ news, p.1 ≠ D) → Fr h₀ L h' m → News h₀ L h' ((D, W.listOf (rowV us) c) :: news) → Q (.ref D) { s with heap := h', toks := tk' }) := by
  dsimp only [Con, pr, lsV]; k_fill
  intros; rename_i hret
  walk_at "con_enter"
  k_steps
  (with_reducible rename Fr _ _ _ _ => FF)
  (with_reducible rename News _ _ _ _ => NN)
  (with_reducible rename ∀ p ∈ news, p.1 < _ => hlt)
  refine Stay.mk ?_
  refine While_inv2 (n₀ := k) (RsJ _ news (restsF (k + 1) size ring)) FF NN ⟨size, ring, t, u, [], 0, by rfl, by rfl, by rfl, by omega, h1, rfl, by rfl, by simp; omega⟩ ?turn
  clear FF NN
  rintro n m₁ nx h tkk F₁ N₁ ⟨size', ring', t', u', us, c, ms, mr, mf, hr0, hr1, rfl, hall, hlen⟩
  have F₂ := Fr.nam (x := Str.ofString "found") (Fr.nam (x := Str.ofString "ring") (Fr.nam (x := Str.ofString "size") F₁ ms) mr) mf
  clear F₁ ms mr mf
  have hne : ∀ p ∈ news, p.1 ≠ _ := fun p hp => Nat.ne_of_lt (hlt p hp)
  k_steps
  · (with_reducible rename Fr _ _ _ _ => FF)
    (with_reducible rename News _ _ _ _ => NN)
    (with_reducible rename ring' ≠ 0 => hz)
    obtain ⟨n0, rfl⟩ : ∃ n0, n = n0 + 1 := ⟨n - 1, by omega⟩
    have hp : 0 < ring' := by omega
    have q0 := Int.fmod_nonneg_of_pos size' hp
    have q1 := Int.fmod_nonneg_of_pos (-size') hp
    have q2 := Int.fmod_lt_of_pos size' hp
    have e : restsF (n0 + 1 + 1) size' ring' = 4 * lessF size' ring' :: restsF (n0 + 1) ring' (lessF size' ring') := by conv => lhs; unfold restsF; rw [if_neg hz]
    rw [e] at hall
    have hl : lessF size' ring' = min (Int.fmod size' ring') (Int.fmod (-size') ring') := rfl
    exact ⟨_, _, _, _, n0, rfl, FF, news_tl NN, Nat.lt_succ_self _, rs_step (size := ring') (ring := lessF size' ring') (by rfl) (by rfl) (by rfl) (by rw [hl]; omega) (by rw [hl]; omega) hall (by omega)⟩
  · (with_reducible rename Fr _ _ _ _ => FF)
    (with_reducible rename News _ _ _ _ => NN)
    (with_reducible rename ring' = 0 => hz)
    have e : restsF (n + 1) size' ring' = [] := by unfold restsF; rw [if_pos hz]
    rw [e, List.append_nil] at hall
    exact hret _ _ _ _ _ hall hne FF NN
end Mine
end
section
open PySem PySem.W PyProof.Rows PySem.Calls PySem.Spec
set_option Elab.async false
set_option maxRecDepth 100000
set_option maxHeartbeats 0
namespace Mine
theorem lines_LgD_1 : True := by
  w_top off
  k_with_none
  k_with "m9:room" => ktr_room
  k_with "m:eval Name" => dsimp only
  k_with "m:spliced" => dsimp only
  k_with "m:execs cons" => dsimp only
  k_with "m:eval Constant int" => dsimp only
  k_with "m:eval BinOp" => dsimp only
  k_with "m:execs nil" => dsimp only
  k_with "m:eval Call" => dsimp only
  k_with "m:storeName" => dsimp only
  k_with "m:exec Assign" => dsimp only
  k_with "m:callWith" => dsimp only
  k_with "m:eval Subscript" => dsimp only
  k_with "m:eval Call Attribute" => dsimp only
  k_with "m:evalPart none" => dsimp only
  k_with "m:truthy bool" => dsimp only
  k_with "m:callWith ref" => dsimp only
  k_with "m:call ref" => dsimp only
  k_with "m:isTrue Compare" => dsimp only
  k_with "m:getMethod ref" => dsimp only
  k_with "m:exec If" => dsimp only
  k_with "m:exec Return some" => dsimp only
  k_with "m:getAttr ref" => dsimp only
  k_with "m:eval Attribute Name" => dsimp only
  k_with "m:binaryOp Add int int" => dsimp only
  k_with "m:isTrue BoolOp" => dsimp only
  k_with "m:binaryOp Mod int int" => dsimp only
  k_with "m:subscriptTail Name Constant ref int" => dsimp only
  k_with "m:evalPart some" => dsimp only
  k_with "m:eval Slice" => dsimp only
  k_with "m:exec Expr" => dsimp only
  k_with "m:isTrue" => dsimp only
  k_with "m:eval Constant str" => dsimp only
  k_with "m:assignInOrder" => dsimp only
  k_with "m:call builtin:len" => dsimp only
  k_with "m:newTuple" => dsimp only
  k_with "m:eval Tuple" => dsimp only
  k_with "m:eval BoolOp" => dsimp only
  k_with "m:subscriptTail Name Slice str ref" => dsimp only
  k_with "m:getMethod str" => dsimp only
  k_with "m:setAttr ref" => dsimp only
  k_with "m:newList" => dsimp only
  k_with "m:eval List" => dsimp only
  k_with "m:binaryOp Mult int int" => dsimp only
  k_with "m:con_enter" => (refine wpAny_call ?_; k_dflt (first | cell_enter | (refine' code_defC ?k1Q8 ?k2Q8 ?k3Q8 ?k4Q8 ?k5Q8 ?kAQ8 ?kFQ8 ?kKQ8 ?k6Q8 ?k7Q8 ?k8Q8 ?k9Q8 ?kBQ8 ?kDQ8 ?_ ?c2Q8 ?c3Q8 ?c4Q8; (case kAQ8 => exact rfl); (case kFQ8 => exact rfl); (case kKQ8 => assumption); (case k1Q8 => k_asm); (case k2Q8 => k_asm); (case k3Q8 => k_asm); (case k4Q8 => k_asm); (case k5Q8 => k_asm); (case k6Q8 => k_is); (case k7Q8 => k_is); (case k8Q8 => ktr_room); (case k9Q8 => first | exact BindsTo.of_eq rfl | exact binds_K (by k_in) rfl (by k_is) rfl rfl rfl | fail "k_enter: no rule for these arguments"); (case kBQ8 => exact rfl); (case kDQ8 => decide +kernel); (case c2Q8 => exact rfl); (case c3Q8 => exact rfl); (case c4Q8 => exact rfl); k_whole; intro g'Q9 L'Q9 h'Q9 tk'Q9 cells'Q9 FG'Q9 F'Q9 N'Q9 Y'Q9 B'Q9 X'Q9 T'Q9 l1Q9; (try k_lt l1Q9); k_cells Y'Q9; (try simp only [List.cons_append, List.nil_append] at N'Q9); (try dsimp only); (try k_lift B'Q9); (try k_fold))))
  k_with "m:con_enterS" => (refine wpAny_call ?_; k_dflt (refine' code_defS ?k1Q8 ?k2Q8 ?k3Q8 ?k4Q8 ?k5Q8 ?kAQ8 ?kFQ8 ?kKQ8 ?k6Q8 ?k7Q8 ?k8Q8 ?k9Q8 ?kBQ8 ?_ ?c2Q8 ?c3Q8 ?c4Q8 ?c5Q8; (case kAQ8 => exact rfl); (case kFQ8 => exact rfl); (case kKQ8 => first | assumption | exact rfl); (case k1Q8 => k_asm); (case k2Q8 => k_asm); (case k3Q8 => k_asm); (case k4Q8 => k_asm); (case k5Q8 => k_asm); (case k6Q8 => k_is); (case k7Q8 => k_is); (case k8Q8 => ktr_room); (case k9Q8 => first | exact BindsTo.of_eq rfl | exact binds_K (by k_in) rfl (by k_is) rfl rfl rfl); (case c5Q8 => decide); (case kBQ8 => exact locs rfl); (case c2Q8 => exact rfl); (case c3Q8 => exact rfl); (case c4Q8 => exact rfl); k_whole; intro g'Q9 L'Q9 h'Q9 FG'Q9 F'Q9 N'Q9 B'Q9 X'Q9 T'Q9 l1Q9; (try dsimp only); (try k_lift B'Q9); (try k_fold)))
  k_with "m:con_enterT" => (k_dflt (refine' code_defS ?k1Q8 ?k2Q8 ?k3Q8 ?k4Q8 ?k5Q8 ?kAQ8 ?kFQ8 ?kKQ8 ?k6Q8 ?k7Q8 ?k8Q8 ?k9Q8 ?kBQ8 ?_ ?c2Q8 ?c3Q8 ?c4Q8 ?c5Q8; (case kAQ8 => exact rfl); (case kFQ8 => exact rfl); (case kKQ8 => first | assumption | exact rfl); (case k1Q8 => k_asm); (case k2Q8 => k_asm); (case k3Q8 => k_asm); (case k4Q8 => k_asm); (case k5Q8 => k_asm); (case k6Q8 => k_is); (case k7Q8 => k_is); (case k8Q8 => ktr_room); (case k9Q8 => first | exact BindsTo.of_eq rfl | exact binds_K (by k_in) rfl (by k_is) rfl rfl rfl); (case c5Q8 => decide); (case kBQ8 => exact locs rfl); (case c2Q8 => exact rfl); (case c3Q8 => exact rfl); (case c4Q8 => exact rfl); k_whole; intro g'Q9 L'Q9 h'Q9 FG'Q9 F'Q9 N'Q9 B'Q9 X'Q9 T'Q9 l1Q9; (try dsimp only); (try k_lift B'Q9); (try k_fold)))
  trivial
theorem lev_same (w : World) (mean : ExcName → Option Value) (mg mb : Str → Option Value) (news : List (Addr × Obj)) (la lb : List Nat) (t u v : Tok) (e : la = lb) :
    Con 40 300 w mean mg mb 52 news [.str (strL la) t, .str (strL lb) u, .int 99 v] (fun h₀ L m s Q => ∀ t' h' tk', Fr h₀ L h' m → News h₀ L h' news → Q (.int 0 t') { s with heap := h', toks := tk' }) := by
  have a0 : (strL la == strL lb) = true := by rw [e]; simp
  dsimp only [Con, pr, lsV]; k_fill
  intros; rename_i hret
  walk_at "con_enter"
  k_steps
  · exact hret _ _ _ (by assumption) (by assumption)
  all_goals (exfalso; simp_all)
theorem lett_small {start ring p : Nat} : 97 ≤ lett start ring p ∧ lett start ring p < 123 := by unfold lett; lia
theorem letts_small {start ring p n : Nat} : ∀ x ∈ letts start ring p n, 97 ≤ x ∧ x < 123 := fun x hx => by
  obtain ⟨i, _, rfl⟩ := List.mem_map.mp hx
  exact lett_small
theorem nxt_zero {size ring : Nat} (h : size % ring = 0) : nxt size ring = 0 := by unfold nxt; rw [h]; exact Nat.zero_min _
/-- the distance of the two whole rows -/
theorem lev_law (w : World) (mean : ExcName → Option Value) (mg mb : Str → Option Value) (news : List (Addr × Obj)) (start ring head size : Nat) (t u v : Tok) (h0 : 0 < ring) (h1 : ring ≤ 8) (h2 : ring ≤ size) (h3 : size ≤ 13) :
    Con 40 300 w mean mg mb 52 news [.str (strL (letts start ring head size)) t, .str (strL (letts start ring (head + size) size)) u, .int 99 v] (fun h₀ L m s Q => ∀ t' h' tk', Fr h₀ L h' m → News h₀ L h' news → Q (.int (4 * (nxt size ring : Int)) t') { s with heap := h', toks := tk' }) := by
  by_cases hm : size % ring = 0
  · rw [nxt_zero hm]
    exact lev_same w mean mg mb news _ _ t u v (letts_eq hm)
  · rw [← lv_is (start := start) (head := head) h0 h1 h2 h3 hm]
    refine lev_con w mean mg mb news size _ _ t u v letts_len letts_len (by lia) h3 letts_small letts_small ?_ ?_
    · rw [letts_at (by lia), letts_at (by lia)]
      exact lett_ne h0 h1 hm
    · rw [letts_at (by lia), letts_at (by lia), show head + size + (size - 1) = (head + (size - 1)) + size by lia]
      exact lett_ne h0 h1 hm
/-- where the loop ends -/
noncomputable def finF : Nat → Nat → Nat → Nat
  | 0, s, _ => s
  | k + 1, s, r => if r = 0 then s else finF k r (nxt s r)
theorem less_nxt : ∀ ring : Nat, ring < 9 → 0 < ring → ∀ size : Nat, size < 14 → lessF (size : Int) ring = (nxt size ring : Int) := by decide +kernel
theorem nxt_lt {size ring : Nat} (h : 0 < ring) : nxt size ring < ring := by
  unfold nxt
  exact Nat.lt_of_le_of_lt (Nat.min_le_left _ _) (Nat.mod_lt _ h)
/-- the common divisors, going up -/
noncomputable def comm (s r : Nat) : List Nat := (List.range 13).filter fun i => s % (i + 1) == 0 && r % (i + 1) == 0
theorem fin_max : ∀ r : Nat, r < 9 → 1 < r → ∀ s : Nat, s < 14 → r ≤ s → ((comm s r).map (fun i => i + 1)).foldl max 0 = finF 9 s r := by decide +kernel
theorem few_len : ∀ r : Nat, r < 9 → 1 < r → ∀ s : Nat, s < 14 → r ≤ s → ((restsF 9 (s : Int) r).length : Int) = fewF 8 s r := by decide +kernel
section
variable {prog : Program} {w : World} {A : Around} {E : Value → Shared → Prop} {s : Shared} {env : Env} {h₀ : Heap} {L : Addr} {m : Str → Option Value} {news : List (Addr × Obj)}
noncomputable def WStepG (J : Nat → Shared → Prop) (Q : Flow → Shared → Prop) (n : Nat) (f : Flow) (s₃ : Shared) : Prop :=
  match f with
  | .next | .cont => ∃ n', n' < n ∧ J n' s₃
  | .brk => Q .next s₃
  | .ret v => Q (.ret v) s₃
theorem While_G {Q : Flow → Shared → Prop} {test : PySem.Expr} {body : List Stmt} {pos : Pos} (J : Nat → Shared → Prop) (n₀ : Nat) (hJ : J n₀ s)
    (turn : ∀ n s', J n s' → wpAny (model prog w) A (isTrue test env (eval test env)) (fun b s₂ => if b = true then wpAny (model prog w) A (execs body env) (WStepG J Q n) E s₂ else Q .next s₂) E s')
    (hE : PassesOwn (model prog w) A env E := by passes_own) : wpAny (model prog w) A (exec (.While test body [] pos) env) Q E s := by
  refine wpAny_While (codeAny_whileLoop J ?_ n₀ hJ)
  intro n s' J₁
  refine wpAny_mono (turn n s' J₁) (fun b s₂ h₂ => ?_) hE
  cases b with
  | false =>
    simp only [Bool.false_eq_true, if_false] at h₂ ⊢
    exact wpAny_execs_nil h₂
  | true =>
    simp only [if_true] at h₂ ⊢
    refine wpAny_mono h₂ (fun f s₃ h₃ => ?_) hE
    cases f with
    | next => exact h₃
    | cont => exact h₃
    | brk => exact h₃
    | ret v => exact h₃
theorem strs3_ok {a b c : Str} (ha : PyData.strOk a = true) (hb : PyData.strOk b = true) (hc : PyData.strOk c = true) : SeqAt.shaped (PyData.list [.str a, .str b, .str c]) = true := by
  simp [SeqAt.shaped, PyData.canLay0, PyData.canLayAll0, PyData.depth, PyData.depthAll, ha, hb, hc]
theorem letts_ok {start ring p n : Nat} : PyData.strOk (strL (letts start ring p n)) = true := by
  have A : ∀ j, j < 26 → PyData.strOk ⟨#[97 + j]⟩ = true := fun j hj => (TypedSign.facts (c := 97 + j) (j := j) ⟨hj, .inl rfl⟩).2.2.2.1
  have key : ∀ l : List Nat, (∀ x ∈ l, 97 ≤ x ∧ x < 123) → PyData.strOk (strL l) = true := by
    intro l hl
    have : ∀ x ∈ l, PyData.strOk ⟨#[x]⟩ = true := fun x hx => by
      have h := hl x hx
      have := A (x - 97) (by lia)
      rwa [show 97 + (x - 97) = x by lia] at this
    unfold PyData.strOk at this ⊢
    simp only [Array.all_eq_true', List.mem_toArray, List.mem_cons, List.not_mem_nil, or_false, forall_eq] at this ⊢
    exact this
  exact key _ letts_small
theorem rows_ne {a b : Addr} {x y z : List Nat} {ta tb tc ta' tb' tc' : Tok} {c c' : Nat} {Q : Value → Shared → Prop} (N : News h₀ L s.heap news) (ha : (a, W.listOf #[.str (strL x) ta, .str (strL y) tb, .str (strL z) tc] c) ∈ news) (hb : (b, W.listOf #[.str (strL x) ta', .str (strL y) tb', .str (strL z) tc'] c') ∈ news)
    (hx : PyData.strOk (strL x) = true) (hy : PyData.strOk (strL y) = true) (hz : PyData.strOk (strL z) = true) (hu : A.units + 64 < cLine) (h : Q (.bool false) s) : wpAny (model prog w) A (compareOp .NotEq (.ref a) (.ref b)) Q E s := by
  refine ne_dataH (da := .list [.str (strL x), .str (strL y), .str (strL z)]) (db := .list [.str (strL x), .str (strL y), .str (strL z)]) (reads_list_at (N _ ha).1 rfl rfl (ReadsAll.cons (Reads.str _ _) (ReadsAll.cons (Reads.str _ _) (ReadsAll.cons (Reads.str _ _) ReadsAll.nil)))) (reads_list_at (N _ hb).1 rfl rfl (ReadsAll.cons (Reads.str _ _) (ReadsAll.cons (Reads.str _ _) (ReadsAll.cons (Reads.str _ _) ReadsAll.nil)))) (strs3_ok hx hy hz) (strs3_ok hx hy hz) hu ?_
  have e : PyData.eqv (.list [.str (strL x), .str (strL y), .str (strL z)]) (.list [.str (strL x), .str (strL y), .str (strL z)]) = true := by
    simp [PyData.eqv, PyData.eqvAll]
  rw [e]; exact h
theorem intsV : ∀ us : List (Int × Tok), IntsAre (us.map fun p => Value.int p.1 p.2) (us.map (·.1))
  | [] => .nil
  | p :: us => .cons _ _ (intsV us)
theorem rests_eq {a b : Addr} {us vs : List (Int × Tok)} {c c' : Nat} {Q : Value → Shared → Prop} (N : News h₀ L s.heap news) (ha : (a, W.listOf (rowV us) c) ∈ news) (hb : (b, W.listOf (rowV vs) c') ∈ news) (e : us.map (·.1) = vs.map (·.1)) (hu : A.units + 64 < cLine)
    (h : Q (.bool true) s) : wpAny (model prog w) A (compareOp .Eq (.ref a) (.ref b)) Q E s := by
  refine eq_intsK (vs := us.map fun p => Value.int p.1 p.2) (us := vs.map fun p => Value.int p.1 p.2) ⟨_, (N _ ha).1, rfl, _, rfl⟩ (intsV us) ⟨_, (N _ hb).1, rfl, _, rfl⟩ (intsV vs) hu ?_
  rw [decide_eq_true e]; exact h
theorem last_K {value slice : PySem.Expr} {l : Addr} {us : List (Int × Tok)} {x : Int} {tx u : Tok} {c : Nat} {k : Int} {Q : Value → Shared → Prop} (N : News h₀ L s.heap news) (hl : (l, W.listOf ((rowV us).push (.int x tx)) c) ∈ news) (hk : k = -1) (h : Q (.int x tx) s)
    (hs : subscripted slice false (.ref l) (.int k u) = operate [.ref l, .int k u] (getItem (.ref l) (.int k u))) (hg : ∀ r, letTemporaryGo value (.ref l) r = pure ()) :
    wpAny (model prog w) A (subscriptTail value slice (.ref l) (.int k u)) Q E s := by
  subst hk
  have z : s.heap.IsList l ((rowV us).push (.int x tx)) := ⟨_, (N _ hl).1, rfl, _, rfl⟩
  refine subscriptTail_builtin z.typeIs slot_list_getitem.lookup (wpAny_getItem_list_neg z (by decide) (by rw [Array.size_push]; lia) (by decide) ?_ h) hs hg
  rw [Array.size_push, show ((-1 : Int) + ((rowV us).size + 1 : Nat)).toNat = (rowV us).size by lia]
  exact Array.getElem?_push_size
end
end Mine
end
section
open PySem PySem.W PyProof.Rows PySem.Calls PySem.Spec
set_option Elab.async false
set_option maxRecDepth 100000
set_option maxHeartbeats 400000
namespace Mine
theorem none_LgE : True := by w_top off; k_with_none; trivial
theorem rows_conI (w : World) (mean : ExcName → Option Value) (mg mb : Str → Option Value) (rest : List (Addr × Obj)) (ps qs : Array Value) (l : Addr) (zs zr zh : Int) (room : Int) (n0 n1 n2 n3 : Int) (c : Nat) (t u v z t0 t1 t2 t3 : Tok) (hm : (l, numsO n0 n1 n2 n3 t0 t1 t2 t3 c) ∈ rest)
    (hr : ∀ p ∈ rest, p.1 ≠ 176 ∧ p.1 ≠ 183) (TT : Tabs ps qs)
    (hs0 : 1 ≤ zs) (hs1 : zs ≤ 13) (hg0 : 1 ≤ zr) (hg1 : zr ≤ 8) (hh0 : 1 ≤ zh) (hh1 : zh ≤ 14) (r0 : 0 ≤ room) (r1 : room + 2 * zh ≤ 2 * zs + 1) (r2 : 2 * zs ≤ room + 2 * zh) (hn1 : 0 ≤ n1) (hn1' : n1 ≤ 100000000) (hn2 : 0 ≤ n2) (hn2' : n2 ≤ 100000000) :
    ConG 100 500 w mean mg mb 283 ((176, tabObj ps) :: (183, tabObj qs) :: rest) [.int zs t, .int zr u, .int zh v, .int room z, .ref l]
      (fun h₀ L m s Q => ∀ (D : Addr) (ta tb tc : Tok) (ps qs : Array Value) (h' : Heap) (g' : Array GenState) (d' : Drawn) (tk' : Nat), Tabs ps qs → Fr h₀ L h' m → (∀ p ∈ (176, tabObj ps) :: (183, tabObj qs) :: rest, p.1 ≠ D) →
        News h₀ L h' ((D, LCg.lst [.str (strL (letts n1.toNat zr.toNat 0 zh.toNat)) ta, .str (strL (letts n1.toNat zr.toNat zh.toNat zs.toNat)) tb, .str (strL (letts n1.toNat zr.toNat (zh.toNat + zs.toNat) zs.toNat)) tc]) :: (176, tabObj ps) :: (183, tabObj qs) :: rest) → AllBare g' → Q (.ref D) ⟨h', g', d', tk', s.os⟩) := by
  obtain ⟨a, rfl⟩ : ∃ a : Nat, zs = a := ⟨zs.toNat, by lia⟩
  obtain ⟨b, rfl⟩ : ∃ b : Nat, zr = b := ⟨zr.toNat, by lia⟩
  obtain ⟨d, rfl⟩ : ∃ d : Nat, zh = d := ⟨zh.toNat, by lia⟩
  exact rows_con w mean mg mb rest ps qs l a b d room n0 n1 n2 n3 c t u v z t0 t1 t2 t3 hm hr TT (by lia) (by lia) (by lia) (by lia) (by lia) (by lia) r0 r1 r2 hn1 hn1' hn2 hn2'
theorem told_conI (w : World) (mean : ExcName → Option Value) (mg mb : Str → Option Value) (news : List (Addr × Obj)) (zs zr zh : Int) (n1 : Int) (t u v z : Tok) (hs0 : 1 ≤ zs) (hs1 : zs ≤ 13) (hg0 : 1 ≤ zr) (hg1 : zr ≤ 8) (hh0 : 1 ≤ zh) (hh1 : zh ≤ 14) (hn1 : 0 ≤ n1) (hn1' : n1 ≤ 100000000) :
    Con 20 100 w mean mg mb 288 news [.int zs t, .int zr u, .int zh v, .int n1 z] (fun h₀ L m s Q => ∀ D ta tb tc h' tk', (∀ p ∈ news, p.1 ≠ D) → Fr h₀ L h' m → News h₀ L h' ((D, W.listOf #[.str (strL (letts n1.toNat zr.toNat 0 zh.toNat)) ta, .str (strL (letts n1.toNat zr.toNat zh.toNat zs.toNat)) tb, .str (strL (letts n1.toNat zr.toNat (zh.toNat + zs.toNat) zs.toNat)) tc] 0) :: news) → Q (.ref D) { s with heap := h', toks := tk' }) := by
  obtain ⟨a, rfl⟩ : ∃ a : Nat, zs = a := ⟨zs.toNat, by lia⟩
  obtain ⟨b, rfl⟩ : ∃ b : Nat, zr = b := ⟨zr.toNat, by lia⟩
  obtain ⟨d, rfl⟩ : ∃ d : Nat, zh = d := ⟨zh.toNat, by lia⟩
  exact told_con w mean mg mb news a b d n1 t u v z (by lia) (by lia) (by lia) (by lia) (by lia) (by lia) hn1 hn1'
section
variable {prog : Program} {w : World} {A : Around} {s : Shared} {h₀ : Heap} {L : Addr} {m : Str → Option Value} {env : Env} {ct elt : PySem.Expr} {x : Str} {scope : Scope} {cl : List (Str × Addr)} {S : List (Addr × Obj) → Prop} {Fin : List Value → List (Addr × Obj) → Prop} {news : List (Addr × Obj)}
/-- a comprehension over a range with a test: the places that pass -/
theorem filt_rest {n : Nat} {a : Int} (c : Nat → Bool)
    (turn : ∀ (i : Nat) t I oI C oC D m₂ ys h tk (E' : Value → Shared → Prop), i < n → LCg.NsObj oC m₂ → m₂ x = some (.int (a + i) t) → Fr h₀ L h m → News h₀ L h ((I, oI) :: (C, oC) :: (D, LCg.lst ys) :: news) → LCg.Off3 I C D news → ((@Ne Nat I C) ∧ (@Ne Nat I D) ∧ (@Ne Nat C D)) →
      wpAny (model prog w) A (isTrue ct (compEnvC scope cl C env) (eval ct (compEnvC scope cl C env))) (fun ok s' => if ok = true then
        wpAny (model prog w) A (eval elt (compEnvC scope cl C env)) (LCg.CompEnd h₀ L m { s with heap := h, toks := tk } I oI C oC D (LCg.lst ys) S (fun y news' => news' = news ∧ c i = true ∧ ∃ t, y = .int (a + i) t)) E' s'
        else LCg.CompEnd h₀ L m { s with heap := h, toks := tk } I oI C oC D (LCg.lst ys) S (fun _ news' => news' = news ∧ c i = false) Value.none s') E' { s with heap := h, toks := tk })
    (fin : ∀ us : List (Int × Tok), us.map (·.1) = ((List.range n).filter c).map (fun (i : Nat) => a + (i : Int)) → Fin (us.map fun p => .int p.1 p.2) news) :
    LCt.CompRestT prog w A h₀ L m env ct elt x scope cl s S (fun i v => ∃ t, v = .int (a + (i : Int)) t) Fin n 0 [] news := by
  have key : ∀ (j i : Nat) (us : List (Int × Tok)), i + j = n → us.map (·.1) = ((List.range i).filter c).map (fun (i : Nat) => a + (i : Int)) →
      LCt.CompRestT prog w A h₀ L m env ct elt x scope cl s S (fun i v => ∃ t, v = .int (a + (i : Int)) t) Fin j i (us.map fun p => .int p.1 p.2) news := by
    intro j
    induction j with
    | zero =>
      intro i us hi hu
      obtain rfl : i = n := by lia
      exact LCt.CompRestT.zero (fin us hu)
    | succ j ih =>
      intro i us hi hu
      refine LCt.CompRestT.succ ?_
      intro v I oI C oC D m₂ h tk E' hv hC hx F N off ne
      obtain ⟨t, rfl⟩ := hv
      refine wpAny_mono (turn i t I oI C oC D m₂ _ h tk E' (by lia) hC hx F N off ne) (fun ok s₂ hq => ?_) fun _ _ e => e
      cases ok with
      | true =>
        simp only [if_true] at hq ⊢
        refine wpAny_mono hq (fun y s₃ hz => ?_) fun _ _ e => e
        obtain ⟨h', tk', nw, e, F', N', off', hS, hn, hc, t', rfl⟩ := hz
        subst hn
        refine ⟨h', tk', _, e, F', N', off', hS, ?_⟩
        have e2 : (us.map fun p => Value.int p.1 p.2) ++ [Value.int (a + i) t'] = (us ++ [(a + (i : Int), t')]).map fun p => Value.int p.1 p.2 := by simp
        show LCt.CompRestT prog w A h₀ L m env ct elt x scope cl s S _ Fin j (i + 1) ((us.map fun p => Value.int p.1 p.2) ++ [Value.int (a + i) t']) _
        rw [e2]
        refine ih (i + 1) _ (by lia) ?_
        rw [List.map_append, hu, List.range_succ, List.filter_append, List.map_append]
        simp [hc]
      | false =>
        simp only [Bool.false_eq_true, if_false] at hq ⊢
        obtain ⟨h', tk', nw, e, F', N', off', hS, hn, hc⟩ := hq
        subst hn
        refine ⟨h', tk', _, e, F', N', off', hS, ih (i + 1) us (by lia) ?_⟩
        rw [hu, List.range_succ, List.filter_append]
        simp [hc]
  exact key n 0 [] (by lia) rfl
end
/-- the common divisors of s and r -/
noncomputable def divs (s r : Nat) : List Int := ((List.range 13).filter fun i => s % (i + 1) == 0 && r % (i + 1) == 0).map fun (i : Nat) => 1 + (i : Int)
theorem fin_in0 : ∀ r : Nat, r < 9 → 1 < r → ∀ s : Nat, s < 14 → r ≤ s → (divs s r).elem (finF 9 s r : Int) = true := by decide +kernel
theorem fin_in (r : Nat) (h1 : r < 9) (h2 : 1 < r) (s : Nat) (h3 : s < 14) (h4 : r ≤ s) : (finF 9 s r : Int) ∈ divs s r := List.elem_iff.mp (fin_in0 r h1 h2 s h3 h4)
theorem fin_le : ∀ r : Nat, r < 9 → 1 < r → ∀ s : Nat, s < 14 → r ≤ s → ∀ a ∈ divs s r, a ≤ (finF 9 s r : Int) := by decide +kernel
theorem fin_is {r s : Nat} {M : Int} (h1 : r < 9) (h2 : 1 < r) (h3 : s < 14) (h4 : r ≤ s) (hM : M ∈ divs s r) (hle : ∀ a ∈ divs s r, a ≤ M) : M = (finF 9 s r : Int) :=
  Int.le_antisymm (fin_le r h1 h2 s h3 h4 M hM) (hle _ (fin_in r h1 h2 s h3 h4))
theorem div_test {s r : Nat} {i : Nat} : ((s % (i + 1) == 0 && r % (i + 1) == 0) = true) ↔ (Int.fmod (s : Int) (1 + (i : Int)) = 0 ∧ Int.fmod (r : Int) (1 + (i : Int)) = 0) := by
  have e : ∀ n : Nat, Int.fmod (n : Int) (1 + (i : Int)) = ((n % (i + 1) : Nat) : Int) := fun n => by
    rw [Int.fmod_eq_emod_of_nonneg _ (by lia), show (1 : Int) + (i : Int) = ((i + 1 : Nat) : Int) by lia]
    exact (Int.natCast_emod n (i + 1)).symm
  rw [e, e, Bool.and_eq_true, beq_iff_eq, beq_iff_eq]
  lia
theorem mod4 {k : Int} : Int.fmod (4 * k) 4 = 0 := by rw [Int.fmod_eq_emod_of_nonneg _ (by decide)]; lia
theorem div4 {k : Int} : Int.fdiv (4 * k) 4 = k := by rw [Int.fdiv_eq_ediv_of_nonneg _ (by decide)]; lia
theorem room_ok {n : Int} {s : Int} (h : 1 ≤ s) : 0 ≤ Int.fmod n (2 * s - 1) ∧ Int.fmod n (2 * s - 1) ≤ 2 * s - 2 := by
  have h0 : 0 < 2 * s - 1 := by lia
  have := Int.fmod_nonneg_of_pos n h0
  have := Int.fmod_lt_of_pos n h0
  lia
theorem head_ok {s room : Int} (h0 : 0 ≤ room) (h1 : room ≤ 2 * s - 2) (hs : s ≤ 13) : 1 ≤ Int.fdiv (2 * s + 1 - room) 2 ∧ Int.fdiv (2 * s + 1 - room) 2 ≤ 14 ∧ room + 2 * Int.fdiv (2 * s + 1 - room) 2 ≤ 2 * s + 1 ∧ 2 * s ≤ room + 2 * Int.fdiv (2 * s + 1 - room) 2 := by
  rw [Int.fdiv_eq_ediv_of_nonneg _ (by decide)]
  lia
end Mine
end
section
open PySem PySem.W PyProof.Rows PySem.Calls PySem.Spec
set_option Elab.async false
set_option maxRecDepth 100000
set_option maxHeartbeats 400000
namespace Mine
section
variable {w : World} {A : Around} {E : Value → Shared → Prop} {s : Shared} {h₀ : Heap} {L l : Addr} {news : List (Addr × Obj)} {value slice : PySem.Expr} {n0 n1 n2 n3 : Int} {t0 t1 t2 t3 : Tok} {c : Nat} {u : Tok} {Q : Value → Shared → Prop}
theorem num0_K (N : News h₀ L s.heap news) (hl : (l, numsO n0 n1 n2 n3 t0 t1 t2 t3 c) ∈ news) (h : Q (.int n0 t0) s) (hs : subscripted slice false (.ref l) (.int 0 u) = operate [.ref l, .int 0 u] (getItem (.ref l) (.int 0 u)) := by with_unfolding_all rfl) : wpAny (model pr w) A (subscriptTail value slice (.ref l) (.int 0 u)) Q E s :=
  list_at_K N hl (by decide) (by decide) rfl h hs
theorem num3_K (N : News h₀ L s.heap news) (hl : (l, numsO n0 n1 n2 n3 t0 t1 t2 t3 c) ∈ news) (h : Q (.int n3 t3) s) (hs : subscripted slice false (.ref l) (.int 3 u) = operate [.ref l, .int 3 u] (getItem (.ref l) (.int 3 u)) := by with_unfolding_all rfl) : wpAny (model pr w) A (subscriptTail value slice (.ref l) (.int 3 u)) Q E s :=
  list_at_K N hl (by decide) (by decide) rfl h hs
theorem rowA_K {x y z : Value} (N : News h₀ L s.heap news) (hl : (l, LCg.lst [x, y, z]) ∈ news) (h : Q y s) (hs : subscripted slice false (.ref l) (.int 1 u) = operate [.ref l, .int 1 u] (getItem (.ref l) (.int 1 u)) := by with_unfolding_all rfl) : wpAny (model pr w) A (subscriptTail value slice (.ref l) (.int 1 u)) Q E s :=
  list_at_K N (vs := #[x, y, z]) hl (by decide) (by decide) rfl h hs
theorem rowB_K {x y z : Value} (N : News h₀ L s.heap news) (hl : (l, LCg.lst [x, y, z]) ∈ news) (h : Q z s) (hs : subscripted slice false (.ref l) (.int 2 u) = operate [.ref l, .int 2 u] (getItem (.ref l) (.int 2 u)) := by with_unfolding_all rfl) : wpAny (model pr w) A (subscriptTail value slice (.ref l) (.int 2 u)) Q E s :=
  list_at_K N (vs := #[x, y, z]) hl (by decide) (by decide) rfl h hs
theorem tup0_K {x y : Value} (N : News h₀ L s.heap news) (hl : (l, ({ cls := .type "tuple", data := .seq #[x, y] } : Obj)) ∈ news) (h : Q x s) (hs : subscripted slice false (.ref l) (.int 0 u) = operate [.ref l, .int 0 u] (getItem (.ref l) (.int 0 u)) := by with_unfolding_all rfl) (hg : ∀ r, letTemporaryGo value (.ref l) r = pure () := by intro _; with_unfolding_all rfl) : wpAny (model pr w) A (subscriptTail value slice (.ref l) (.int 0 u)) Q E s :=
  item_tuple ⟨_, (N _ hl).1, rfl, _, rfl⟩ (by decide) (by decide) (j := 0) rfl rfl h hs hg
theorem tup1_K {x y : Value} (N : News h₀ L s.heap news) (hl : (l, ({ cls := .type "tuple", data := .seq #[x, y] } : Obj)) ∈ news) (h : Q y s) (hs : subscripted slice false (.ref l) (.int 1 u) = operate [.ref l, .int 1 u] (getItem (.ref l) (.int 1 u)) := by with_unfolding_all rfl) (hg : ∀ r, letTemporaryGo value (.ref l) r = pure () := by intro _; with_unfolding_all rfl) : wpAny (model pr w) A (subscriptTail value slice (.ref l) (.int 1 u)) Q E s :=
  item_tuple ⟨_, (N _ hl).1, rfl, _, rfl⟩ (by decide) (by decide) (j := 1) rfl rfl h hs hg
theorem len_K {us : List (Int × Tok)} {z : Int} (N : News h₀ L s.heap news) (hl : (l, W.listOf (rowV us) c) ∈ news) (e : (us.length : Int) = z) (hz : z < 100) (h : ∀ t tk, Q (.int z t) { s with toks := tk }) : wpAny (model pr w) A (call (.builtin "len") [.ref l]) Q E s := by
  have e2 : ((rowV us).size : Int) = z := by rw [← e]; simp [rowV]
  refine Calls.call_len_list (items := rowV us) ⟨_, (N _ hl).1, rfl, _, rfl⟩ (by rw [e2]; lia) ?_
  rw [e2]
  exact h _ _
end
structure LawJ (base : Heap) (L la D Bt cb : Addr) (nO bt ob : Obj) (os : OsState) (s0 r0 : Nat) (n : Nat) (s' : Shared) : Prop where
  out : ∃ (h : Heap) (g : Array GenState) (d : Drawn) (tk : Nat) (m' : Str → Option Value) (size ring : Nat) (ts tr : Tok) (us : List (Int × Tok)) (c : Nat) (ps qs : Array Value), s' = ⟨h, g, d, tk, os⟩ ∧ AllBare g ∧ Tabs ps qs ∧ Fr base L h m' ∧
    News base L h ((176, tabObj ps) :: (183, tabObj qs) :: (la, W.listOf (rowV us) c) :: (D, nO) :: (Bt, bt) :: (cb, ob) :: []) ∧
    m' (Str.ofString "size") = some (.int (size : Int) ts) ∧ m' (Str.ofString "ring") = some (.int (ring : Int) tr) ∧ m' (Str.ofString "numbers") = some (.ref D) ∧ m' (Str.ofString "aparts") = some (.ref la) ∧
    ring ≤ n ∧ n ≤ 8 ∧ ring ≤ size ∧ 1 ≤ size ∧ size ≤ 13 ∧ us.map (·.1) ++ restsF (n + 1) size ring = restsF 9 s0 r0 ∧ finF (n + 1) size ring = finF 9 s0 r0 ∧ us.length + n ≤ 8
theorem LawJ.step {base : Heap} {L la D Bt cb : Addr} {nO bt ob : Obj} {os : OsState} {s0 r0 n : Nat} {h : Heap} {g : Array GenState} {d : Drawn} {tk : Nat} {m' : Str → Option Value} {size ring : Nat} {ts tr tx : Tok} {us : List (Int × Tok)} {c : Nat} {ps qs : Array Value} {x y : Int}
    (G : AllBare g) (T : Tabs ps qs) (F : Fr base L h m') (N : News base L h ((176, tabObj ps) :: (183, tabObj qs) :: (la, W.listOf ((rowV us).push (.int x tx)) c) :: (D, nO) :: (Bt, bt) :: (cb, ob) :: []))
    (e1 : m' (Str.ofString "size") = some (.int (ring : Int) ts)) (e2 : m' (Str.ofString "ring") = some (.int y tr)) (e3 : m' (Str.ofString "numbers") = some (.ref D)) (e4 : m' (Str.ofString "aparts") = some (.ref la))
    (hx : x = 4 * (nxt size ring : Int)) (hy : y = (nxt size ring : Int)) (hz : 0 < ring) (b0 : ring ≤ n + 1) (b1 : n + 1 ≤ 8) (b2 : ring ≤ size) (b3 : size ≤ 13)
    (hr : us.map (·.1) ++ restsF (n + 1 + 1) size ring = restsF 9 s0 r0) (hf : finF (n + 1 + 1) size ring = finF 9 s0 r0) (hl : us.length + (n + 1) ≤ 8) :
    LawJ base L la D Bt cb nO bt ob os s0 r0 n ⟨h, g, d, tk, os⟩ := by
  subst hx; subst hy
  have hlt := nxt_lt (size := size) hz
  refine ⟨h, g, d, tk, m', ring, nxt size ring, ts, tr, us ++ [(4 * (nxt size ring : Int), tx)], c, ps, qs, rfl, G, T, F, ?_, e1, e2, e3, e4, by lia, by lia, by lia, by lia, by lia, ?_, ?_, ?_⟩
  · have : rowV (us ++ [(4 * (nxt size ring : Int), tx)]) = (rowV us).push (.int (4 * (nxt size ring : Int)) tx) := by simp [rowV]
    rw [this]; exact N
  · have e : restsF (n + 1 + 1) (size : Int) ring = 4 * lessF size ring :: restsF (n + 1) ring (lessF size ring) := by conv => lhs; unfold restsF; rw [if_neg (by lia)]
    rw [e, less_nxt ring (by lia) hz size (by lia)] at hr
    rw [← hr]; simp
  · have e : finF (n + 1 + 1) size ring = finF (n + 1) ring (nxt size ring) := by conv => lhs; unfold finF; rw [if_neg (by lia)]
    rw [← hf, e]
  · simp; lia
theorem news_pick {h₀ h : Heap} {L : Addr} {e0 e1 e2 e3 e4 e5 e6 e7 e8 e9 e10 : Addr × Obj} (N : News h₀ L h [e0, e1, e2, e3, e4, e5, e6, e7, e8, e9, e10]) : News h₀ L h [e9, e10, e1, e3, e2, e7] := fun p hp => N p (by
  simp only [List.mem_cons, List.not_mem_nil, or_false] at hp ⊢
  rcases hp with rfl | rfl | rfl | rfl | rfl | rfl <;> simp)
theorem off_tab {h₀ h : Heap} {L l a : Addr} {o : Obj} {ps : Array Value} {news : List (Addr × Obj)} (N : News h₀ L h news) (h1 : (l, tabObj ps) ∈ news) (h2 : (a, o) ∈ news) (hne : o ≠ tabObj ps) : a ≠ l := by
  rintro rfl
  have := (N _ h1).1
  rw [(N _ h2).1] at this
  exact hne (Option.some.inj this)
theorem rest4 {h₀ h : Heap} {L a b c d : Addr} {o1 o2 o3 o4 : Obj} {ps qs : Array Value} {v : Option Value} (N : News h₀ L h [(176, tabObj ps), (183, tabObj qs), (a, o1), (b, o2), (c, o3), (d, o4)]) (h1 : ∀ r, o1 ≠ tabObj r) (h2 : ∀ r, o2 ≠ tabObj r) (h3 : ∀ r, o3 ≠ tabObj r) (h4 : o4.data = .cell v) :
    ∀ p ∈ [(a, o1), (b, o2), (c, o3), (d, o4)], p.1 ≠ 176 ∧ p.1 ≠ 183 := fun p hp => by
  have h4 : ∀ r, o4 ≠ tabObj r := fun r e => by rw [e] at h4; cases h4
  simp only [List.mem_cons, List.not_mem_nil, or_false] at hp
  rcases hp with rfl | rfl | rfl | rfl
  · exact ⟨off_tab N (.head _) (by simp) (h1 _), off_tab N (.tail _ (.head _)) (by simp) (h1 _)⟩
  · exact ⟨off_tab N (.head _) (by simp) (h2 _), off_tab N (.tail _ (.head _)) (by simp) (h2 _)⟩
  · exact ⟨off_tab N (.head _) (by simp) (h3 _), off_tab N (.tail _ (.head _)) (by simp) (h3 _)⟩
  · exact ⟨off_tab N (.head _) (by simp) (h4 _), off_tab N (.tail _ (.head _)) (by simp) (h4 _)⟩
theorem no_more {size ring : Nat} (h : (ring : Int) ≠ 0) (a : (ring : Int) ≤ Int.fdiv (4 * (nxt (size : Int).toNat (ring : Int).toNat : Int)) 4) : False := by
  rw [div4] at a
  simp only [Int.toNat_natCast] at a
  have := nxt_lt (size := size) (ring := ring) (by lia)
  lia
theorem max_fin {prog : Program} {w : World} {A : Around} {E : Value → Shared → Prop} {s : Shared} {h₀ : Heap} {L : Addr} {m : Str → Option Value} {news : List (Addr × Obj)} {l : Addr} {us : List (Int × Tok)} {s0 r0 : Nat} {Q : Value → Shared → Prop} (hh : A.handled = none) (F : Fr h₀ L s.heap m) (N : News h₀ L s.heap news)
    (hl : (l, LCg.lst (us.map fun p => .int p.1 p.2)) ∈ news) (e : us.map (·.1) = divs s0 r0) (b1 : r0 < 9) (b2 : 1 < r0) (b3 : s0 < 14) (b4 : r0 ≤ s0)
    (h : ∀ h' (t : Tok) tk, Fr h₀ L h' m → News h₀ L h' news → Q (.int (finF 9 s0 r0 : Int) t) { s with heap := h', toks := tk }) :
    wpAny (model prog w) A (call (.builtin "max") [.ref l]) Q E s := by
  refine max_list_N hh F N ⟨_, (N _ hl).1, rfl, _, rfl⟩ (intsV us) (by rw [e]; exact List.length_pos_of_mem (fin_in r0 b1 b2 s0 b3 b4)) fun h' M t tk F' N' hM hle => ?_
  rw [e] at hM hle
  rw [fin_is b1 b2 b3 b4 hM hle]
  exact h h' t tk F' N'
/-- the loop's end -/
theorem law_done {s0 r0 n size : Nat} {us : List (Int × Tok)} (h1 : r0 < 9) (h2 : 1 < r0) (h3 : s0 < 14) (h4 : r0 ≤ s0) (hr : us.map (·.1) ++ restsF (n + 1) size (0 : Nat) = restsF 9 s0 r0) (hf : finF (n + 1) size 0 = finF 9 s0 r0) :
    us.map (·.1) = restsF 9 s0 r0 ∧ size = finF 9 s0 r0 ∧ (us.length : Int) = fewF 8 s0 r0 := by
  have e : restsF (n + 1) (size : Int) (0 : Nat) = [] := by unfold restsF; rw [if_pos (show ((0 : Nat) : Int) = 0 from rfl)]
  rw [e, List.append_nil] at hr
  refine ⟨hr, ?_, ?_⟩
  · rw [← hf]; unfold finF; rw [if_pos rfl]
  · rw [← few_len r0 h1 h2 s0 h3 h4, ← hr, List.length_map]
end Mine
end
section
open PySem PySem.W PyProof.Rows PySem.Calls PySem.Spec
set_option Elab.async false
set_option maxRecDepth 100000
set_option maxHeartbeats 0
namespace Mine
theorem lines_LgB_1 : True := by
  w_top off
  k_with_none
  k_with "m9:room" => ktr_room
  k_with "m9:mem" => first | exact List.Mem.head _ | (refine' List.Mem.tail _ ?_; k_mem) | assumption
  k_with "m:eval Name" => dsimp only
  k_with "m:spliced" => dsimp only
  k_with "m:execs cons" => dsimp only
  k_with "m:eval Constant int" => dsimp only
  k_with "m:eval BinOp" => dsimp only
  k_with "m:execs nil" => dsimp only
  k_with "m:eval Call" => dsimp only
  k_with "m:storeName" => dsimp only
  k_with "m:exec Assign" => dsimp only
  k_with "m:callWith" => dsimp only
  k_with "m:eval Subscript" => dsimp only
  k_with "m:eval Call Attribute" => dsimp only
  k_with "m:evalPart none" => dsimp only
  k_with "m:truthy bool" => dsimp only
  k_with "m:callWith ref" => dsimp only
  k_with "m:call ref" => dsimp only
  k_with "m:isTrue Compare" => dsimp only
  k_with "m:getMethod ref" => dsimp only
  k_with "m:exec If" => dsimp only
  k_with "m:exec Return some" => dsimp only
  k_with "m:getAttr ref" => dsimp only
  k_with "m:eval Attribute Name" => dsimp only
  k_with "m:binaryOp Add int int" => dsimp only
  k_with "m:isTrue BoolOp" => dsimp only
  k_with "m:binaryOp Mod int int" => dsimp only
  k_with "m:subscriptTail Name Constant ref int" => dsimp only
  k_with "m:evalPart some" => dsimp only
  k_with "m:eval Slice" => dsimp only
  k_with "m:exec Expr" => dsimp only
  k_with "m:isTrue" => dsimp only
  k_with "m:eval Constant str" => dsimp only
  k_with "m:assignInOrder" => dsimp only
  k_with "m:call builtin:len" => dsimp only
  k_with "m:newTuple" => dsimp only
  k_with "m:eval Tuple" => dsimp only
  k_with "m:eval BoolOp" => dsimp only
  k_with "m:subscriptTail Name Slice str ref" => dsimp only
  k_with "m:getMethod str" => dsimp only
  k_with "m:setAttr ref" => dsimp only
  k_with "m:newList" => dsimp only
  k_with "m:eval List" => dsimp only
  k_with "m:binaryOp Mult int int" => dsimp only
  k_with "m:con_enter" => (refine wpAny_call ?_; k_dflt (first | cell_enter | (refine' code_defC ?k1Q8 ?k2Q8 ?k3Q8 ?k4Q8 ?k5Q8 ?kAQ8 ?kFQ8 ?kKQ8 ?k6Q8 ?k7Q8 ?k8Q8 ?k9Q8 ?kBQ8 ?kDQ8 ?_ ?c2Q8 ?c3Q8 ?c4Q8; (case kAQ8 => exact rfl); (case kFQ8 => exact rfl); (case kKQ8 => assumption); (case k1Q8 => k_asm); (case k2Q8 => k_asm); (case k3Q8 => k_asm); (case k4Q8 => k_asm); (case k5Q8 => k_asm); (case k6Q8 => k_is); (case k7Q8 => k_is); (case k8Q8 => ktr_room); (case k9Q8 => first | exact BindsTo.of_eq rfl | exact binds_K (by k_in) rfl (by k_is) rfl rfl rfl | fail "k_enter: no rule for these arguments"); (case kBQ8 => exact rfl); (case kDQ8 => decide +kernel); (case c2Q8 => exact rfl); (case c3Q8 => exact rfl); (case c4Q8 => exact rfl); k_whole; intro g'Q9 L'Q9 h'Q9 tk'Q9 cells'Q9 FG'Q9 F'Q9 N'Q9 Y'Q9 B'Q9 X'Q9 T'Q9 l1Q9; (try k_lt l1Q9); k_cells Y'Q9; (try simp only [List.cons_append, List.nil_append] at N'Q9); (try dsimp only); (try k_lift B'Q9); (try k_fold))))
  k_with "m:con_enterS" => (refine wpAny_call ?_; k_dflt (refine' code_defS ?k1Q8 ?k2Q8 ?k3Q8 ?k4Q8 ?k5Q8 ?kAQ8 ?kFQ8 ?kKQ8 ?k6Q8 ?k7Q8 ?k8Q8 ?k9Q8 ?kBQ8 ?_ ?c2Q8 ?c3Q8 ?c4Q8 ?c5Q8; (case kAQ8 => exact rfl); (case kFQ8 => exact rfl); (case kKQ8 => first | assumption | exact rfl); (case k1Q8 => k_asm); (case k2Q8 => k_asm); (case k3Q8 => k_asm); (case k4Q8 => k_asm); (case k5Q8 => k_asm); (case k6Q8 => k_is); (case k7Q8 => k_is); (case k8Q8 => ktr_room); (case k9Q8 => first | exact BindsTo.of_eq rfl | exact binds_K (by k_in) rfl (by k_is) rfl rfl rfl); (case c5Q8 => decide); (case kBQ8 => exact locs rfl); (case c2Q8 => exact rfl); (case c3Q8 => exact rfl); (case c4Q8 => exact rfl); k_whole; intro g'Q9 L'Q9 h'Q9 FG'Q9 F'Q9 N'Q9 B'Q9 X'Q9 T'Q9 l1Q9; (try dsimp only); (try k_lift B'Q9); (try k_fold)))
  k_with "m:con_enterT" => (k_dflt (refine' code_defS ?k1Q8 ?k2Q8 ?k3Q8 ?k4Q8 ?k5Q8 ?kAQ8 ?kFQ8 ?kKQ8 ?k6Q8 ?k7Q8 ?k8Q8 ?k9Q8 ?kBQ8 ?_ ?c2Q8 ?c3Q8 ?c4Q8 ?c5Q8; (case kAQ8 => exact rfl); (case kFQ8 => exact rfl); (case kKQ8 => first | assumption | exact rfl); (case k1Q8 => k_asm); (case k2Q8 => k_asm); (case k3Q8 => k_asm); (case k4Q8 => k_asm); (case k5Q8 => k_asm); (case k6Q8 => k_is); (case k7Q8 => k_is); (case k8Q8 => ktr_room); (case k9Q8 => first | exact BindsTo.of_eq rfl | exact binds_K (by k_in) rfl (by k_is) rfl rfl rfl); (case c5Q8 => decide); (case kBQ8 => exact locs rfl); (case c2Q8 => exact rfl); (case c3Q8 => exact rfl); (case c4Q8 => exact rfl); k_whole; intro g'Q9 L'Q9 h'Q9 FG'Q9 F'Q9 N'Q9 B'Q9 X'Q9 T'Q9 l1Q9; (try dsimp only); (try k_lift B'Q9); (try k_fold)))
  trivial
theorem off1_of {D : Addr} : ∀ {l : List (Addr × Obj)}, (∀ p ∈ l, p.1 ≠ D) → LCg.Off1 D l
  | [], _ => trivial
  | p :: l, h => ⟨h p (.head _), off1_of fun q hq => h q (.tail _ hq)⟩
theorem pow106 {w : World} {A : Around} {E : Value → Shared → Prop} {s : Shared} {t u : Tok} {Q : Value → Shared → Prop} (h : ∀ t', Q (.int 1000000 t') { s with toks := s.toks + 1 }) : wpAny (model pr w) A (binaryOp .Pow (.int 10 t) (.int 6 u)) Q E s :=
  pow_int_small (by decide) (by decide) (by decide) (h _)
theorem lines_LgB_2 : True := by
  k_with "m:binaryOp Pow int int" => (k_here; refine pow106 ?_; intro t106Q9)
  k_with "m:exec While" => (k_here; refine Halt.out ?_)
  k_with "m:exec Assign cons ListComp" => (k_here; (with_reducible show wpAny _ _ (exec (Stmt.Assign _ (PySem.Expr.ListComp _ [⟨.Tuple _ _ _, _, _, _⟩] _ _) _) _) _ _ _); with_unfolding_all refine' Assign_ListComp_E ?a0Q8 ?a1Q8 ?a2Q8 ?a3Q8 ?a4Q8 ?a5Q8 ?a6Q8 ?a7Q8 ?a8Q8 ?a9Q8 ?a10Q8 ?a11Q8 ?_; (case a0Q8 => k_asm); (case a1Q8 => rfl); (case a2Q8 => with_unfolding_all rfl); (case a3Q8 => with_unfolding_all rfl); (case a4Q8 => decide); (case a5Q8 => rfl); (case a6Q8 => decide); (case a7Q8 => rfl); (case a8Q8 => rfl); (case a9Q8 => decide); (case a10Q8 => rfl); (case a11Q8 => rfl))
  k_with "m:call type:enumerate" => (k_here; k_dflt (refine' enum_srcA (fun _ y => Small 100000000 y) ?k0Q8 ?k1Q8 ?k2Q8 ?k3Q8 ?k4Q8 ?_ ?_; (case k0Q8 => exact rfl); (case k1Q8 => k_asm); (case k2Q8 => k_asm); (case k3Q8 => k_mem); (case k4Q8 => exact (show (4 : Nat) ≤ sizeLine from by decide))))
  k_with "m:CompSrc" => (k_here; refine Halt.out ?_)
  k_with "m:call builtin:sum" => (k_here; k_dflt (refine' sum_K ?k0Q8 ?k1Q8 ?k2Q8 ?k3Q8 ?k4Q8 ?_; (case k0Q8 => exact rfl); (case k1Q8 => k_asm); (case k2Q8 => k_asm); (case k3Q8 => k_mem); (case k4Q8 => assumption); k_whole; intro k9Q9 t9Q9 h'Q9 tk'Q9 hk1'Q9 hk2'Q9 F'Q9 N'Q9))
  k_with "m:subscriptTail Name Slice ref ref" => (k_here; k_dflt (refine' cells_slice (s := ⟨_, _, _, _, _⟩) ?k1Q8 ?k2Q8 ?k3Q8 ?k4Q8 ?k5Q8 ?_ ?k6Q8 ?k7Q8; (case k1Q8 => k_asm); (case k2Q8 => k_asm); (case k3Q8 => k_mem); (case k4Q8 => assumption); (case k5Q8 => assumption); (case k6Q8 => with_unfolding_all rfl); (case k7Q8 => intro _; with_unfolding_all rfl); k_whole; intro a9Q9 its9Q9 h'Q9 hz'Q9 hs'Q9 F'Q9 N'Q9))
  k_with "m:call ref" => (k_here; k_dflt (first | ((with_reducible show wpAny _ _ (call (Value.ref 283) _) _ _ _); refine' rows_conI _ _ _ _ _ _ _ _ _ _ _ _ _ _ _ _ _ _ _ _ _ _ _ _ _ ?hmQ8 ?hrQ8 ?hTQ8 ?b1Q8 ?b2Q8 ?b3Q8 ?b4Q8 ?b5Q8 ?b6Q8 ?b7Q8 ?b8Q8 ?b9Q8 ?b10Q8 ?b11Q8 ?b12Q8 ?b13Q8 _ _ _ _ _ _ _ _ _ _ _ _ _ _ _ _ _ ?k1Q8 ?k2Q8 ?k3Q8 ?k4Q8 ?k5Q8 ?kKQ8 ?kGQ8 ?kdQ8 ?kuQ8 ?_; (case k1Q8 => k_asm); (case k2Q8 => k_asm); (case k3Q8 => k_asm); (case k4Q8 => k_asm); (case k5Q8 => k_asm); (case kKQ8 => first | exact rfl | assumption); (case kdQ8 => ktr_room); (case kuQ8 => first | ktr_units | (rw [tc_units]; dsimp only [ktrTop]; (first | (law_clear; lia) | omega))); (case kGQ8 => k_asm); (case hmQ8 => k_mem); (case hrQ8 => first | assumption | exact hr9); (case hTQ8 => assumption); (case b1Q8 => first | assumption | (first | (law_clear; lia) | omega)); (case b2Q8 => first | assumption | (first | (law_clear; lia) | omega)); (case b3Q8 => first | assumption | (first | (law_clear; lia) | omega)); (case b4Q8 => first | assumption | (first | (law_clear; lia) | omega)); (case b5Q8 => first | assumption | (first | (law_clear; lia) | omega)); (case b6Q8 => first | assumption | (first | (law_clear; lia) | omega)); (case b7Q8 => first | assumption | (first | (law_clear; lia) | omega)); (case b8Q8 => first | assumption | (first | (law_clear; lia) | omega)); (case b9Q8 => first | assumption | (first | (law_clear; lia) | omega)); (case b10Q8 => first | assumption | (first | (law_clear; lia) | omega)); (case b11Q8 => first | assumption | (first | (law_clear; lia) | omega)); (case b12Q8 => first | assumption | (first | (law_clear; lia) | omega)); (case b13Q8 => first | assumption | (first | (law_clear; lia) | omega)); k_whole; intro D2'Q9 ta'Q9 tb'Q9 tc'Q9 ps'Q9 qs'Q9 h'Q9 g'Q9 d'Q9 tk'Q9 T2'Q9 F'Q9 o2'Q9 N'Q9 G2'Q9; (have o3'Q9 := off1_of o2'Q9); (simp only [LCg.Off1, and_true] at o3'Q9); clear o2'Q9; (try k_sweep); (try dsimp only)) | ((with_reducible show wpAny _ _ (call (Value.ref 288) _) _ _ _); refine' told_conI _ _ _ _ _ _ _ _ _ _ _ _ _ ?b1Q8 ?b2Q8 ?b3Q8 ?b4Q8 ?b5Q8 ?b6Q8 ?b7Q8 ?b8Q8 _ _ _ _ _ _ _ _ _ _ _ _ _ _ _ _ _ ?k1Q8 ?k2Q8 ?k3Q8 ?k4Q8 ?k5Q8 ?kKQ8 ?kdQ8 ?kuQ8 ?_; (case k1Q8 => k_asm); (case k2Q8 => k_asm); (case k3Q8 => k_asm); (case k4Q8 => k_asm); (case k5Q8 => k_asm); (case kKQ8 => first | exact rfl | assumption); (case kdQ8 => ktr_room); (case kuQ8 => first | ktr_units | (rw [tc_units]; dsimp only [ktrTop]; (first | (law_clear; lia) | omega))); (case b1Q8 => first | assumption | (first | (law_clear; lia) | omega)); (case b2Q8 => first | assumption | (first | (law_clear; lia) | omega)); (case b3Q8 => first | assumption | (first | (law_clear; lia) | omega)); (case b4Q8 => first | assumption | (first | (law_clear; lia) | omega)); (case b5Q8 => first | assumption | (first | (law_clear; lia) | omega)); (case b6Q8 => first | assumption | (first | (law_clear; lia) | omega)); (case b7Q8 => first | assumption | (first | (law_clear; lia) | omega)); (case b8Q8 => first | assumption | (first | (law_clear; lia) | omega)); k_whole; intro D3'Q9 ta3'Q9 tb3'Q9 tc3'Q9 h'Q9 tk'Q9 o4'Q9 F'Q9 N'Q9; (have o5'Q9 := off1_of o4'Q9); (simp only [LCg.Off1, and_true] at o5'Q9); clear o4'Q9; (try k_sweep); (try dsimp only)) | ((with_reducible show wpAny _ _ (call (Value.ref 52) _) _ _ _); refine' lev_law _ _ _ _ _ _ _ _ _ _ _ _ ?b1Q8 ?b2Q8 ?b3Q8 ?b4Q8 _ _ _ _ _ _ _ _ _ _ _ _ _ _ _ _ _ ?k1Q8 ?k2Q8 ?k3Q8 ?k4Q8 ?k5Q8 ?kKQ8 ?kdQ8 ?kuQ8 ?_; (case k1Q8 => k_asm); (case k2Q8 => k_asm); (case k3Q8 => k_asm); (case k4Q8 => k_asm); (case k5Q8 => k_asm); (case kKQ8 => first | exact rfl | assumption); (case kdQ8 => ktr_room); (case kuQ8 => first | ktr_units | (rw [tc_units]; dsimp only [ktrTop]; (first | (law_clear; lia) | omega))); (case b1Q8 => first | assumption | (first | (law_clear; lia) | omega)); (case b2Q8 => first | assumption | (first | (law_clear; lia) | omega)); (case b3Q8 => first | assumption | (first | (law_clear; lia) | omega)); (case b4Q8 => first | assumption | (first | (law_clear; lia) | omega)); k_whole; intro t'Q9 h'Q9 tk'Q9 F'Q9 N'Q9; (try k_sweep); (try dsimp only)) | ((with_reducible show wpAny _ _ (call (Value.ref 295) _) _ _ _); refine' few_con 8 _ _ _ _ _ _ _ _ _ ?b1Q8 ?b2Q8 _ _ _ _ _ _ _ _ _ _ _ _ _ _ _ _ _ ?k1Q8 ?k2Q8 ?k3Q8 ?k4Q8 ?k5Q8 ?kKQ8 ?kdQ8 ?kuQ8 ?_; (case k1Q8 => k_asm); (case k2Q8 => k_asm); (case k3Q8 => k_asm); (case k4Q8 => k_asm); (case k5Q8 => k_asm); (case kKQ8 => first | exact rfl | assumption); (case kdQ8 => ktr_room); (case kuQ8 => first | ktr_units | (rw [tc_units]; dsimp only [ktrTop]; (first | (law_clear; lia) | omega))); (case b1Q8 => first | assumption | (first | (law_clear; lia) | omega)); (case b2Q8 => first | assumption | (first | (law_clear; lia) | omega)); k_whole; intro t'Q9 h'Q9 tk'Q9 F'Q9 N'Q9; (try k_sweep); (try dsimp only)) | ((with_reducible show wpAny _ _ (call (Value.ref 302) _) _ _ _); refine' rests_con _ _ _ _ _ _ _ 8 _ _ ?b1Q8 ?b2Q8 ?b3Q8 _ _ _ _ _ _ _ _ _ _ _ _ _ _ _ _ _ ?k1Q8 ?k2Q8 ?k3Q8 ?k4Q8 ?k5Q8 ?kKQ8 ?kdQ8 ?kuQ8 ?_; (case k1Q8 => k_asm); (case k2Q8 => k_asm); (case k3Q8 => k_asm); (case k4Q8 => k_asm); (case k5Q8 => k_asm); (case kKQ8 => first | exact rfl | assumption); (case kdQ8 => ktr_room); (case kuQ8 => first | ktr_units | (rw [tc_units]; dsimp only [ktrTop]; (first | (law_clear; lia) | omega))); (case b1Q8 => first | assumption | (first | (law_clear; lia) | omega)); (case b2Q8 => first | assumption | (first | (law_clear; lia) | omega)); (case b3Q8 => decide); k_whole; intro D4'Q9 us4'Q9 c4'Q9 h'Q9 tk'Q9 e4'Q9 o6'Q9 F'Q9 N'Q9; (try k_sweep); (try dsimp only))))
  k_with "m:memr" => first | (with_reducible exact List.mem_cons_self) | (refine' List.mem_cons_of_mem _ ?_; walk_at "memr")
  k_with "m:subscriptTail Name Constant ref int" => (k_here; (with_reducible show wpAny _ _ (subscriptTail _ _ (Value.ref _) (Value.int 0 _)) _ _ _); k_dflt (refine' num0_K ?k1Q8 ?k2Q8 ?_ ?k3Q8; (case k1Q8 => k_asm); (case k2Q8 => walk_at "memr"); (case k3Q8 => with_unfolding_all rfl); k_whole))
  k_with "m:subscriptTail Name Constant ref int" => (k_here; (with_reducible show wpAny _ _ (subscriptTail _ _ (Value.ref _) (Value.int 1 _)) _ _ _); k_dflt (refine' num1_K ?k1Q8 ?k2Q8 ?_ ?k3Q8; (case k1Q8 => k_asm); (case k2Q8 => walk_at "memr"); (case k3Q8 => with_unfolding_all rfl); k_whole))
  k_with "m:subscriptTail Name Constant ref int" => (k_here; (with_reducible show wpAny _ _ (subscriptTail _ _ (Value.ref _) (Value.int 2 _)) _ _ _); k_dflt (refine' num2_K ?k1Q8 ?k2Q8 ?_ ?k3Q8; (case k1Q8 => k_asm); (case k2Q8 => walk_at "memr"); (case k3Q8 => with_unfolding_all rfl); k_whole))
  k_with "m:subscriptTail Name Constant ref int" => (k_here; (with_reducible show wpAny _ _ (subscriptTail _ _ (Value.ref _) (Value.int 3 _)) _ _ _); k_dflt (refine' num3_K ?k1Q8 ?k2Q8 ?_ ?k3Q8; (case k1Q8 => k_asm); (case k2Q8 => walk_at "memr"); (case k3Q8 => with_unfolding_all rfl); k_whole))
  k_with "m:subscriptTail Name Constant ref int" => (k_here; (with_reducible show wpAny _ _ (subscriptTail _ _ (Value.ref _) (Value.int 1 _)) _ _ _); k_dflt (refine' rowA_K ?k1Q8 ?k2Q8 ?_ ?k3Q8; (case k1Q8 => k_asm); (case k2Q8 => walk_at "memr"); (case k3Q8 => with_unfolding_all rfl); k_whole))
  k_with "m:subscriptTail Name Constant ref int" => (k_here; (with_reducible show wpAny _ _ (subscriptTail _ _ (Value.ref _) (Value.int 2 _)) _ _ _); k_dflt (refine' rowB_K ?k1Q8 ?k2Q8 ?_ ?k3Q8; (case k1Q8 => k_asm); (case k2Q8 => walk_at "memr"); (case k3Q8 => with_unfolding_all rfl); k_whole))
  k_with "m:subscriptTail Name UnaryOp ref int" => (k_here; k_dflt (refine' last_K ?k1Q8 ?k2Q8 ?k3Q8 ?_ ?k6Q8 ?k7Q8; (case k1Q8 => k_asm); (case k2Q8 => k_mem); (case k3Q8 => rfl); (case k6Q8 => with_unfolding_all rfl); (case k7Q8 => intro _; with_unfolding_all rfl); k_whole))
  k_with "m:compareOp NotEq ref ref" => (k_here; k_dflt (refine' rows_ne ?k1Q8 ?k2Q8 ?k3Q8 ?k4Q8 ?k5Q8 ?k6Q8 ?k7Q8 ?_; (case k1Q8 => k_asm); (case k2Q8 => k_mem); (case k3Q8 => k_mem); (case k4Q8 => exact letts_ok); (case k5Q8 => exact letts_ok); (case k6Q8 => exact letts_ok); (case k7Q8 => units_room); k_whole))
  k_with "m:compareOp Eq ref ref" => (k_here; k_dflt (refine' rests_eq ?k1Q8 ?k2Q8 ?k3Q8 ?k4Q8 ?k5Q8 ?_; (case k1Q8 => k_asm); (case k2Q8 => k_mem); (case k3Q8 => k_mem); (case k4Q8 => exact Eq.trans (by assumption) (Eq.symm (by assumption))); (case k5Q8 => units_room); k_whole))
  k_with "m:subscriptTail Name Constant ref int" => (k_here; (with_reducible show wpAny _ _ (subscriptTail _ _ (Value.ref _) (Value.int 0 _)) _ _ _); k_dflt (refine' tup0_K ?k1Q8 ?k2Q8 ?_ ?k3Q8 ?k4Q8; (case k1Q8 => k_asm); (case k2Q8 => walk_at "memr"); (case k3Q8 => with_unfolding_all rfl); (case k4Q8 => intro _; with_unfolding_all rfl); k_whole))
  k_with "m:subscriptTail Name Constant ref int" => (k_here; (with_reducible show wpAny _ _ (subscriptTail _ _ (Value.ref _) (Value.int 1 _)) _ _ _); k_dflt (refine' tup1_K ?k1Q8 ?k2Q8 ?_ ?k3Q8 ?k4Q8; (case k1Q8 => k_asm); (case k2Q8 => walk_at "memr"); (case k3Q8 => with_unfolding_all rfl); (case k4Q8 => intro _; with_unfolding_all rfl); k_whole))
  k_with "m:call builtin:len" => (k_here; k_dflt (refine' len_K ?k1Q8 ?k2Q8 ?k3Q8 ?k4Q8 ?_; (case k1Q8 => k_asm); (case k2Q8 => walk_at "memr"); (case k3Q8 => assumption); (case k4Q8 => assumption); k_whole; intro t9Q9 tk9Q9))
  k_with "m:call builtin:max" => (k_here; k_dflt (refine' max_fin ?k0Q8 ?k1Q8 ?k2Q8 ?k3Q8 ?k4Q8 ?k5Q8 ?k6Q8 ?k7Q8 ?k8Q8 ?_; (case k0Q8 => exact rfl); (case k1Q8 => k_asm); (case k2Q8 => k_asm); (case k3Q8 => k_mem); (case k4Q8 => assumption); (case k5Q8 => assumption); (case k6Q8 => assumption); (case k7Q8 => assumption); (case k8Q8 => assumption); k_whole; intro h'Q9 t9Q9 tk'Q9 F'Q9 N'Q9))
  k_with "m:WStepG" => (k_here; refine Halt.out ?_)
  k_with "m:EndG" => (k_here; refine Halt.out ?_)
  k_with "m:eval ListComp" => (k_here; (with_reducible show wpAny _ _ (eval (PySem.Expr.ListComp _ [⟨_, _, [_], _⟩] _ _) _) _ _ _); k_dflt (refine LCt.ListComp_T (by k_asm) (by with_unfolding_all rfl) (by decide) (by rfl) (by decide) (by rfl) ?_))
  k_with "m:CompSrcT" => (k_here; refine Halt.out ?_)
  trivial
theorem ints_at : ∀ {vs : List Value} {ns : List Int}, IntsAre vs ns → ∀ (i : Nat) (v : Value), vs[i]? = some v → ∃ k t, v = .int k t
  | _, _, .nil, i, v, h => by simp at h
  | _, _, .cons n t r, 0, v, h => ⟨n, t, by simpa using h.symm⟩
  | _, _, .cons n t r, i + 1, v, h => ints_at r i v (by simpa using h)
theorem four_of {α : Type} {l : List α} {a b c d : α} (hl : l.length = 4) (h0 : l[0]? = some a) (h1 : l[1]? = some b) (h2 : l[2]? = some c) (h3 : l[3]? = some d) : l = [a, b, c, d] := by
  rcases l with _ | ⟨x, _ | ⟨y, _ | ⟨z, _ | ⟨u, _ | ⟨v, r⟩⟩⟩⟩⟩
  · cases hl
  · cases hl
  · cases hl
  · cases hl
  · cases h0; cases h1; cases h2; cases h3; rfl
  · exact absurd hl (by simp)
theorem law_start : PySem.Challenge.rw_tc0084_01.Holds := by
  refine Mine.hd ?_
  k_fill
  intro w s₀ s₁ mg mb G Y fa o pm cd doc dV kV ho hd hcd hD hmg hg args vals as hpre hlay hrd hwl hlo
  have KX := km_in_of Y
  km_tabs Y
  have X := (Ground.X G).1
  have V := (Ground.X G).2
  refine Ground.open G ?_
  intro T B D TE TW
  try (refine guard_noD D (by decide +kernel) ?_; clear D)
  have hT9 : TabsAt [(180, 176), (187, 183)] _ := List.forall_mem_cons.mpr ⟨⟨codeHd_of_K (c := 180) (P := 176) KX (by kernel_rfl), hT8 176 (by k_mem)⟩, List.forall_mem_cons.mpr ⟨⟨codeHd_of_K (c := 187) (P := 183) KX (by kernel_rfl), hT8 183 (by k_mem)⟩, fun _ h => nomatch h⟩⟩
  clear hmg
  wrow_args hpre hlay hrd hwl hlo
  all_goals (
    first | refine callC_kw (enter_call ?_) | refine enter_call ?_
    w_top on
    refine end_post hT9 (fun _ _ => rfl) (by kernel_rfl) ?_
    w_call any ho hd hcd hD T F
    clear hd
    kn_ghosts F T
    k_drop
    skip)
  clear TW TE B X V hT8 Y G hD
  (all_goals try k_fold)
  k_steps
  (with_reducible rename Fr _ _ _ _ => FF)
  (with_reducible rename News _ _ _ _ => NN)
  (with_reducible rename IntsAre _ (List.take 12 _) => hI9)
  (with_reducible rename List.length (List.take 12 _) = min 12 _ => hC9)
  have hz9 := hI9.length
  refine Halt.mk (LCg.CompSrc.ledger (by rfl) FF NN (.head _) (Nat.le_trans (show _ ≤ 12 by simp only [List.size_toArray]; lia) (by decide)) ?_)
  intro g9
  refine rel_rest (fun i y => Small 1000000 y) ?turn ?fin
  case turn =>
    intro i v I oI C oC D m₂ ys h tk E' hi hv hC hx F N off ne
    obtain ⟨k, t, rfl⟩ := ints_at hI9 i v (by simpa using hv)
    clear FF NN
    k_steps
    exact ⟨_, _, _, rfl, by assumption, by assumption, off, .inr ⟨_, List.Mem.head _, rfl, _, rfl⟩, rfl, _, _, rfl, Int.fmod_nonneg_of_pos _ (by decide), Int.fmod_lt_of_pos _ (by decide)⟩
  intro ys hys hR
  simp only [List.size_toArray] at hys hR
  have hy12 : ys.length ≤ 12 := by lia
  have hsm : ∀ (i : Nat) v, ys[i]? = some v → Small 1000000 v := fun i v hv => by
    obtain ⟨y, h1, h2⟩ := hR i (by rw [← hys]; exact (List.getElem?_eq_some_iff.mp hv).1)
    rw [hv] at h1; cases h1; exact h2
  clear hys hR FF NN hI9 hC9 hz9
  k_steps
  · refine Halt.mk fun h i t v hv e oe it oi C oC D oD m₂ h tk E' hC hx hx2 F N => ?_
    obtain ⟨f, tf, rfl, hf0, hf1⟩ : ∃ f tf, v = .int f tf ∧ 0 ≤ f ∧ f ≤ 27 := by
      rcases i with _ | _ | _ | _ | i
      · exact ⟨_, _, (Option.some.inj hv).symm, by decide, by decide⟩
      · exact ⟨_, _, (Option.some.inj hv).symm, by decide, by decide⟩
      · exact ⟨_, _, (Option.some.inj hv).symm, by decide, by decide⟩
      · exact ⟨_, _, (Option.some.inj hv).symm, by decide, by decide⟩
      · simp at hv
    k_steps
    exact ⟨_, _, rfl, by assumption, news_tl (by assumption), _, _, rfl, by lia, by lia⟩
  · refine Halt.mk fun D h tk ys2 hy2 hR2 hoff F N => ?_
    obtain ⟨_, e0, n0, t0, rfl, a0, b0⟩ := hR2 0 (show 0 < 4 by lia)
    obtain ⟨_, e1, n1, t1, rfl, a1, b1⟩ := hR2 1 (show 1 < 4 by lia)
    obtain ⟨_, e2, n2, t2, rfl, a2, b2⟩ := hR2 2 (show 2 < 4 by lia)
    obtain ⟨_, e3, n3, t3, rfl, a3, b3⟩ := hR2 3 (show 3 < 4 by lia)
    obtain rfl : ys2 = [.int n0 t0, .int n1 t1, .int n2 t2, .int n3 t3] := four_of hy2 e0 e1 e2 e3
    have N9 : News _ _ h ((D, numsO n0 n1 n2 n3 t0 t1 t2 t3 4) :: _) := N
    have o9 := off1_of hoff
    simp only [LCg.Off1, and_true] at o9
    clear N hR2 hy2 e0 e1 e2 e3 hoff
    k_steps
    (with_reducible rename Fr _ _ _ _ => FF)
    (with_reducible rename News _ _ _ _ => NN)
    obtain ⟨r0, hr0⟩ : ∃ r0 : Nat, 2 + Int.fmod n0 7 = (r0 : Int) := ⟨(2 + Int.fmod n0 7).toNat, by have := Int.fmod_nonneg_of_pos n0 (b := 7) (by decide); lia⟩
    have hr1 : 2 ≤ r0 ∧ r0 ≤ 8 := by
      have := Int.fmod_nonneg_of_pos n0 (b := 7) (by decide)
      have := Int.fmod_lt_of_pos n0 (b := 7) (by decide)
      lia
    obtain ⟨s0, hs0⟩ : ∃ s0 : Nat, 2 + Int.fmod n0 7 + Int.fmod (Int.fdiv n0 7) 6 = (s0 : Int) := ⟨(2 + Int.fmod n0 7 + Int.fmod (Int.fdiv n0 7) 6).toNat, by have := Int.fmod_nonneg_of_pos (Int.fdiv n0 7) (b := 6) (by decide); lia⟩
    have hs1 : r0 ≤ s0 ∧ s0 ≤ 13 := by
      have := Int.fmod_nonneg_of_pos (Int.fdiv n0 7) (b := 6) (by decide)
      have := Int.fmod_lt_of_pos (Int.fdiv n0 7) (b := 6) (by decide)
      lia
    rw [hs0, hr0] at NN
    rw [hs0, hr0] at FF
    refine Halt.mk ?_
    refine While_G (LawJ _ _ _ _ _ _ _ _ _ _ s0 r0) 8 ⟨⟨_, _, _, _, _, s0, r0, _, _, [], 0, #[], #[], rfl, AllBare.of_eq hg, ⟨trivial, trivial⟩, FF, news_pick NN, by rfl, by rfl, by rfl, by rfl, hr1.2, by lia, hs1.1, by lia, hs1.2, by rfl, by rfl, by decide⟩⟩ ?turn
    clear NN FF
    rintro n _ ⟨h, g, d, tk, m', size, ring, ts, tr, us, c, ps, qs, rfl, G9, T9, F₁, N₁, ms, mr, mn, ma, q0, q1, q2, q3, q4, hall, hfin, hlen⟩
    have F₂ := Fr.nam (x := Str.ofString "aparts") (Fr.nam (x := Str.ofString "numbers") (Fr.nam (x := Str.ofString "ring") (Fr.nam (x := Str.ofString "size") F₁ ms) mr) mn) ma
    clear F₁ ms mr mn ma
    have hr9 := rest4 N₁ (fun _ e => nomatch congrArg Obj.cls e) (fun _ e => nomatch congrArg Obj.cls e) (fun _ e => nomatch congrArg Obj.cls e) (by assumption)
    have qs : (1 : Int) ≤ size ∧ (size : Int) ≤ 13 := by lia
    have qr : (0 : Int) ≤ ring ∧ (ring : Int) ≤ 8 := by lia
    have rm := room_ok (n := n3) (s := (size : Int)) qs.1
    have hd := head_ok rm.1 rm.2 qs.2
    have hz9 : (2 * (size : Int) - 1) ≠ 0 := by lia
    k_steps
    · exact absurd mod4 (by assumption)
    · exact (no_more (by assumption) (by assumption)).elim
    · (with_reducible rename Fr _ _ _ _ => FF)
      (with_reducible rename News _ _ _ _ => NN)
      (with_reducible rename (ring : Int) ≠ 0 => hz)
      obtain ⟨n0, rfl⟩ : ∃ n0, n = n0 + 1 := ⟨n - 1, by lia⟩
      exact Halt.mk ⟨n0, Nat.lt_succ_self _, LawJ.step (by assumption) (by assumption) FF (news_tl (news_tl (news_tl NN))) (by rfl) (by rfl) (by rfl) (by rfl) (by rfl) div4 (by lia) q0 q1 q2 q4 hall hfin hlen⟩
    · (with_reducible rename (ring : Int) = 0 => hz)
      obtain rfl : ring = 0 := by lia
      obtain ⟨e1, rfl, e3⟩ := law_done (by lia) (by lia) (by lia) (by lia) hall hfin
      have e4 : fewF 8 s0 r0 < 100 := by lia
      clear hall hfin hlen
      have b1 : r0 < 9 := by lia
      have b2 : 1 < r0 := by lia
      have b3 : s0 < 14 := by lia
      have b4 := hs1.1
      refine Halt.mk (LCt.CompSrcT.range (n := 13) (by rfl) (by assumption) (by assumption) (by assumption) (by decide) (by rfl) (by decide) ?_)
      intro g9
      refine filt_rest (fun i => s0 % (i + 1) == 0 && r0 % (i + 1) == 0) ?turn2 ?fin2
      case turn2 =>
        intro i t I oI C oC D m₂ ys h tk E' hi hC hx F N off ne
        k_steps
        all_goals first | exact ⟨_, _, _, rfl, by assumption, by assumption, off, trivial, rfl, Bool.eq_false_iff.mpr fun q => absurd (div_test.mp q).1 (by assumption)⟩ | exact ⟨_, _, _, rfl, by assumption, by assumption, off, trivial, rfl, Bool.eq_false_iff.mpr fun q => absurd (div_test.mp q).2 (by assumption)⟩ | exact ⟨_, _, _, rfl, by assumption, by assumption, off, trivial, rfl, div_test.mpr ⟨by assumption, by assumption⟩, _, rfl⟩
      intro us2 hus2
      k_steps
      · exact absurd rfl (show ((finF 9 s0 r0 : Nat) : Int) ≠ (finF 9 s0 r0 : Nat) from by assumption)
      · exact absurd rfl (show fewF 8 s0 r0 ≠ fewF 8 s0 r0 from by assumption)
      · (with_reducible rename Fr _ _ _ _ => FF)
        (with_reducible rename News _ _ _ _ => NN)
        exact Halt.mk ⟨rfl, FF.keep, rfl, G9, ⟨_, (NN _ (.tail _ (.tail _ (.head _)))).1⟩, ⟨_, (NN _ (.tail _ (.tail _ (.tail _ (.head _))))).1⟩, trivial⟩
end Mine
theorem PySem.Challenge.cw_tc0084_01_holds : PySem.Challenge.rw_tc0084_01.Holds :=
  Mine.law_start
end
