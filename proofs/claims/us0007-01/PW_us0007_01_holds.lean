import PyProof.Rows.All
import Wide.All
import OpenK.AllK
import Wide.FinOn
import Lean
import PySem.Challenge.RW_us0007_01

open PySem PySem.W PyProof.Rows
set_option Elab.async false
set_option maxRecDepth 100000
set_option maxHeartbeats 8000000
namespace Mine
abbrev pw : Program := PySem.Challenge.pw_us0007_01
noncomputable def fobj (i : Nat) (dV kV md : Value) (cd : Addr) : Obj := match pw.main.body[i]? with
  | some (.FunctionDef n a b _ _ _ sc _ _ _) => { cls := .type "function", data := .func { name := n, qualname := n, params := a, body := .stmts b, scope := sc, globals := 3, closure := [], defaults := dV, kwdefaults := kV, pyModule := md, code := .ref cd } }
  | _ => { cls := .none }
noncomputable def tobj (i : Nat) : Obj := match pw.main.body[i]? with
  | some (.FunctionDef n a b _ _ _ sc _ _ _) => { cls := .none, data := .func { name := n, qualname := n, params := a, body := .stmts b, scope := sc, globals := 0, closure := [], defaults := .none, kwdefaults := .none } }
  | _ => { cls := .none }
noncomputable def ob42 (P : Params) : Obj := { cls := Value.type "dict", data := Data.dict #[{ hash := PyData.keyHash P (Str.ofString "builtins"), key := Value.str (Str.ofString "builtins") 162, val := Value.ref 4 }, { hash := PyData.keyHash P (Str.ofString "__main__"), key := Value.str (Str.ofString "__main__") 163, val := Value.ref 5 }, { hash := PyData.keyHash P (Str.ofString "_sre"), key := Value.str (Str.ofString "_sre") 244, val := Value.ref 12 }] 3 }
noncomputable def ob43 (P : Params) : Obj := { cls := Value.none, data := Data.dict #[{ hash := PyData.keyHash P (Str.ofString "\x69mport.loaded._sre"), key := Value.str (Str.ofString "\x69mport.loaded._sre") 183, val := Value.bool Bool.true }, { hash := PyData.keyHash P (Str.ofString "class._frozen_importlib.BuiltinImporter"), key := Value.str (Str.ofString "class._frozen_importlib.BuiltinImporter") 185, val := Value.ref 14 }, { hash := PyData.keyHash P (Str.ofString "watched.\x69mport"), key := Value.str (Str.ofString "watched.\x69mport") 206, val := Value.ref 18 }, { hash := PyData.keyHash P (Str.ofString "class._frozen_importlib.ModuleSpec"), key := Value.str (Str.ofString "class._frozen_importlib.ModuleSpec") 216, val := Value.ref 22 }, { hash := PyData.keyHash P (Str.ofString "sys.modules.booked-epoch"), key := Value.str (Str.ofString "sys.modules.booked-epoch") 245, val := Value.int 3 0 }, { hash := PyData.keyHash P (Str.ofString "\x69mport.later-laid._sre"), key := Value.str (Str.ofString "\x69mport.later-laid._sre") 270, val := Value.bool Bool.true }, { hash := PyData.keyHash P (Str.ofString "watched.library"), key := Value.str (Str.ofString "watched.library") 272, val := Value.ref 27 }, { hash := PyData.keyHash P (Str.ofString "watched.library-objects"), key := Value.str (Str.ofString "watched.library-objects") 0, val := Value.str (Str.ofString "\x0c") 0 }, { hash := PyData.keyHash P (Str.ofString "watched.library-deep._sre"), key := Value.str (Str.ofString "watched.library-deep._sre") 273, val := Value.str (Str.ofString "\x04\x00\x00\x0b\x04\x00\x00\x0b\x04\x00\x00\x03\x04\x00\x00\x0b\x08\x04dict\x02") 0 }] 9 }
noncomputable def ob44 (P : Params) : Obj := { cls := Value.type "dict", data := Data.dict #[{ hash := PyData.keyHash P (Str.ofString "__name__"), key := Value.str (Str.ofString "__name__") 165, val := Value.str (Str.ofString "__main__") 164 }, { hash := PyData.keyHash P (Str.ofString "__doc__"), key := Value.str (Str.ofString "__doc__") 166, val := Value.none }, { hash := PyData.keyHash P (Str.ofString "__package__"), key := Value.str (Str.ofString "__package__") 167, val := Value.none }, { hash := PyData.keyHash P (Str.ofString "__loader__"), key := Value.str (Str.ofString "__loader__") 168, val := Value.builtin "__main__.__loader__#opaque" }, { hash := PyData.keyHash P (Str.ofString "__spec__"), key := Value.str (Str.ofString "__spec__") 169, val := Value.none }, { hash := PyData.keyHash P (Str.ofString "__annotations__"), key := Value.str (Str.ofString "__annotations__") 170, val := Value.ref 6 }, { hash := PyData.keyHash P (Str.ofString "__builtins__"), key := Value.str (Str.ofString "__builtins__") 171, val := Value.ref 4 }, { hash := PyData.keyHash P (Str.ofString "__file__"), key := Value.str (Str.ofString "__file__") 173, val := Value.str (Str.ofString "/claim/cut.py") 172 }, { hash := PyData.keyHash P (Str.ofString "__cached__"), key := Value.str (Str.ofString "__cached__") 174, val := Value.none }, { hash := PyData.keyHash P (Str.ofString "_sre"), key := Value.str (Str.ofString "_sre") 275, val := Value.ref 12 }] 10 }
noncomputable def ob52 (P : Params) : Obj := { cls := Value.type "dict", data := Data.dict #[{ hash := PyData.keyHash P (Str.ofString "__name__"), key := Value.str (Str.ofString "__name__") 247, val := Value.str (Str.ofString "_sre") 246 }, { hash := PyData.keyHash P (Str.ofString "__doc__"), key := Value.str (Str.ofString "__doc__") 248, val := Value.none }, { hash := PyData.keyHash P (Str.ofString "__package__"), key := Value.str (Str.ofString "__package__") 250, val := Value.str (Str.ofString "") 249 }, { hash := PyData.keyHash P (Str.ofString "__loader__"), key := Value.str (Str.ofString "__loader__") 251, val := Value.builtin "off-the-table:_sre.__loader__:shared#opaque" }, { hash := PyData.keyHash P (Str.ofString "__spec__"), key := Value.str (Str.ofString "__spec__") 252, val := Value.builtin "off-the-table:_sre.__spec__:shared#opaque" }, { hash := PyData.keyHash P (Str.ofString "compile"), key := Value.str (Str.ofString "compile") 253, val := Value.builtin "_sre.compile" }, { hash := PyData.keyHash P (Str.ofString "template"), key := Value.str (Str.ofString "template") 254, val := Value.builtin "off-the-table:_sre.template:shared#opaque" }, { hash := PyData.keyHash P (Str.ofString "getcodesize"), key := Value.str (Str.ofString "getcodesize") 255, val := Value.builtin "off-the-table:_sre.getcodesize:shared#opaque" }, { hash := PyData.keyHash P (Str.ofString "ascii_iscased"), key := Value.str (Str.ofString "ascii_iscased") 256, val := Value.builtin "off-the-table:_sre.ascii_iscased:shared#opaque" }, { hash := PyData.keyHash P (Str.ofString "unicode_iscased"), key := Value.str (Str.ofString "unicode_iscased") 257, val := Value.builtin "off-the-table:_sre.unicode_iscased:shared#opaque" }, { hash := PyData.keyHash P (Str.ofString "ascii_tolower"), key := Value.str (Str.ofString "ascii_tolower") 258, val := Value.builtin "off-the-table:_sre.ascii_tolower:shared#opaque" }, { hash := PyData.keyHash P (Str.ofString "unicode_tolower"), key := Value.str (Str.ofString "unicode_tolower") 259, val := Value.builtin "off-the-table:_sre.unicode_tolower:shared#opaque" }, { hash := PyData.keyHash P (Str.ofString "MAGIC"), key := Value.str (Str.ofString "MAGIC") 261, val := Value.int 20230612 260 }, { hash := PyData.keyHash P (Str.ofString "CODESIZE"), key := Value.str (Str.ofString "CODESIZE") 263, val := Value.int 4 262 }, { hash := PyData.keyHash P (Str.ofString "MAXREPEAT"), key := Value.str (Str.ofString "MAXREPEAT") 265, val := Value.int 4294967295 264 }, { hash := PyData.keyHash P (Str.ofString "MAXGROUPS"), key := Value.str (Str.ofString "MAXGROUPS") 267, val := Value.int 1073741823 266 }, { hash := PyData.keyHash P (Str.ofString "copyright"), key := Value.str (Str.ofString "copyright") 269, val := Value.str (Str.ofString " SRE 2.2.2 Copyright (c) 1997-2002 by Secret Labs AB ") 268 }] 17 }
noncomputable def ob53 (_P : Params) : Obj := { cls := Value.type "module", dict := Option.some 11 }
noncomputable def ob54 (P : Params) : Obj := { cls := Value.type "dict", data := Data.dict #[{ hash := PyData.keyHash P (Str.ofString "__module__"), key := Value.str (Str.ofString "__module__") 189, val := Value.str (Str.ofString "_frozen_importlib") 186 }, { hash := PyData.keyHash P (Str.ofString "__firstlineno__"), key := Value.str (Str.ofString "__firstlineno__") 190, val := Value.int 971 187 }, { hash := PyData.keyHash P (Str.ofString "__doc__"), key := Value.str (Str.ofString "__doc__") 191, val := Value.builtin "_frozen_importlib.BuiltinImporter.__doc__:str#opaque" }, { hash := PyData.keyHash P (Str.ofString "_ORIGIN"), key := Value.str (Str.ofString "_ORIGIN") 192, val := Value.str (Str.ofString "built-in") 188 }, { hash := PyData.keyHash P (Str.ofString "find_spec"), key := Value.str (Str.ofString "find_spec") 193, val := Value.builtin "_frozen_importlib.BuiltinImporter.find_spec#opaque" }, { hash := PyData.keyHash P (Str.ofString "create_module"), key := Value.str (Str.ofString "create_module") 194, val := Value.builtin "_frozen_importlib.BuiltinImporter.create_module#opaque" }, { hash := PyData.keyHash P (Str.ofString "exec_module"), key := Value.str (Str.ofString "exec_module") 195, val := Value.builtin "_frozen_importlib.BuiltinImporter.exec_module#opaque" }, { hash := PyData.keyHash P (Str.ofString "get_code"), key := Value.str (Str.ofString "get_code") 196, val := Value.builtin "_frozen_importlib.BuiltinImporter.get_code#opaque" }, { hash := PyData.keyHash P (Str.ofString "get_source"), key := Value.str (Str.ofString "get_source") 197, val := Value.builtin "_frozen_importlib.BuiltinImporter.get_source#opaque" }, { hash := PyData.keyHash P (Str.ofString "is_package"), key := Value.str (Str.ofString "is_package") 198, val := Value.builtin "_frozen_importlib.BuiltinImporter.is_package#opaque" }, { hash := PyData.keyHash P (Str.ofString "load_module"), key := Value.str (Str.ofString "load_module") 199, val := Value.builtin "_frozen_importlib.BuiltinImporter.load_module#opaque" }, { hash := PyData.keyHash P (Str.ofString "__static_attributes__"), key := Value.str (Str.ofString "__static_attributes__") 200, val := Value.ref 15 }, { hash := PyData.keyHash P (Str.ofString "__dict__"), key := Value.str (Str.ofString "__dict__") 202, val := Value.ref 16 }, { hash := PyData.keyHash P (Str.ofString "__weakref__"), key := Value.str (Str.ofString "__weakref__") 204, val := Value.ref 17 }] 14 }
noncomputable def ob55 (_P : Params) : Obj := { cls := Value.type "type", data := Data.cls { name := Str.ofString "BuiltinImporter", bases := [Value.type "object"], mro := [Value.ref 14, Value.type "object"], ns := 13, qualname := Str.ofString "BuiltinImporter" } }
noncomputable def ob56 (_P : Params) : Obj := { cls := Value.type "tuple", data := Data.seq #[] }
noncomputable def ob57 (_P : Params) : Obj := { cls := Value.type "getset_descriptor", data := Data.fields #[Value.str (Str.ofString "__dict__") 201, Value.ref 14, Value.builtin "function.__dict__", Value.builtin "function.__dict__#set"] }
noncomputable def ob58 (_P : Params) : Obj := { cls := Value.type "getset_descriptor", data := Data.fields #[Value.str (Str.ofString "__weakref__") 203, Value.ref 14, Value.builtin "ExceptionGroup.__weakref__", Value.none] }
noncomputable def ob59 (_P : Params) : Obj := { cls := Value.none, data := Data.seq #[Value.int 13 0, Value.str ({ cps := #[6, 189, 10, 95, 95, 109, 111, 100, 117, 108, 101, 95, 95, 6, 186, 17, 95, 102, 114, 111, 122, 101, 110, 95, 105, 109, 112, 111, 114, 116, 108, 105, 98, 6, 190, 15, 95, 95, 102, 105, 114, 115, 116, 108, 105, 110, 101, 110, 111, 95, 95, 4, 187, 0, 971, 6, 191, 7, 95, 95, 100, 111, 99, 95, 95, 9, 52, 95, 102, 114, 111, 122, 101, 110, 95, 105, 109, 112, 111, 114, 116, 108, 105, 98, 46, 66, 117, 105, 108, 116, 105, 110, 73, 109, 112, 111, 114, 116, 101, 114, 46, 95, 95, 100, 111, 99, 95, 95, 58, 115, 116, 114, 35, 111, 112, 97, 113, 117, 101, 6, 192, 7, 95, 79, 82, 73, 71, 73, 78, 6, 188, 8, 98, 117, 105, 108, 116, 45, 105, 110, 6, 193, 9, 102, 105, 110, 100, 95, 115, 112, 101, 99, 9, 50, 95, 102, 114, 111, 122, 101, 110, 95, 105, 109, 112, 111, 114, 116, 108, 105, 98, 46, 66, 117, 105, 108, 116, 105, 110, 73, 109, 112, 111, 114, 116, 101, 114, 46, 102, 105, 110, 100, 95, 115, 112, 101, 99, 35, 111, 112, 97, 113, 117, 101, 6, 194, 13, 99, 114, 101, 97, 116, 101, 95, 109, 111, 100, 117, 108, 101, 9, 54, 95, 102, 114, 111, 122, 101, 110, 95, 105, 109, 112, 111, 114, 116, 108, 105, 98, 46, 66, 117, 105, 108, 116, 105, 110, 73, 109, 112, 111, 114, 116, 101, 114, 46, 99, 114, 101, 97, 116, 101, 95, 109, 111, 100, 117, 108, 101, 35, 111, 112, 97, 113, 117, 101, 6, 195, 11, 101, 120, 101, 99, 95, 109, 111, 100, 117, 108, 101, 9, 52, 95, 102, 114, 111, 122, 101, 110, 95, 105, 109, 112, 111, 114, 116, 108, 105, 98, 46, 66, 117, 105, 108, 116, 105, 110, 73, 109, 112, 111, 114, 116, 101, 114, 46, 101, 120, 101, 99, 95, 109, 111, 100, 117, 108, 101, 35, 111, 112, 97, 113, 117, 101, 6, 196, 8, 103, 101, 116, 95, 99, 111, 100, 101, 9, 49, 95, 102, 114, 111, 122, 101, 110, 95, 105, 109, 112, 111, 114, 116, 108, 105, 98, 46, 66, 117, 105, 108, 116, 105, 110, 73, 109, 112, 111, 114, 116, 101, 114, 46, 103, 101, 116, 95, 99, 111, 100, 101, 35, 111, 112, 97, 113, 117, 101, 6, 197, 10, 103, 101, 116, 95, 115, 111, 117, 114, 99, 101, 9, 51, 95, 102, 114, 111, 122, 101, 110, 95, 105, 109, 112, 111, 114, 116, 108, 105, 98, 46, 66, 117, 105, 108, 116, 105, 110, 73, 109, 112, 111, 114, 116, 101, 114, 46, 103, 101, 116, 95, 115, 111, 117, 114, 99, 101, 35, 111, 112, 97, 113, 117, 101, 6, 198, 10, 105, 115, 95, 112, 97, 99, 107, 97, 103, 101, 9, 51, 95, 102, 114, 111, 122, 101, 110, 95, 105, 109, 112, 111, 114, 116, 108, 105, 98, 46, 66, 117, 105, 108, 116, 105, 110, 73, 109, 112, 111, 114, 116, 101, 114, 46, 105, 115, 95, 112, 97, 99, 107, 97, 103, 101, 35, 111, 112, 97, 113, 117, 101, 6, 199, 11, 108, 111, 97, 100, 95, 109, 111, 100, 117, 108, 101, 9, 52, 95, 102, 114, 111, 122, 101, 110, 95, 105, 109, 112, 111, 114, 116, 108, 105, 98, 46, 66, 117, 105, 108, 116, 105, 110, 73, 109, 112, 111, 114, 116, 101, 114, 46, 108, 111, 97, 100, 95, 109, 111, 100, 117, 108, 101, 35, 111, 112, 97, 113, 117, 101, 6, 200, 21, 95, 95, 115, 116, 97, 116, 105, 99, 95, 97, 116, 116, 114, 105, 98, 117, 116, 101, 115, 95, 95, 4, 0, 0, 15, 6, 202, 8, 95, 95, 100, 105, 99, 116, 95, 95, 4, 0, 0, 16, 6, 204, 11, 95, 95, 119, 101, 97, 107, 114, 101, 102, 95, 95, 4, 0, 0, 17] : Str }) 0, Value.bool Bool.true, Value.bool Bool.true, Value.str (Str.ofString "") 205, Value.int 21 0, Value.str ({ cps := #[6, 227, 10, 95, 95, 109, 111, 100, 117, 108, 101, 95, 95, 6, 217, 17, 95, 102, 114, 111, 122, 101, 110, 95, 105, 109, 112, 111, 114, 116, 108, 105, 98, 6, 228, 15, 95, 95, 102, 105, 114, 115, 116, 108, 105, 110, 101, 110, 111, 95, 95, 4, 218, 0, 562, 6, 229, 7, 95, 95, 100, 111, 99, 95, 95, 9, 47, 95, 102, 114, 111, 122, 101, 110, 95, 105, 109, 112, 111, 114, 116, 108, 105, 98, 46, 77, 111, 100, 117, 108, 101, 83, 112, 101, 99, 46, 95, 95, 100, 111, 99, 95, 95, 58, 115, 116, 114, 35, 111, 112, 97, 113, 117, 101, 6, 230, 8, 95, 95, 105, 110, 105, 116, 95, 95, 9, 44, 95, 102, 114, 111, 122, 101, 110, 95, 105, 109, 112, 111, 114, 116, 108, 105, 98, 46, 77, 111, 100, 117, 108, 101, 83, 112, 101, 99, 46, 95, 95, 105, 110, 105, 116, 95, 95, 35, 111, 112, 97, 113, 117, 101, 6, 231, 8, 95, 95, 114, 101, 112, 114, 95, 95, 9, 44, 95, 102, 114, 111, 122, 101, 110, 95, 105, 109, 112, 111, 114, 116, 108, 105, 98, 46, 77, 111, 100, 117, 108, 101, 83, 112, 101, 99, 46, 95, 95, 114, 101, 112, 114, 95, 95, 35, 111, 112, 97, 113, 117, 101, 6, 232, 6, 95, 95, 101, 113, 95, 95, 9, 42, 95, 102, 114, 111, 122, 101, 110, 95, 105, 109, 112, 111, 114, 116, 108, 105, 98, 46, 77, 111, 100, 117, 108, 101, 83, 112, 101, 99, 46, 95, 95, 101, 113, 95, 95, 35, 111, 112, 97, 113, 117, 101, 6, 233, 6, 99, 97, 99, 104, 101, 100, 9, 42, 95, 102, 114, 111, 122, 101, 110, 95, 105, 109, 112, 111, 114, 116, 108, 105, 98, 46, 77, 111, 100, 117, 108, 101, 83, 112, 101, 99, 46, 99, 97, 99, 104, 101, 100, 35, 111, 112, 97, 113, 117, 101, 6, 234, 6, 112, 97, 114, 101, 110, 116, 9, 42, 95, 102, 114, 111, 122, 101, 110, 95, 105, 109, 112, 111, 114, 116, 108, 105, 98, 46, 77, 111, 100, 117, 108, 101, 83, 112, 101, 99, 46, 112, 97, 114, 101, 110, 116, 35, 111, 112, 97, 113, 117, 101, 6, 235, 12, 104, 97, 115, 95, 108, 111, 99, 97, 116, 105, 111, 110, 9, 48, 95, 102, 114, 111, 122, 101, 110, 95, 105, 109, 112, 111, 114, 116, 108, 105, 98, 46, 77, 111, 100, 117, 108, 101, 83, 112, 101, 99, 46, 104, 97, 115, 95, 108, 111, 99, 97, 116, 105, 111, 110, 35, 111, 112, 97, 113, 117, 101, 6, 236, 21, 95, 95, 115, 116, 97, 116, 105, 99, 95, 97, 116, 116, 114, 105, 98, 117, 116, 101, 115, 95, 95, 4, 0, 0, 23, 6, 238, 8, 95, 95, 100, 105, 99, 116, 95, 95, 4, 0, 0, 24, 6, 240, 11, 95, 95, 119, 101, 97, 107, 114, 101, 102, 95, 95, 4, 0, 0, 25, 6, 241, 8, 95, 95, 104, 97, 115, 104, 95, 95, 0] : Str }) 0, Value.bool Bool.true, Value.bool Bool.true, Value.str (Str.ofString "") 242] 1 }
noncomputable def ob60 (_P : Params) : Obj := { cls := Value.type "list", data := Data.seq #[] }
noncomputable def ob61 (P : Params) : Obj := { cls := Value.type "dict", data := Data.dict #[{ hash := PyData.keyHash P (Str.ofString "name"), key := Value.str (Str.ofString "name") 208, val := Value.str (Str.ofString "_sre") 207 }, { hash := PyData.keyHash P (Str.ofString "loader"), key := Value.str (Str.ofString "loader") 209, val := Value.ref 14 }, { hash := PyData.keyHash P (Str.ofString "origin"), key := Value.str (Str.ofString "origin") 210, val := Value.str (Str.ofString "built-in") 184 }, { hash := PyData.keyHash P (Str.ofString "loader_state"), key := Value.str (Str.ofString "loader_state") 211, val := Value.none }, { hash := PyData.keyHash P (Str.ofString "submodule_search_locations"), key := Value.str (Str.ofString "submodule_search_locations") 212, val := Value.none }, { hash := PyData.keyHash P (Str.ofString "_uninitialized_submodules"), key := Value.str (Str.ofString "_uninitialized_submodules") 213, val := Value.ref 19 }, { hash := PyData.keyHash P (Str.ofString "_set_fileattr"), key := Value.str (Str.ofString "_set_fileattr") 214, val := Value.bool Bool.false }, { hash := PyData.keyHash P (Str.ofString "_cached"), key := Value.str (Str.ofString "_cached") 215, val := Value.none }, { hash := PyData.keyHash P (Str.ofString "_initializing"), key := Value.str (Str.ofString "_initializing") 243, val := Value.bool Bool.false }] 9 }
noncomputable def ob62 (P : Params) : Obj := { cls := Value.type "dict", data := Data.dict #[{ hash := PyData.keyHash P (Str.ofString "__module__"), key := Value.str (Str.ofString "__module__") 227, val := Value.str (Str.ofString "_frozen_importlib") 217 }, { hash := PyData.keyHash P (Str.ofString "__firstlineno__"), key := Value.str (Str.ofString "__firstlineno__") 228, val := Value.int 562 218 }, { hash := PyData.keyHash P (Str.ofString "__doc__"), key := Value.str (Str.ofString "__doc__") 229, val := Value.builtin "_frozen_importlib.ModuleSpec.__doc__:str#opaque" }, { hash := PyData.keyHash P (Str.ofString "__init__"), key := Value.str (Str.ofString "__init__") 230, val := Value.builtin "_frozen_importlib.ModuleSpec.__init__#opaque" }, { hash := PyData.keyHash P (Str.ofString "__repr__"), key := Value.str (Str.ofString "__repr__") 231, val := Value.builtin "_frozen_importlib.ModuleSpec.__repr__#opaque" }, { hash := PyData.keyHash P (Str.ofString "__eq__"), key := Value.str (Str.ofString "__eq__") 232, val := Value.builtin "_frozen_importlib.ModuleSpec.__eq__#opaque" }, { hash := PyData.keyHash P (Str.ofString "cached"), key := Value.str (Str.ofString "cached") 233, val := Value.builtin "_frozen_importlib.ModuleSpec.cached#opaque" }, { hash := PyData.keyHash P (Str.ofString "parent"), key := Value.str (Str.ofString "parent") 234, val := Value.builtin "_frozen_importlib.ModuleSpec.parent#opaque" }, { hash := PyData.keyHash P (Str.ofString "has_location"), key := Value.str (Str.ofString "has_location") 235, val := Value.builtin "_frozen_importlib.ModuleSpec.has_location#opaque" }, { hash := PyData.keyHash P (Str.ofString "__static_attributes__"), key := Value.str (Str.ofString "__static_attributes__") 236, val := Value.ref 23 }, { hash := PyData.keyHash P (Str.ofString "__dict__"), key := Value.str (Str.ofString "__dict__") 238, val := Value.ref 24 }, { hash := PyData.keyHash P (Str.ofString "__weakref__"), key := Value.str (Str.ofString "__weakref__") 240, val := Value.ref 25 }, { hash := PyData.keyHash P (Str.ofString "__hash__"), key := Value.str (Str.ofString "__hash__") 241, val := Value.none }] 13 }
noncomputable def ob63 (_P : Params) : Obj := { cls := Value.type "type", data := Data.cls { name := Str.ofString "ModuleSpec", bases := [Value.type "object"], mro := [Value.ref 22, Value.type "object"], ns := 21, qualname := Str.ofString "ModuleSpec" } }
noncomputable def ob64 (_P : Params) : Obj := { cls := Value.type "tuple", data := Data.seq #[Value.str (Str.ofString "_cached") 219, Value.str (Str.ofString "_set_fileattr") 220, Value.str (Str.ofString "_uninitialized_submodules") 221, Value.str (Str.ofString "loader") 222, Value.str (Str.ofString "loader_state") 223, Value.str (Str.ofString "name") 224, Value.str (Str.ofString "origin") 225, Value.str (Str.ofString "submodule_search_locations") 226] }
noncomputable def ob65 (_P : Params) : Obj := { cls := Value.type "getset_descriptor", data := Data.fields #[Value.str (Str.ofString "__dict__") 237, Value.ref 22, Value.builtin "function.__dict__", Value.builtin "function.__dict__#set"] }
noncomputable def ob66 (_P : Params) : Obj := { cls := Value.type "getset_descriptor", data := Data.fields #[Value.str (Str.ofString "__weakref__") 239, Value.ref 22, Value.builtin "ExceptionGroup.__weakref__", Value.none] }
noncomputable def ob67 (_P : Params) : Obj := { cls := Value.ref 22, dict := Option.some 20 }
noncomputable def ob68 (_P : Params) : Obj := { cls := Value.none, data := Data.seq #[Value.int 11 0, Value.str { cps := #[6, 247, 8, 95, 95, 110, 97, 109, 101, 95, 95, 6, 246, 4, 95, 115, 114, 101, 6, 248, 7, 95, 95, 100, 111, 99, 95, 95, 0, 6, 250, 11, 95, 95, 112, 97, 99, 107, 97, 103, 101, 95, 95, 6, 249, 0, 6, 251, 10, 95, 95, 108, 111, 97, 100, 101, 114, 95, 95, 4, 0, 0, 14, 6, 252, 8, 95, 95, 115, 112, 101, 99, 95, 95, 4, 0, 0, 26, 6, 253, 7, 99, 111, 109, 112, 105, 108, 101, 9, 12, 95, 115, 114, 101, 46, 99, 111, 109, 112, 105, 108, 101, 6, 254, 8, 116, 101, 109, 112, 108, 97, 116, 101, 9, 13, 95, 115, 114, 101, 46, 116, 101, 109, 112, 108, 97, 116, 101, 6, 255, 11, 103, 101, 116, 99, 111, 100, 101, 115, 105, 122, 101, 9, 16, 95, 115, 114, 101, 46, 103, 101, 116, 99, 111, 100, 101, 115, 105, 122, 101, 6, 256, 13, 97, 115, 99, 105, 105, 95, 105, 115, 99, 97, 115, 101, 100, 9, 18, 95, 115, 114, 101, 46, 97, 115, 99, 105, 105, 95, 105, 115, 99, 97, 115, 101, 100, 6, 257, 15, 117, 110, 105, 99, 111, 100, 101, 95, 105, 115, 99, 97, 115, 101, 100, 9, 20, 95, 115, 114, 101, 46, 117, 110, 105, 99, 111, 100, 101, 95, 105, 115, 99, 97, 115, 101, 100, 6, 258, 13, 97, 115, 99, 105, 105, 95, 116, 111, 108, 111, 119, 101, 114, 9, 18, 95, 115, 114, 101, 46, 97, 115, 99, 105, 105, 95, 116, 111, 108, 111, 119, 101, 114, 6, 259, 15, 117, 110, 105, 99, 111, 100, 101, 95, 116, 111, 108, 111, 119, 101, 114, 9, 20, 95, 115, 114, 101, 46, 117, 110, 105, 99, 111, 100, 101, 95, 116, 111, 108, 111, 119, 101, 114, 6, 261, 5, 77, 65, 71, 73, 67, 4, 260, 0, 20230612, 6, 263, 8, 67, 79, 68, 69, 83, 73, 90, 69, 4, 262, 0, 4, 6, 265, 9, 77, 65, 88, 82, 69, 80, 69, 65, 84, 4, 264, 0, 4294967295, 6, 267, 9, 77, 65, 88, 71, 82, 79, 85, 80, 83, 4, 266, 0, 1073741823, 6, 269, 9, 99, 111, 112, 121, 114, 105, 103, 104, 116, 6, 268, 53, 32, 83, 82, 69, 32, 50, 46, 50, 46, 50, 32, 67, 111, 112, 121, 114, 105, 103, 104, 116, 32, 40, 99, 41, 32, 49, 57, 57, 55, 45, 50, 48, 48, 50, 32, 98, 121, 32, 83, 101, 99, 114, 101, 116, 32, 76, 97, 98, 115, 32, 65, 66, 32] } 0, Value.bool Bool.true, Value.bool Bool.false, Value.str (Str.ofString "_sre") 271] }
noncomputable def ob69 (_P : Params) : Obj := { cls := Value.type "tuple", data := Data.seq #[] }
noncomputable def ob70 (_P : Params) : Obj := { cls := Value.none, data := Data.fields #[] }
noncomputable def ob71 (_P : Params) : Obj := { cls := Value.type "code", data := Data.fields #[Value.str (Str.ofString "<module>") 277, Value.str (Str.ofString "<module>") 278, Value.str (Str.ofString "/claim/cut.py") 279, Value.int 1 0, Value.int 0 0, Value.int 0 0, Value.int 0 0, Value.int 0 0, Value.ref 28, Value.bool Bool.false, Value.int 276 0, Value.ref 29, Value.none, Value.none, Value.none, Value.none, Value.int 280 0, Value.int 1 0, Value.str (Str.ofString "/claim/cut.py") 281] }
noncomputable def ob72 (_P : Params) : Obj := { cls := Value.type "frame", slots := #[Option.some (Value.ref 30), Option.some (Value.ref 3), Option.some (Value.ref 3), Option.none, Option.some (Value.str (Str.ofString "__main__") 164), Option.none, Option.some (Value.ref 0)] }
noncomputable def ob75 (P : Params) : Obj := { cls := Value.type "dict", data := Data.dict #[{ hash := PyData.keyHash P (Str.ofString "__name__"), key := Value.str (Str.ofString "__name__") 165, val := Value.str (Str.ofString "cpy313.dis") 380 }, { hash := PyData.keyHash P (Str.ofString "__doc__"), key := Value.str (Str.ofString "__doc__") 166, val := Value.none }, { hash := PyData.keyHash P (Str.ofString "__package__"), key := Value.str (Str.ofString "__package__") 167, val := Value.none }, { hash := PyData.keyHash P (Str.ofString "__loader__"), key := Value.str (Str.ofString "__loader__") 168, val := Value.builtin "__main__.__loader__#opaque" }, { hash := PyData.keyHash P (Str.ofString "__spec__"), key := Value.str (Str.ofString "__spec__") 169, val := Value.none }, { hash := PyData.keyHash P (Str.ofString "__annotations__"), key := Value.str (Str.ofString "__annotations__") 170, val := Value.ref 6 }, { hash := PyData.keyHash P (Str.ofString "__builtins__"), key := Value.str (Str.ofString "__builtins__") 171, val := Value.ref 4 }, { hash := PyData.keyHash P (Str.ofString "__file__"), key := Value.str (Str.ofString "__file__") 173, val := Value.str (Str.ofString "/claim/cut.py") 172 }, { hash := PyData.keyHash P (Str.ofString "__cached__"), key := Value.str (Str.ofString "__cached__") 174, val := Value.none }, { hash := PyData.keyHash P (Str.ofString "_sre"), key := Value.str (Str.ofString "_sre") 275, val := Value.ref 12 }, { hash := PyData.keyHash P (Str.ofString "_twin_re_1"), key := Value.str (Str.ofString "_twin_re_1") 299, val := Value.ref 36 }, { hash := PyData.keyHash P (Str.ofString "_twin_re_2"), key := Value.str (Str.ofString "_twin_re_2") 341, val := Value.ref 41 }, { hash := PyData.keyHash P (Str.ofString "CRLF"), key := Value.str (Str.ofString "CRLF") 343, val := Value.str (Str.ofString "\x0d\n") 342 }, { hash := PyData.keyHash P (Str.ofString "quotedata"), key := Value.str (Str.ofString "quotedata") 350, val := Value.ref 48 }, { hash := PyData.keyHash P (Str.ofString "insort_right"), key := Value.str (Str.ofString "insort_right") 365, val := Value.ref 57 }, { hash := PyData.keyHash P (Str.ofString "bisect_right"), key := Value.str (Str.ofString "bisect_right") 379, val := Value.ref 66 }] 16 }
noncomputable def ob76 (_P : Params) : Obj := { cls := Value.none, data := Data.fields #[Value.int 6 0, Value.int 0 0, Value.ref 47, Value.int 9 0, Value.int 0 0, Value.ref 56, Value.int 15 0, Value.int 0 0, Value.ref 65] }
noncomputable def ob77 (_P : Params) : Obj := { cls := Value.type "list", data := Data.seq #[Value.int 14 287, Value.int 4 288, Value.int 0 289, Value.int 1 290, Value.int 1 291, Value.int 6 292, Value.int 1 293, Value.int 16 294, Value.int 46 295, Value.int 1 296] }
noncomputable def ob78 (_P : Params) : Obj := { cls := Value.type "dict", data := Data.dict #[] }
noncomputable def ob79 (_P : Params) : Obj := { cls := Value.type "tuple", data := Data.seq #[Value.none] }
noncomputable def ob80 (_P : Params) : Obj := { cls := Value.type "tuple", data := Data.seq #[Value.int 14 0, Value.int 4 0, Value.int 0 0, Value.int 1 0, Value.int 1 0, Value.int 6 0, Value.int 1 0, Value.int 16 0, Value.int 46 0, Value.int 1 0] }
noncomputable def ob81 (_P : Params) : Obj := { cls := Value.type "re.Pattern", data := Data.fields #[Value.str (Str.ofString "(?m)^\\.") 285, Value.int 40 298, Value.int 0 0, Value.none, Value.none, Value.ref 35, Value.int 0 0] }
noncomputable def ob82 (_P : Params) : Obj := { cls := Value.type "list", data := Data.seq #[Value.int 14 303, Value.int 9 304, Value.int 4 305, Value.int 1 306, Value.int 2 307, Value.int 16 308, Value.int 10 309, Value.int 16 310, Value.int 13 311, Value.int 0 312, Value.int 7 313, Value.int 7 314, Value.int 16 315, Value.int 13 316, Value.int 16 317, Value.int 10 318, Value.int 15 319, Value.int 18 320, Value.int 5 321, Value.int 16 322, Value.int 10 323, Value.int 15 324, Value.int 13 325, Value.int 11 326, Value.int 16 327, Value.int 13 328, Value.int 5 329, Value.int 5 330, Value.int 0 331, Value.int 16 332, Value.int 10 333, Value.int 1 334, Value.int 15 335, Value.int 2 336, Value.int 0 337, Value.int 1 338] }
noncomputable def ob83 (_P : Params) : Obj := { cls := Value.type "dict", data := Data.dict #[] }
noncomputable def ob84 (_P : Params) : Obj := { cls := Value.type "tuple", data := Data.seq #[Value.none] }
noncomputable def ob85 (_P : Params) : Obj := { cls := Value.type "tuple", data := Data.seq #[Value.int 14 0, Value.int 9 0, Value.int 4 0, Value.int 1 0, Value.int 2 0, Value.int 16 0, Value.int 10 0, Value.int 16 0, Value.int 13 0, Value.int 0 0, Value.int 7 0, Value.int 7 0, Value.int 16 0, Value.int 13 0, Value.int 16 0, Value.int 10 0, Value.int 15 0, Value.int 18 0, Value.int 5 0, Value.int 16 0, Value.int 10 0, Value.int 15 0, Value.int 13 0, Value.int 11 0, Value.int 16 0, Value.int 13 0, Value.int 5 0, Value.int 5 0, Value.int 0 0, Value.int 16 0, Value.int 10 0, Value.int 1 0, Value.int 15 0, Value.int 2 0, Value.int 0 0, Value.int 1 0] }
noncomputable def ob86 (_P : Params) : Obj := { cls := Value.type "re.Pattern", data := Data.fields #[Value.str (Str.ofString "(?:\\r\\n|\\n|\\r(?!\\n))") 301, Value.int 32 340, Value.int 0 0, Value.none, Value.none, Value.ref 40, Value.int 0 0] }
noncomputable def ob87 (_P : Params) : Obj := { cls := Value.type "tuple", data := Data.seq #[] }
noncomputable def ob88 (_P : Params) : Obj := { cls := Value.none, data := Data.fields #[] }
noncomputable def ob89 (_P : Params) : Obj := { cls := Value.type "tuple", data := Data.seq #[Value.str (Str.ofString "data") 347] }
noncomputable def ob90 (_P : Params) : Obj := { cls := Value.type "tuple", data := Data.seq #[] }
noncomputable def ob91 (_P : Params) : Obj := tobj 5
noncomputable def ob92 (_P : Params) : Obj := { cls := Value.type "code", data := Data.fields #[Value.str (Str.ofString "quotedata") 344, Value.str (Str.ofString "quotedata") 345, Value.str (Str.ofString "/claim/cut.py") 346, Value.int 6 0, Value.int 1 0, Value.int 0 0, Value.int 0 0, Value.int 3 0, Value.ref 42, Value.bool Bool.true, Value.int 276 0, Value.ref 43, Value.none, Value.ref 44, Value.ref 45, Value.ref 46, Value.int 348 0, Value.int 6 0, Value.str (Str.ofString "/claim/cut.py") 349] }
noncomputable def ob93 (_P : Params) : Obj := fobj 5 (Value.none) (Value.none) (Value.str (Str.ofString "cpy313.smtplib") 282) 47
noncomputable def ob94 (_P : Params) : Obj := { cls := Value.type "tuple", data := Data.seq #[Value.int 0 353, Value.none] }
noncomputable def ob95 (P : Params) : Obj := { cls := Value.type "dict", data := Data.dict #[{ hash := PyData.keyHash P (Str.ofString "key"), key := Value.str (Str.ofString "key") 354, val := Value.none }] 1 }
noncomputable def ob96 (_P : Params) : Obj := { cls := Value.type "tuple", data := Data.seq #[] }
noncomputable def ob97 (_P : Params) : Obj := { cls := Value.none, data := Data.fields #[] }
noncomputable def ob98 (_P : Params) : Obj := { cls := Value.type "tuple", data := Data.seq #[Value.str (Str.ofString "a") 358, Value.str (Str.ofString "x") 359, Value.str (Str.ofString "lo") 360, Value.str (Str.ofString "hi") 361, Value.str (Str.ofString "key") 362] }
noncomputable def ob99 (_P : Params) : Obj := { cls := Value.type "tuple", data := Data.seq #[] }
noncomputable def ob100 (_P : Params) : Obj := tobj 7
noncomputable def ob101 (_P : Params) : Obj := { cls := Value.type "code", data := Data.fields #[Value.str (Str.ofString "insort_right") 355, Value.str (Str.ofString "insort_right") 356, Value.str (Str.ofString "/claim/cut.py") 357, Value.int 9 0, Value.int 4 0, Value.int 0 0, Value.int 1 0, Value.int 3 0, Value.ref 51, Value.bool Bool.true, Value.int 276 0, Value.ref 52, Value.none, Value.ref 53, Value.ref 54, Value.ref 55, Value.int 363 0, Value.int 9 0, Value.str (Str.ofString "/claim/cut.py") 364] }
noncomputable def ob102 (_P : Params) : Obj := fobj 7 (Value.ref 49) (Value.ref 50) (Value.str (Str.ofString "cpy313.bisect") 351) 56
noncomputable def ob103 (_P : Params) : Obj := { cls := Value.type "tuple", data := Data.seq #[Value.int 0 366, Value.none] }
noncomputable def ob104 (P : Params) : Obj := { cls := Value.type "dict", data := Data.dict #[{ hash := PyData.keyHash P (Str.ofString "key"), key := Value.str (Str.ofString "key") 367, val := Value.none }] 1 }
noncomputable def ob105 (_P : Params) : Obj := { cls := Value.type "tuple", data := Data.seq #[] }
noncomputable def ob106 (_P : Params) : Obj := { cls := Value.none, data := Data.fields #[] }
noncomputable def ob107 (_P : Params) : Obj := { cls := Value.type "tuple", data := Data.seq #[Value.str (Str.ofString "a") 371, Value.str (Str.ofString "x") 372, Value.str (Str.ofString "lo") 373, Value.str (Str.ofString "hi") 374, Value.str (Str.ofString "key") 375, Value.str (Str.ofString "mid") 376] }
noncomputable def ob108 (_P : Params) : Obj := { cls := Value.type "tuple", data := Data.seq #[] }
noncomputable def ob109 (_P : Params) : Obj := tobj 8
noncomputable def ob110 (_P : Params) : Obj := { cls := Value.type "code", data := Data.fields #[Value.str (Str.ofString "bisect_right") 368, Value.str (Str.ofString "bisect_right") 369, Value.str (Str.ofString "/claim/cut.py") 370, Value.int 15 0, Value.int 4 0, Value.int 0 0, Value.int 1 0, Value.int 3 0, Value.ref 60, Value.bool Bool.true, Value.int 276 0, Value.ref 61, Value.none, Value.ref 62, Value.ref 63, Value.ref 64, Value.int 377 0, Value.int 15 0, Value.str (Str.ofString "/claim/cut.py") 378] }
noncomputable def ob111 (_P : Params) : Obj := fobj 8 (Value.ref 58) (Value.ref 59) (Value.str (Str.ofString "cpy313.bisect") 351) 65
noncomputable def ob112 (P : Params) : Obj := { cls := Value.type "dict", data := Data.dict #[{ hash := PyData.keyHash P (Str.ofString "__name__"), key := Value.str (Str.ofString "__name__") 165, val := Value.str (Str.ofString "cpy313.token") 423 }, { hash := PyData.keyHash P (Str.ofString "__doc__"), key := Value.str (Str.ofString "__doc__") 166, val := Value.none }, { hash := PyData.keyHash P (Str.ofString "__package__"), key := Value.str (Str.ofString "__package__") 167, val := Value.none }, { hash := PyData.keyHash P (Str.ofString "__loader__"), key := Value.str (Str.ofString "__loader__") 168, val := Value.builtin "__main__.__loader__#opaque" }, { hash := PyData.keyHash P (Str.ofString "__spec__"), key := Value.str (Str.ofString "__spec__") 169, val := Value.none }, { hash := PyData.keyHash P (Str.ofString "__annotations__"), key := Value.str (Str.ofString "__annotations__") 170, val := Value.ref 6 }, { hash := PyData.keyHash P (Str.ofString "__builtins__"), key := Value.str (Str.ofString "__builtins__") 171, val := Value.ref 4 }, { hash := PyData.keyHash P (Str.ofString "__file__"), key := Value.str (Str.ofString "__file__") 173, val := Value.str (Str.ofString "/claim/cut.py") 172 }, { hash := PyData.keyHash P (Str.ofString "__cached__"), key := Value.str (Str.ofString "__cached__") 174, val := Value.none }, { hash := PyData.keyHash P (Str.ofString "_sre"), key := Value.str (Str.ofString "_sre") 275, val := Value.ref 12 }, { hash := PyData.keyHash P (Str.ofString "_twin_re_1"), key := Value.str (Str.ofString "_twin_re_1") 299, val := Value.ref 36 }, { hash := PyData.keyHash P (Str.ofString "_twin_re_2"), key := Value.str (Str.ofString "_twin_re_2") 341, val := Value.ref 41 }, { hash := PyData.keyHash P (Str.ofString "CRLF"), key := Value.str (Str.ofString "CRLF") 343, val := Value.str (Str.ofString "\x0d\n") 342 }, { hash := PyData.keyHash P (Str.ofString "quotedata"), key := Value.str (Str.ofString "quotedata") 350, val := Value.ref 48 }, { hash := PyData.keyHash P (Str.ofString "insort_right"), key := Value.str (Str.ofString "insort_right") 365, val := Value.ref 57 }, { hash := PyData.keyHash P (Str.ofString "bisect_right"), key := Value.str (Str.ofString "bisect_right") 379, val := Value.ref 66 }, { hash := PyData.keyHash P (Str.ofString "COMPILER_FLAG_NAMES"), key := Value.str (Str.ofString "COMPILER_FLAG_NAMES") 412, val := Value.ref 67 }, { hash := PyData.keyHash P (Str.ofString "pretty_flags"), key := Value.str (Str.ofString "pretty_flags") 422, val := Value.ref 74 }, { hash := PyData.keyHash P (Str.ofString "ENDMARKER"), key := Value.str (Str.ofString "ENDMARKER") 426, val := Value.int 0 425 }, { hash := PyData.keyHash P (Str.ofString "LPAR"), key := Value.str (Str.ofString "LPAR") 428, val := Value.int 7 427 }, { hash := PyData.keyHash P (Str.ofString "RPAR"), key := Value.str (Str.ofString "RPAR") 430, val := Value.int 8 429 }, { hash := PyData.keyHash P (Str.ofString "LSQB"), key := Value.str (Str.ofString "LSQB") 432, val := Value.int 9 431 }, { hash := PyData.keyHash P (Str.ofString "RSQB"), key := Value.str (Str.ofString "RSQB") 434, val := Value.int 10 433 }, { hash := PyData.keyHash P (Str.ofString "COLON"), key := Value.str (Str.ofString "COLON") 436, val := Value.int 11 435 }, { hash := PyData.keyHash P (Str.ofString "COMMA"), key := Value.str (Str.ofString "COMMA") 438, val := Value.int 12 437 }, { hash := PyData.keyHash P (Str.ofString "SEMI"), key := Value.str (Str.ofString "SEMI") 440, val := Value.int 13 439 }, { hash := PyData.keyHash P (Str.ofString "PLUS"), key := Value.str (Str.ofString "PLUS") 442, val := Value.int 14 441 }, { hash := PyData.keyHash P (Str.ofString "MINUS"), key := Value.str (Str.ofString "MINUS") 444, val := Value.int 15 443 }, { hash := PyData.keyHash P (Str.ofString "STAR"), key := Value.str (Str.ofString "STAR") 446, val := Value.int 16 445 }, { hash := PyData.keyHash P (Str.ofString "SLASH"), key := Value.str (Str.ofString "SLASH") 448, val := Value.int 17 447 }, { hash := PyData.keyHash P (Str.ofString "VBAR"), key := Value.str (Str.ofString "VBAR") 450, val := Value.int 18 449 }, { hash := PyData.keyHash P (Str.ofString "AMPER"), key := Value.str (Str.ofString "AMPER") 452, val := Value.int 19 451 }, { hash := PyData.keyHash P (Str.ofString "LESS"), key := Value.str (Str.ofString "LESS") 454, val := Value.int 20 453 }, { hash := PyData.keyHash P (Str.ofString "GREATER"), key := Value.str (Str.ofString "GREATER") 456, val := Value.int 21 455 }, { hash := PyData.keyHash P (Str.ofString "EQUAL"), key := Value.str (Str.ofString "EQUAL") 458, val := Value.int 22 457 }, { hash := PyData.keyHash P (Str.ofString "DOT"), key := Value.str (Str.ofString "DOT") 460, val := Value.int 23 459 }, { hash := PyData.keyHash P (Str.ofString "PERCENT"), key := Value.str (Str.ofString "PERCENT") 462, val := Value.int 24 461 }, { hash := PyData.keyHash P (Str.ofString "LBRACE"), key := Value.str (Str.ofString "LBRACE") 464, val := Value.int 25 463 }, { hash := PyData.keyHash P (Str.ofString "RBRACE"), key := Value.str (Str.ofString "RBRACE") 466, val := Value.int 26 465 }, { hash := PyData.keyHash P (Str.ofString "EQEQUAL"), key := Value.str (Str.ofString "EQEQUAL") 468, val := Value.int 27 467 }, { hash := PyData.keyHash P (Str.ofString "NOTEQUAL"), key := Value.str (Str.ofString "NOTEQUAL") 470, val := Value.int 28 469 }, { hash := PyData.keyHash P (Str.ofString "LESSEQUAL"), key := Value.str (Str.ofString "LESSEQUAL") 472, val := Value.int 29 471 }] 42 }
noncomputable def ob113 (_P : Params) : Obj := { cls := Value.none, data := Data.fields #[Value.int 6 0, Value.int 0 0, Value.ref 47, Value.int 9 0, Value.int 0 0, Value.ref 56, Value.int 15 0, Value.int 0 0, Value.ref 65, Value.int 37 0, Value.int 0 0, Value.ref 73] }
noncomputable def ob114 (_P : Params) : Obj := { cls := Value.type "dict", data := Data.dict #[{ hash := 1, key := Value.int 1 382, val := Value.str (Str.ofString "OPTIMIZED") 383 }, { hash := 2, key := Value.int 2 384, val := Value.str (Str.ofString "NEWLOCALS") 385 }, { hash := 4, key := Value.int 4 386, val := Value.str (Str.ofString "VARARGS") 387 }, { hash := 8, key := Value.int 8 388, val := Value.str (Str.ofString "VARKEYWORDS") 389 }, { hash := 16, key := Value.int 16 390, val := Value.str (Str.ofString "NESTED") 391 }, { hash := 32, key := Value.int 32 392, val := Value.str (Str.ofString "GENERATOR") 393 }, { hash := 64, key := Value.int 64 394, val := Value.str (Str.ofString "NOFREE") 395 }, { hash := 128, key := Value.int 128 396, val := Value.str (Str.ofString "COROUTINE") 397 }, { hash := 256, key := Value.int 256 398, val := Value.str (Str.ofString "ITERABLE_COROUTINE") 399 }, { hash := 512, key := Value.int 512 400, val := Value.str (Str.ofString "ASYNC_GENERATOR") 401 }] 10 }
noncomputable def ob115 (_P : Params) : Obj := { cls := Value.type "tuple", data := Data.seq #[] }
noncomputable def ob116 (_P : Params) : Obj := { cls := Value.none, data := Data.fields #[] }
noncomputable def ob117 (_P : Params) : Obj := { cls := Value.type "tuple", data := Data.seq #[Value.str (Str.ofString "flags") 416, Value.str (Str.ofString "names") 417, Value.str (Str.ofString "i") 418, Value.str (Str.ofString "flag") 419] }
noncomputable def ob118 (_P : Params) : Obj := { cls := Value.type "tuple", data := Data.seq #[] }
noncomputable def ob119 (_P : Params) : Obj := tobj 11
noncomputable def ob120 (_P : Params) : Obj := { cls := Value.type "code", data := Data.fields #[Value.str (Str.ofString "pretty_flags") 413, Value.str (Str.ofString "pretty_flags") 414, Value.str (Str.ofString "/claim/cut.py") 415, Value.int 37 0, Value.int 1 0, Value.int 0 0, Value.int 0 0, Value.int 3 0, Value.ref 68, Value.bool Bool.true, Value.int 276 0, Value.ref 69, Value.none, Value.ref 70, Value.ref 71, Value.ref 72, Value.int 420 0, Value.int 37 0, Value.str (Str.ofString "/claim/cut.py") 421] }
noncomputable def ob121 (_P : Params) : Obj := fobj 11 (Value.none) (Value.none) (Value.str (Str.ofString "cpy313.dis") 380) 73
noncomputable def ob124 (P : Params) : Obj := { cls := Value.type "dict", data := Data.dict #[{ hash := PyData.keyHash P (Str.ofString "__name__"), key := Value.str (Str.ofString "__name__") 165, val := Value.str (Str.ofString "cpy313.token") 423 }, { hash := PyData.keyHash P (Str.ofString "__doc__"), key := Value.str (Str.ofString "__doc__") 166, val := Value.none }, { hash := PyData.keyHash P (Str.ofString "__package__"), key := Value.str (Str.ofString "__package__") 167, val := Value.none }, { hash := PyData.keyHash P (Str.ofString "__loader__"), key := Value.str (Str.ofString "__loader__") 168, val := Value.builtin "__main__.__loader__#opaque" }, { hash := PyData.keyHash P (Str.ofString "__spec__"), key := Value.str (Str.ofString "__spec__") 169, val := Value.none }, { hash := PyData.keyHash P (Str.ofString "__annotations__"), key := Value.str (Str.ofString "__annotations__") 170, val := Value.ref 6 }, { hash := PyData.keyHash P (Str.ofString "__builtins__"), key := Value.str (Str.ofString "__builtins__") 171, val := Value.ref 4 }, { hash := PyData.keyHash P (Str.ofString "__file__"), key := Value.str (Str.ofString "__file__") 173, val := Value.str (Str.ofString "/claim/cut.py") 172 }, { hash := PyData.keyHash P (Str.ofString "__cached__"), key := Value.str (Str.ofString "__cached__") 174, val := Value.none }, { hash := PyData.keyHash P (Str.ofString "_sre"), key := Value.str (Str.ofString "_sre") 275, val := Value.ref 12 }, { hash := PyData.keyHash P (Str.ofString "_twin_re_1"), key := Value.str (Str.ofString "_twin_re_1") 299, val := Value.ref 36 }, { hash := PyData.keyHash P (Str.ofString "_twin_re_2"), key := Value.str (Str.ofString "_twin_re_2") 341, val := Value.ref 41 }, { hash := PyData.keyHash P (Str.ofString "CRLF"), key := Value.str (Str.ofString "CRLF") 343, val := Value.str (Str.ofString "\x0d\n") 342 }, { hash := PyData.keyHash P (Str.ofString "quotedata"), key := Value.str (Str.ofString "quotedata") 350, val := Value.ref 48 }, { hash := PyData.keyHash P (Str.ofString "insort_right"), key := Value.str (Str.ofString "insort_right") 365, val := Value.ref 57 }, { hash := PyData.keyHash P (Str.ofString "bisect_right"), key := Value.str (Str.ofString "bisect_right") 379, val := Value.ref 66 }, { hash := PyData.keyHash P (Str.ofString "COMPILER_FLAG_NAMES"), key := Value.str (Str.ofString "COMPILER_FLAG_NAMES") 412, val := Value.ref 67 }, { hash := PyData.keyHash P (Str.ofString "pretty_flags"), key := Value.str (Str.ofString "pretty_flags") 422, val := Value.ref 74 }, { hash := PyData.keyHash P (Str.ofString "ENDMARKER"), key := Value.str (Str.ofString "ENDMARKER") 426, val := Value.int 0 425 }, { hash := PyData.keyHash P (Str.ofString "LPAR"), key := Value.str (Str.ofString "LPAR") 428, val := Value.int 7 427 }, { hash := PyData.keyHash P (Str.ofString "RPAR"), key := Value.str (Str.ofString "RPAR") 430, val := Value.int 8 429 }, { hash := PyData.keyHash P (Str.ofString "LSQB"), key := Value.str (Str.ofString "LSQB") 432, val := Value.int 9 431 }, { hash := PyData.keyHash P (Str.ofString "RSQB"), key := Value.str (Str.ofString "RSQB") 434, val := Value.int 10 433 }, { hash := PyData.keyHash P (Str.ofString "COLON"), key := Value.str (Str.ofString "COLON") 436, val := Value.int 11 435 }, { hash := PyData.keyHash P (Str.ofString "COMMA"), key := Value.str (Str.ofString "COMMA") 438, val := Value.int 12 437 }, { hash := PyData.keyHash P (Str.ofString "SEMI"), key := Value.str (Str.ofString "SEMI") 440, val := Value.int 13 439 }, { hash := PyData.keyHash P (Str.ofString "PLUS"), key := Value.str (Str.ofString "PLUS") 442, val := Value.int 14 441 }, { hash := PyData.keyHash P (Str.ofString "MINUS"), key := Value.str (Str.ofString "MINUS") 444, val := Value.int 15 443 }, { hash := PyData.keyHash P (Str.ofString "STAR"), key := Value.str (Str.ofString "STAR") 446, val := Value.int 16 445 }, { hash := PyData.keyHash P (Str.ofString "SLASH"), key := Value.str (Str.ofString "SLASH") 448, val := Value.int 17 447 }, { hash := PyData.keyHash P (Str.ofString "VBAR"), key := Value.str (Str.ofString "VBAR") 450, val := Value.int 18 449 }, { hash := PyData.keyHash P (Str.ofString "AMPER"), key := Value.str (Str.ofString "AMPER") 452, val := Value.int 19 451 }, { hash := PyData.keyHash P (Str.ofString "LESS"), key := Value.str (Str.ofString "LESS") 454, val := Value.int 20 453 }, { hash := PyData.keyHash P (Str.ofString "GREATER"), key := Value.str (Str.ofString "GREATER") 456, val := Value.int 21 455 }, { hash := PyData.keyHash P (Str.ofString "EQUAL"), key := Value.str (Str.ofString "EQUAL") 458, val := Value.int 22 457 }, { hash := PyData.keyHash P (Str.ofString "DOT"), key := Value.str (Str.ofString "DOT") 460, val := Value.int 23 459 }, { hash := PyData.keyHash P (Str.ofString "PERCENT"), key := Value.str (Str.ofString "PERCENT") 462, val := Value.int 24 461 }, { hash := PyData.keyHash P (Str.ofString "LBRACE"), key := Value.str (Str.ofString "LBRACE") 464, val := Value.int 25 463 }, { hash := PyData.keyHash P (Str.ofString "RBRACE"), key := Value.str (Str.ofString "RBRACE") 466, val := Value.int 26 465 }, { hash := PyData.keyHash P (Str.ofString "EQEQUAL"), key := Value.str (Str.ofString "EQEQUAL") 468, val := Value.int 27 467 }, { hash := PyData.keyHash P (Str.ofString "NOTEQUAL"), key := Value.str (Str.ofString "NOTEQUAL") 470, val := Value.int 28 469 }, { hash := PyData.keyHash P (Str.ofString "LESSEQUAL"), key := Value.str (Str.ofString "LESSEQUAL") 472, val := Value.int 29 471 }, { hash := PyData.keyHash P (Str.ofString "GREATEREQUAL"), key := Value.str (Str.ofString "GREATEREQUAL") 474, val := Value.int 30 473 }, { hash := PyData.keyHash P (Str.ofString "TILDE"), key := Value.str (Str.ofString "TILDE") 476, val := Value.int 31 475 }, { hash := PyData.keyHash P (Str.ofString "CIRCUMFLEX"), key := Value.str (Str.ofString "CIRCUMFLEX") 478, val := Value.int 32 477 }, { hash := PyData.keyHash P (Str.ofString "LEFTSHIFT"), key := Value.str (Str.ofString "LEFTSHIFT") 480, val := Value.int 33 479 }, { hash := PyData.keyHash P (Str.ofString "RIGHTSHIFT"), key := Value.str (Str.ofString "RIGHTSHIFT") 482, val := Value.int 34 481 }, { hash := PyData.keyHash P (Str.ofString "DOUBLESTAR"), key := Value.str (Str.ofString "DOUBLESTAR") 484, val := Value.int 35 483 }, { hash := PyData.keyHash P (Str.ofString "PLUSEQUAL"), key := Value.str (Str.ofString "PLUSEQUAL") 486, val := Value.int 36 485 }, { hash := PyData.keyHash P (Str.ofString "MINEQUAL"), key := Value.str (Str.ofString "MINEQUAL") 488, val := Value.int 37 487 }, { hash := PyData.keyHash P (Str.ofString "STAREQUAL"), key := Value.str (Str.ofString "STAREQUAL") 490, val := Value.int 38 489 }, { hash := PyData.keyHash P (Str.ofString "SLASHEQUAL"), key := Value.str (Str.ofString "SLASHEQUAL") 492, val := Value.int 39 491 }, { hash := PyData.keyHash P (Str.ofString "PERCENTEQUAL"), key := Value.str (Str.ofString "PERCENTEQUAL") 494, val := Value.int 40 493 }, { hash := PyData.keyHash P (Str.ofString "AMPEREQUAL"), key := Value.str (Str.ofString "AMPEREQUAL") 496, val := Value.int 41 495 }, { hash := PyData.keyHash P (Str.ofString "VBAREQUAL"), key := Value.str (Str.ofString "VBAREQUAL") 498, val := Value.int 42 497 }, { hash := PyData.keyHash P (Str.ofString "CIRCUMFLEXEQUAL"), key := Value.str (Str.ofString "CIRCUMFLEXEQUAL") 500, val := Value.int 43 499 }, { hash := PyData.keyHash P (Str.ofString "LEFTSHIFTEQUAL"), key := Value.str (Str.ofString "LEFTSHIFTEQUAL") 502, val := Value.int 44 501 }, { hash := PyData.keyHash P (Str.ofString "RIGHTSHIFTEQUAL"), key := Value.str (Str.ofString "RIGHTSHIFTEQUAL") 504, val := Value.int 45 503 }, { hash := PyData.keyHash P (Str.ofString "DOUBLESTAREQUAL"), key := Value.str (Str.ofString "DOUBLESTAREQUAL") 506, val := Value.int 46 505 }, { hash := PyData.keyHash P (Str.ofString "DOUBLESLASH"), key := Value.str (Str.ofString "DOUBLESLASH") 508, val := Value.int 47 507 }, { hash := PyData.keyHash P (Str.ofString "DOUBLESLASHEQUAL"), key := Value.str (Str.ofString "DOUBLESLASHEQUAL") 510, val := Value.int 48 509 }, { hash := PyData.keyHash P (Str.ofString "AT"), key := Value.str (Str.ofString "AT") 512, val := Value.int 49 511 }, { hash := PyData.keyHash P (Str.ofString "ATEQUAL"), key := Value.str (Str.ofString "ATEQUAL") 514, val := Value.int 50 513 }, { hash := PyData.keyHash P (Str.ofString "RARROW"), key := Value.str (Str.ofString "RARROW") 516, val := Value.int 51 515 }, { hash := PyData.keyHash P (Str.ofString "ELLIPSIS"), key := Value.str (Str.ofString "ELLIPSIS") 518, val := Value.int 52 517 }, { hash := PyData.keyHash P (Str.ofString "COLONEQUAL"), key := Value.str (Str.ofString "COLONEQUAL") 520, val := Value.int 53 519 }, { hash := PyData.keyHash P (Str.ofString "EXCLAMATION"), key := Value.str (Str.ofString "EXCLAMATION") 522, val := Value.int 54 521 }] 67 }
noncomputable def ob126 (P : Params) : Obj := { cls := Value.type "dict", data := Data.dict #[{ hash := PyData.keyHash P (Str.ofString "__name__"), key := Value.str (Str.ofString "__name__") 165, val := Value.str (Str.ofString "cpy313.token") 423 }, { hash := PyData.keyHash P (Str.ofString "__doc__"), key := Value.str (Str.ofString "__doc__") 166, val := Value.none }, { hash := PyData.keyHash P (Str.ofString "__package__"), key := Value.str (Str.ofString "__package__") 167, val := Value.none }, { hash := PyData.keyHash P (Str.ofString "__loader__"), key := Value.str (Str.ofString "__loader__") 168, val := Value.builtin "__main__.__loader__#opaque" }, { hash := PyData.keyHash P (Str.ofString "__spec__"), key := Value.str (Str.ofString "__spec__") 169, val := Value.none }, { hash := PyData.keyHash P (Str.ofString "__annotations__"), key := Value.str (Str.ofString "__annotations__") 170, val := Value.ref 6 }, { hash := PyData.keyHash P (Str.ofString "__builtins__"), key := Value.str (Str.ofString "__builtins__") 171, val := Value.ref 4 }, { hash := PyData.keyHash P (Str.ofString "__file__"), key := Value.str (Str.ofString "__file__") 173, val := Value.str (Str.ofString "/claim/cut.py") 172 }, { hash := PyData.keyHash P (Str.ofString "__cached__"), key := Value.str (Str.ofString "__cached__") 174, val := Value.none }, { hash := PyData.keyHash P (Str.ofString "_sre"), key := Value.str (Str.ofString "_sre") 275, val := Value.ref 12 }, { hash := PyData.keyHash P (Str.ofString "_twin_re_1"), key := Value.str (Str.ofString "_twin_re_1") 299, val := Value.ref 36 }, { hash := PyData.keyHash P (Str.ofString "_twin_re_2"), key := Value.str (Str.ofString "_twin_re_2") 341, val := Value.ref 41 }, { hash := PyData.keyHash P (Str.ofString "CRLF"), key := Value.str (Str.ofString "CRLF") 343, val := Value.str (Str.ofString "\x0d\n") 342 }, { hash := PyData.keyHash P (Str.ofString "quotedata"), key := Value.str (Str.ofString "quotedata") 350, val := Value.ref 48 }, { hash := PyData.keyHash P (Str.ofString "insort_right"), key := Value.str (Str.ofString "insort_right") 365, val := Value.ref 57 }, { hash := PyData.keyHash P (Str.ofString "bisect_right"), key := Value.str (Str.ofString "bisect_right") 379, val := Value.ref 66 }, { hash := PyData.keyHash P (Str.ofString "COMPILER_FLAG_NAMES"), key := Value.str (Str.ofString "COMPILER_FLAG_NAMES") 412, val := Value.ref 67 }, { hash := PyData.keyHash P (Str.ofString "pretty_flags"), key := Value.str (Str.ofString "pretty_flags") 422, val := Value.ref 74 }, { hash := PyData.keyHash P (Str.ofString "ENDMARKER"), key := Value.str (Str.ofString "ENDMARKER") 426, val := Value.int 0 425 }, { hash := PyData.keyHash P (Str.ofString "LPAR"), key := Value.str (Str.ofString "LPAR") 428, val := Value.int 7 427 }, { hash := PyData.keyHash P (Str.ofString "RPAR"), key := Value.str (Str.ofString "RPAR") 430, val := Value.int 8 429 }, { hash := PyData.keyHash P (Str.ofString "LSQB"), key := Value.str (Str.ofString "LSQB") 432, val := Value.int 9 431 }, { hash := PyData.keyHash P (Str.ofString "RSQB"), key := Value.str (Str.ofString "RSQB") 434, val := Value.int 10 433 }, { hash := PyData.keyHash P (Str.ofString "COLON"), key := Value.str (Str.ofString "COLON") 436, val := Value.int 11 435 }, { hash := PyData.keyHash P (Str.ofString "COMMA"), key := Value.str (Str.ofString "COMMA") 438, val := Value.int 12 437 }, { hash := PyData.keyHash P (Str.ofString "SEMI"), key := Value.str (Str.ofString "SEMI") 440, val := Value.int 13 439 }, { hash := PyData.keyHash P (Str.ofString "PLUS"), key := Value.str (Str.ofString "PLUS") 442, val := Value.int 14 441 }, { hash := PyData.keyHash P (Str.ofString "MINUS"), key := Value.str (Str.ofString "MINUS") 444, val := Value.int 15 443 }, { hash := PyData.keyHash P (Str.ofString "STAR"), key := Value.str (Str.ofString "STAR") 446, val := Value.int 16 445 }, { hash := PyData.keyHash P (Str.ofString "SLASH"), key := Value.str (Str.ofString "SLASH") 448, val := Value.int 17 447 }, { hash := PyData.keyHash P (Str.ofString "VBAR"), key := Value.str (Str.ofString "VBAR") 450, val := Value.int 18 449 }, { hash := PyData.keyHash P (Str.ofString "AMPER"), key := Value.str (Str.ofString "AMPER") 452, val := Value.int 19 451 }, { hash := PyData.keyHash P (Str.ofString "LESS"), key := Value.str (Str.ofString "LESS") 454, val := Value.int 20 453 }, { hash := PyData.keyHash P (Str.ofString "GREATER"), key := Value.str (Str.ofString "GREATER") 456, val := Value.int 21 455 }, { hash := PyData.keyHash P (Str.ofString "EQUAL"), key := Value.str (Str.ofString "EQUAL") 458, val := Value.int 22 457 }, { hash := PyData.keyHash P (Str.ofString "DOT"), key := Value.str (Str.ofString "DOT") 460, val := Value.int 23 459 }, { hash := PyData.keyHash P (Str.ofString "PERCENT"), key := Value.str (Str.ofString "PERCENT") 462, val := Value.int 24 461 }, { hash := PyData.keyHash P (Str.ofString "LBRACE"), key := Value.str (Str.ofString "LBRACE") 464, val := Value.int 25 463 }, { hash := PyData.keyHash P (Str.ofString "RBRACE"), key := Value.str (Str.ofString "RBRACE") 466, val := Value.int 26 465 }, { hash := PyData.keyHash P (Str.ofString "EQEQUAL"), key := Value.str (Str.ofString "EQEQUAL") 468, val := Value.int 27 467 }, { hash := PyData.keyHash P (Str.ofString "NOTEQUAL"), key := Value.str (Str.ofString "NOTEQUAL") 470, val := Value.int 28 469 }, { hash := PyData.keyHash P (Str.ofString "LESSEQUAL"), key := Value.str (Str.ofString "LESSEQUAL") 472, val := Value.int 29 471 }, { hash := PyData.keyHash P (Str.ofString "GREATEREQUAL"), key := Value.str (Str.ofString "GREATEREQUAL") 474, val := Value.int 30 473 }, { hash := PyData.keyHash P (Str.ofString "TILDE"), key := Value.str (Str.ofString "TILDE") 476, val := Value.int 31 475 }, { hash := PyData.keyHash P (Str.ofString "CIRCUMFLEX"), key := Value.str (Str.ofString "CIRCUMFLEX") 478, val := Value.int 32 477 }, { hash := PyData.keyHash P (Str.ofString "LEFTSHIFT"), key := Value.str (Str.ofString "LEFTSHIFT") 480, val := Value.int 33 479 }, { hash := PyData.keyHash P (Str.ofString "RIGHTSHIFT"), key := Value.str (Str.ofString "RIGHTSHIFT") 482, val := Value.int 34 481 }, { hash := PyData.keyHash P (Str.ofString "DOUBLESTAR"), key := Value.str (Str.ofString "DOUBLESTAR") 484, val := Value.int 35 483 }, { hash := PyData.keyHash P (Str.ofString "PLUSEQUAL"), key := Value.str (Str.ofString "PLUSEQUAL") 486, val := Value.int 36 485 }, { hash := PyData.keyHash P (Str.ofString "MINEQUAL"), key := Value.str (Str.ofString "MINEQUAL") 488, val := Value.int 37 487 }, { hash := PyData.keyHash P (Str.ofString "STAREQUAL"), key := Value.str (Str.ofString "STAREQUAL") 490, val := Value.int 38 489 }, { hash := PyData.keyHash P (Str.ofString "SLASHEQUAL"), key := Value.str (Str.ofString "SLASHEQUAL") 492, val := Value.int 39 491 }, { hash := PyData.keyHash P (Str.ofString "PERCENTEQUAL"), key := Value.str (Str.ofString "PERCENTEQUAL") 494, val := Value.int 40 493 }, { hash := PyData.keyHash P (Str.ofString "AMPEREQUAL"), key := Value.str (Str.ofString "AMPEREQUAL") 496, val := Value.int 41 495 }, { hash := PyData.keyHash P (Str.ofString "VBAREQUAL"), key := Value.str (Str.ofString "VBAREQUAL") 498, val := Value.int 42 497 }, { hash := PyData.keyHash P (Str.ofString "CIRCUMFLEXEQUAL"), key := Value.str (Str.ofString "CIRCUMFLEXEQUAL") 500, val := Value.int 43 499 }, { hash := PyData.keyHash P (Str.ofString "LEFTSHIFTEQUAL"), key := Value.str (Str.ofString "LEFTSHIFTEQUAL") 502, val := Value.int 44 501 }, { hash := PyData.keyHash P (Str.ofString "RIGHTSHIFTEQUAL"), key := Value.str (Str.ofString "RIGHTSHIFTEQUAL") 504, val := Value.int 45 503 }, { hash := PyData.keyHash P (Str.ofString "DOUBLESTAREQUAL"), key := Value.str (Str.ofString "DOUBLESTAREQUAL") 506, val := Value.int 46 505 }, { hash := PyData.keyHash P (Str.ofString "DOUBLESLASH"), key := Value.str (Str.ofString "DOUBLESLASH") 508, val := Value.int 47 507 }, { hash := PyData.keyHash P (Str.ofString "DOUBLESLASHEQUAL"), key := Value.str (Str.ofString "DOUBLESLASHEQUAL") 510, val := Value.int 48 509 }, { hash := PyData.keyHash P (Str.ofString "AT"), key := Value.str (Str.ofString "AT") 512, val := Value.int 49 511 }, { hash := PyData.keyHash P (Str.ofString "ATEQUAL"), key := Value.str (Str.ofString "ATEQUAL") 514, val := Value.int 50 513 }, { hash := PyData.keyHash P (Str.ofString "RARROW"), key := Value.str (Str.ofString "RARROW") 516, val := Value.int 51 515 }, { hash := PyData.keyHash P (Str.ofString "ELLIPSIS"), key := Value.str (Str.ofString "ELLIPSIS") 518, val := Value.int 52 517 }, { hash := PyData.keyHash P (Str.ofString "COLONEQUAL"), key := Value.str (Str.ofString "COLONEQUAL") 520, val := Value.int 53 519 }, { hash := PyData.keyHash P (Str.ofString "EXCLAMATION"), key := Value.str (Str.ofString "EXCLAMATION") 522, val := Value.int 54 521 }, { hash := PyData.keyHash P (Str.ofString "EXACT_TOKEN_TYPES"), key := Value.str (Str.ofString "EXACT_TOKEN_TYPES") 619, val := Value.ref 75 }] 68 }
noncomputable def ob127 (P : Params) : Obj := { cls := Value.type "dict", data := Data.dict #[{ hash := PyData.keyHash P (Str.ofString "!"), key := Value.str (Str.ofString "!") 523, val := Value.int 54 521 }, { hash := PyData.keyHash P (Str.ofString "!="), key := Value.str (Str.ofString "!=") 525, val := Value.int 28 469 }, { hash := PyData.keyHash P (Str.ofString "%"), key := Value.str (Str.ofString "%") 527, val := Value.int 24 461 }, { hash := PyData.keyHash P (Str.ofString "%="), key := Value.str (Str.ofString "%=") 529, val := Value.int 40 493 }, { hash := PyData.keyHash P (Str.ofString "&"), key := Value.str (Str.ofString "&") 531, val := Value.int 19 451 }, { hash := PyData.keyHash P (Str.ofString "&="), key := Value.str (Str.ofString "&=") 533, val := Value.int 41 495 }, { hash := PyData.keyHash P (Str.ofString "("), key := Value.str (Str.ofString "(") 535, val := Value.int 7 427 }, { hash := PyData.keyHash P (Str.ofString ")"), key := Value.str (Str.ofString ")") 537, val := Value.int 8 429 }, { hash := PyData.keyHash P (Str.ofString "*"), key := Value.str (Str.ofString "*") 539, val := Value.int 16 445 }, { hash := PyData.keyHash P (Str.ofString "**"), key := Value.str (Str.ofString "**") 541, val := Value.int 35 483 }, { hash := PyData.keyHash P (Str.ofString "**="), key := Value.str (Str.ofString "**=") 543, val := Value.int 46 505 }, { hash := PyData.keyHash P (Str.ofString "*="), key := Value.str (Str.ofString "*=") 545, val := Value.int 38 489 }, { hash := PyData.keyHash P (Str.ofString "+"), key := Value.str (Str.ofString "+") 547, val := Value.int 14 441 }, { hash := PyData.keyHash P (Str.ofString "+="), key := Value.str (Str.ofString "+=") 549, val := Value.int 36 485 }, { hash := PyData.keyHash P (Str.ofString ","), key := Value.str (Str.ofString ",") 551, val := Value.int 12 437 }, { hash := PyData.keyHash P (Str.ofString "-"), key := Value.str (Str.ofString "-") 553, val := Value.int 15 443 }, { hash := PyData.keyHash P (Str.ofString "-="), key := Value.str (Str.ofString "-=") 555, val := Value.int 37 487 }, { hash := PyData.keyHash P (Str.ofString "->"), key := Value.str (Str.ofString "->") 557, val := Value.int 51 515 }, { hash := PyData.keyHash P (Str.ofString "."), key := Value.str (Str.ofString ".") 559, val := Value.int 23 459 }, { hash := PyData.keyHash P (Str.ofString "..."), key := Value.str (Str.ofString "...") 561, val := Value.int 52 517 }, { hash := PyData.keyHash P (Str.ofString "/"), key := Value.str (Str.ofString "/") 563, val := Value.int 17 447 }, { hash := PyData.keyHash P (Str.ofString "//"), key := Value.str (Str.ofString "//") 565, val := Value.int 47 507 }, { hash := PyData.keyHash P (Str.ofString "//="), key := Value.str (Str.ofString "//=") 567, val := Value.int 48 509 }, { hash := PyData.keyHash P (Str.ofString "/="), key := Value.str (Str.ofString "/=") 569, val := Value.int 39 491 }, { hash := PyData.keyHash P (Str.ofString ":"), key := Value.str (Str.ofString ":") 571, val := Value.int 11 435 }, { hash := PyData.keyHash P (Str.ofString ":="), key := Value.str (Str.ofString ":=") 573, val := Value.int 53 519 }, { hash := PyData.keyHash P (Str.ofString ";"), key := Value.str (Str.ofString ";") 575, val := Value.int 13 439 }, { hash := PyData.keyHash P (Str.ofString "<"), key := Value.str (Str.ofString "<") 577, val := Value.int 20 453 }, { hash := PyData.keyHash P (Str.ofString "<<"), key := Value.str (Str.ofString "<<") 579, val := Value.int 33 479 }, { hash := PyData.keyHash P (Str.ofString "<<="), key := Value.str (Str.ofString "<<=") 581, val := Value.int 44 501 }, { hash := PyData.keyHash P (Str.ofString "<="), key := Value.str (Str.ofString "<=") 583, val := Value.int 29 471 }, { hash := PyData.keyHash P (Str.ofString "="), key := Value.str (Str.ofString "=") 585, val := Value.int 22 457 }, { hash := PyData.keyHash P (Str.ofString "=="), key := Value.str (Str.ofString "==") 587, val := Value.int 27 467 }, { hash := PyData.keyHash P (Str.ofString ">"), key := Value.str (Str.ofString ">") 589, val := Value.int 21 455 }, { hash := PyData.keyHash P (Str.ofString ">="), key := Value.str (Str.ofString ">=") 591, val := Value.int 30 473 }, { hash := PyData.keyHash P (Str.ofString ">>"), key := Value.str (Str.ofString ">>") 592, val := Value.int 34 481 }, { hash := PyData.keyHash P (Str.ofString ">>="), key := Value.str (Str.ofString ">>=") 593, val := Value.int 45 503 }, { hash := PyData.keyHash P (Str.ofString "@"), key := Value.str (Str.ofString "@") 594, val := Value.int 49 511 }, { hash := PyData.keyHash P (Str.ofString "@="), key := Value.str (Str.ofString "@=") 595, val := Value.int 50 513 }, { hash := PyData.keyHash P (Str.ofString "["), key := Value.str (Str.ofString "[") 596, val := Value.int 9 431 }, { hash := PyData.keyHash P (Str.ofString "]"), key := Value.str (Str.ofString "]") 597, val := Value.int 10 433 }, { hash := PyData.keyHash P (Str.ofString "^"), key := Value.str (Str.ofString "^") 598, val := Value.int 32 477 }, { hash := PyData.keyHash P (Str.ofString "^="), key := Value.str (Str.ofString "^=") 599, val := Value.int 43 499 }, { hash := PyData.keyHash P (Str.ofString "{"), key := Value.str (Str.ofString "{") 600, val := Value.int 25 463 }, { hash := PyData.keyHash P (Str.ofString "|"), key := Value.str (Str.ofString "|") 601, val := Value.int 18 449 }, { hash := PyData.keyHash P (Str.ofString "|="), key := Value.str (Str.ofString "|=") 602, val := Value.int 42 497 }, { hash := PyData.keyHash P (Str.ofString "}"), key := Value.str (Str.ofString "}") 603, val := Value.int 26 465 }, { hash := PyData.keyHash P (Str.ofString "~"), key := Value.str (Str.ofString "~") 604, val := Value.int 31 475 }] 48 }
noncomputable def ob128 (P : Params) : Obj := { cls := Value.type "dict", data := Data.dict #[{ hash := PyData.keyHash P (Str.ofString "->"), key := Value.str (Str.ofString "->") 557, val := Value.int 51 515 }, { hash := PyData.keyHash P (Str.ofString "."), key := Value.str (Str.ofString ".") 559, val := Value.int 23 459 }, { hash := PyData.keyHash P (Str.ofString "..."), key := Value.str (Str.ofString "...") 561, val := Value.int 52 517 }, { hash := PyData.keyHash P (Str.ofString "/"), key := Value.str (Str.ofString "/") 563, val := Value.int 17 447 }, { hash := PyData.keyHash P (Str.ofString "//"), key := Value.str (Str.ofString "//") 565, val := Value.int 47 507 }, { hash := PyData.keyHash P (Str.ofString "//="), key := Value.str (Str.ofString "//=") 567, val := Value.int 48 509 }, { hash := PyData.keyHash P (Str.ofString "/="), key := Value.str (Str.ofString "/=") 569, val := Value.int 39 491 }, { hash := PyData.keyHash P (Str.ofString ":"), key := Value.str (Str.ofString ":") 571, val := Value.int 11 435 }, { hash := PyData.keyHash P (Str.ofString ":="), key := Value.str (Str.ofString ":=") 573, val := Value.int 53 519 }, { hash := PyData.keyHash P (Str.ofString ";"), key := Value.str (Str.ofString ";") 575, val := Value.int 13 439 }, { hash := PyData.keyHash P (Str.ofString "<"), key := Value.str (Str.ofString "<") 577, val := Value.int 20 453 }, { hash := PyData.keyHash P (Str.ofString "<<"), key := Value.str (Str.ofString "<<") 579, val := Value.int 33 479 }, { hash := PyData.keyHash P (Str.ofString "<<="), key := Value.str (Str.ofString "<<=") 581, val := Value.int 44 501 }, { hash := PyData.keyHash P (Str.ofString "<="), key := Value.str (Str.ofString "<=") 583, val := Value.int 29 471 }, { hash := PyData.keyHash P (Str.ofString "="), key := Value.str (Str.ofString "=") 585, val := Value.int 22 457 }, { hash := PyData.keyHash P (Str.ofString "=="), key := Value.str (Str.ofString "==") 587, val := Value.int 27 467 }, { hash := PyData.keyHash P (Str.ofString ">"), key := Value.str (Str.ofString ">") 589, val := Value.int 21 455 }] 17 }
noncomputable def ob129 (P : Params) : Obj := { cls := Value.type "dict", data := Data.dict #[{ hash := PyData.keyHash P (Str.ofString ">="), key := Value.str (Str.ofString ">=") 591, val := Value.int 30 473 }, { hash := PyData.keyHash P (Str.ofString ">>"), key := Value.str (Str.ofString ">>") 592, val := Value.int 34 481 }, { hash := PyData.keyHash P (Str.ofString ">>="), key := Value.str (Str.ofString ">>=") 593, val := Value.int 45 503 }, { hash := PyData.keyHash P (Str.ofString "@"), key := Value.str (Str.ofString "@") 594, val := Value.int 49 511 }, { hash := PyData.keyHash P (Str.ofString "@="), key := Value.str (Str.ofString "@=") 595, val := Value.int 50 513 }, { hash := PyData.keyHash P (Str.ofString "["), key := Value.str (Str.ofString "[") 596, val := Value.int 9 431 }, { hash := PyData.keyHash P (Str.ofString "]"), key := Value.str (Str.ofString "]") 597, val := Value.int 10 433 }, { hash := PyData.keyHash P (Str.ofString "^"), key := Value.str (Str.ofString "^") 598, val := Value.int 32 477 }, { hash := PyData.keyHash P (Str.ofString "^="), key := Value.str (Str.ofString "^=") 599, val := Value.int 43 499 }, { hash := PyData.keyHash P (Str.ofString "{"), key := Value.str (Str.ofString "{") 600, val := Value.int 25 463 }, { hash := PyData.keyHash P (Str.ofString "|"), key := Value.str (Str.ofString "|") 601, val := Value.int 18 449 }, { hash := PyData.keyHash P (Str.ofString "|="), key := Value.str (Str.ofString "|=") 602, val := Value.int 42 497 }, { hash := PyData.keyHash P (Str.ofString "}"), key := Value.str (Str.ofString "}") 603, val := Value.int 26 465 }, { hash := PyData.keyHash P (Str.ofString "~"), key := Value.str (Str.ofString "~") 604, val := Value.int 31 475 }] 14 }
noncomputable def ob133 (P : Params) : Obj := { cls := Value.type "dict", data := Data.dict #[{ hash := PyData.keyHash P (Str.ofString "__name__"), key := Value.str (Str.ofString "__name__") 165, val := Value.str (Str.ofString "law_us0007_01") 627 }, { hash := PyData.keyHash P (Str.ofString "__doc__"), key := Value.str (Str.ofString "__doc__") 166, val := Value.none }, { hash := PyData.keyHash P (Str.ofString "__package__"), key := Value.str (Str.ofString "__package__") 167, val := Value.none }, { hash := PyData.keyHash P (Str.ofString "__loader__"), key := Value.str (Str.ofString "__loader__") 168, val := Value.builtin "__main__.__loader__#opaque" }, { hash := PyData.keyHash P (Str.ofString "__spec__"), key := Value.str (Str.ofString "__spec__") 169, val := Value.none }, { hash := PyData.keyHash P (Str.ofString "__annotations__"), key := Value.str (Str.ofString "__annotations__") 170, val := Value.ref 6 }, { hash := PyData.keyHash P (Str.ofString "__builtins__"), key := Value.str (Str.ofString "__builtins__") 171, val := Value.ref 4 }, { hash := PyData.keyHash P (Str.ofString "__file__"), key := Value.str (Str.ofString "__file__") 173, val := Value.str (Str.ofString "/claim/cut.py") 172 }, { hash := PyData.keyHash P (Str.ofString "__cached__"), key := Value.str (Str.ofString "__cached__") 174, val := Value.none }, { hash := PyData.keyHash P (Str.ofString "_sre"), key := Value.str (Str.ofString "_sre") 275, val := Value.ref 12 }, { hash := PyData.keyHash P (Str.ofString "_twin_re_1"), key := Value.str (Str.ofString "_twin_re_1") 299, val := Value.ref 36 }, { hash := PyData.keyHash P (Str.ofString "_twin_re_2"), key := Value.str (Str.ofString "_twin_re_2") 341, val := Value.ref 41 }, { hash := PyData.keyHash P (Str.ofString "CRLF"), key := Value.str (Str.ofString "CRLF") 343, val := Value.str (Str.ofString "\x0d\n") 342 }, { hash := PyData.keyHash P (Str.ofString "quotedata"), key := Value.str (Str.ofString "quotedata") 350, val := Value.ref 48 }, { hash := PyData.keyHash P (Str.ofString "insort_right"), key := Value.str (Str.ofString "insort_right") 365, val := Value.ref 57 }, { hash := PyData.keyHash P (Str.ofString "bisect_right"), key := Value.str (Str.ofString "bisect_right") 379, val := Value.ref 66 }, { hash := PyData.keyHash P (Str.ofString "COMPILER_FLAG_NAMES"), key := Value.str (Str.ofString "COMPILER_FLAG_NAMES") 412, val := Value.ref 67 }, { hash := PyData.keyHash P (Str.ofString "pretty_flags"), key := Value.str (Str.ofString "pretty_flags") 422, val := Value.ref 74 }, { hash := PyData.keyHash P (Str.ofString "ENDMARKER"), key := Value.str (Str.ofString "ENDMARKER") 426, val := Value.int 0 425 }, { hash := PyData.keyHash P (Str.ofString "LPAR"), key := Value.str (Str.ofString "LPAR") 428, val := Value.int 7 427 }, { hash := PyData.keyHash P (Str.ofString "RPAR"), key := Value.str (Str.ofString "RPAR") 430, val := Value.int 8 429 }, { hash := PyData.keyHash P (Str.ofString "LSQB"), key := Value.str (Str.ofString "LSQB") 432, val := Value.int 9 431 }, { hash := PyData.keyHash P (Str.ofString "RSQB"), key := Value.str (Str.ofString "RSQB") 434, val := Value.int 10 433 }, { hash := PyData.keyHash P (Str.ofString "COLON"), key := Value.str (Str.ofString "COLON") 436, val := Value.int 11 435 }, { hash := PyData.keyHash P (Str.ofString "COMMA"), key := Value.str (Str.ofString "COMMA") 438, val := Value.int 12 437 }, { hash := PyData.keyHash P (Str.ofString "SEMI"), key := Value.str (Str.ofString "SEMI") 440, val := Value.int 13 439 }, { hash := PyData.keyHash P (Str.ofString "PLUS"), key := Value.str (Str.ofString "PLUS") 442, val := Value.int 14 441 }, { hash := PyData.keyHash P (Str.ofString "MINUS"), key := Value.str (Str.ofString "MINUS") 444, val := Value.int 15 443 }, { hash := PyData.keyHash P (Str.ofString "STAR"), key := Value.str (Str.ofString "STAR") 446, val := Value.int 16 445 }, { hash := PyData.keyHash P (Str.ofString "SLASH"), key := Value.str (Str.ofString "SLASH") 448, val := Value.int 17 447 }, { hash := PyData.keyHash P (Str.ofString "VBAR"), key := Value.str (Str.ofString "VBAR") 450, val := Value.int 18 449 }, { hash := PyData.keyHash P (Str.ofString "AMPER"), key := Value.str (Str.ofString "AMPER") 452, val := Value.int 19 451 }, { hash := PyData.keyHash P (Str.ofString "LESS"), key := Value.str (Str.ofString "LESS") 454, val := Value.int 20 453 }, { hash := PyData.keyHash P (Str.ofString "GREATER"), key := Value.str (Str.ofString "GREATER") 456, val := Value.int 21 455 }, { hash := PyData.keyHash P (Str.ofString "EQUAL"), key := Value.str (Str.ofString "EQUAL") 458, val := Value.int 22 457 }, { hash := PyData.keyHash P (Str.ofString "DOT"), key := Value.str (Str.ofString "DOT") 460, val := Value.int 23 459 }, { hash := PyData.keyHash P (Str.ofString "PERCENT"), key := Value.str (Str.ofString "PERCENT") 462, val := Value.int 24 461 }, { hash := PyData.keyHash P (Str.ofString "LBRACE"), key := Value.str (Str.ofString "LBRACE") 464, val := Value.int 25 463 }, { hash := PyData.keyHash P (Str.ofString "RBRACE"), key := Value.str (Str.ofString "RBRACE") 466, val := Value.int 26 465 }, { hash := PyData.keyHash P (Str.ofString "EQEQUAL"), key := Value.str (Str.ofString "EQEQUAL") 468, val := Value.int 27 467 }, { hash := PyData.keyHash P (Str.ofString "NOTEQUAL"), key := Value.str (Str.ofString "NOTEQUAL") 470, val := Value.int 28 469 }, { hash := PyData.keyHash P (Str.ofString "LESSEQUAL"), key := Value.str (Str.ofString "LESSEQUAL") 472, val := Value.int 29 471 }, { hash := PyData.keyHash P (Str.ofString "GREATEREQUAL"), key := Value.str (Str.ofString "GREATEREQUAL") 474, val := Value.int 30 473 }, { hash := PyData.keyHash P (Str.ofString "TILDE"), key := Value.str (Str.ofString "TILDE") 476, val := Value.int 31 475 }, { hash := PyData.keyHash P (Str.ofString "CIRCUMFLEX"), key := Value.str (Str.ofString "CIRCUMFLEX") 478, val := Value.int 32 477 }, { hash := PyData.keyHash P (Str.ofString "LEFTSHIFT"), key := Value.str (Str.ofString "LEFTSHIFT") 480, val := Value.int 33 479 }, { hash := PyData.keyHash P (Str.ofString "RIGHTSHIFT"), key := Value.str (Str.ofString "RIGHTSHIFT") 482, val := Value.int 34 481 }, { hash := PyData.keyHash P (Str.ofString "DOUBLESTAR"), key := Value.str (Str.ofString "DOUBLESTAR") 484, val := Value.int 35 483 }, { hash := PyData.keyHash P (Str.ofString "PLUSEQUAL"), key := Value.str (Str.ofString "PLUSEQUAL") 486, val := Value.int 36 485 }, { hash := PyData.keyHash P (Str.ofString "MINEQUAL"), key := Value.str (Str.ofString "MINEQUAL") 488, val := Value.int 37 487 }, { hash := PyData.keyHash P (Str.ofString "STAREQUAL"), key := Value.str (Str.ofString "STAREQUAL") 490, val := Value.int 38 489 }, { hash := PyData.keyHash P (Str.ofString "SLASHEQUAL"), key := Value.str (Str.ofString "SLASHEQUAL") 492, val := Value.int 39 491 }, { hash := PyData.keyHash P (Str.ofString "PERCENTEQUAL"), key := Value.str (Str.ofString "PERCENTEQUAL") 494, val := Value.int 40 493 }, { hash := PyData.keyHash P (Str.ofString "AMPEREQUAL"), key := Value.str (Str.ofString "AMPEREQUAL") 496, val := Value.int 41 495 }, { hash := PyData.keyHash P (Str.ofString "VBAREQUAL"), key := Value.str (Str.ofString "VBAREQUAL") 498, val := Value.int 42 497 }, { hash := PyData.keyHash P (Str.ofString "CIRCUMFLEXEQUAL"), key := Value.str (Str.ofString "CIRCUMFLEXEQUAL") 500, val := Value.int 43 499 }, { hash := PyData.keyHash P (Str.ofString "LEFTSHIFTEQUAL"), key := Value.str (Str.ofString "LEFTSHIFTEQUAL") 502, val := Value.int 44 501 }, { hash := PyData.keyHash P (Str.ofString "RIGHTSHIFTEQUAL"), key := Value.str (Str.ofString "RIGHTSHIFTEQUAL") 504, val := Value.int 45 503 }, { hash := PyData.keyHash P (Str.ofString "DOUBLESTAREQUAL"), key := Value.str (Str.ofString "DOUBLESTAREQUAL") 506, val := Value.int 46 505 }, { hash := PyData.keyHash P (Str.ofString "DOUBLESLASH"), key := Value.str (Str.ofString "DOUBLESLASH") 508, val := Value.int 47 507 }, { hash := PyData.keyHash P (Str.ofString "DOUBLESLASHEQUAL"), key := Value.str (Str.ofString "DOUBLESLASHEQUAL") 510, val := Value.int 48 509 }, { hash := PyData.keyHash P (Str.ofString "AT"), key := Value.str (Str.ofString "AT") 512, val := Value.int 49 511 }, { hash := PyData.keyHash P (Str.ofString "ATEQUAL"), key := Value.str (Str.ofString "ATEQUAL") 514, val := Value.int 50 513 }, { hash := PyData.keyHash P (Str.ofString "RARROW"), key := Value.str (Str.ofString "RARROW") 516, val := Value.int 51 515 }, { hash := PyData.keyHash P (Str.ofString "ELLIPSIS"), key := Value.str (Str.ofString "ELLIPSIS") 518, val := Value.int 52 517 }, { hash := PyData.keyHash P (Str.ofString "COLONEQUAL"), key := Value.str (Str.ofString "COLONEQUAL") 520, val := Value.int 53 519 }, { hash := PyData.keyHash P (Str.ofString "EXCLAMATION"), key := Value.str (Str.ofString "EXCLAMATION") 522, val := Value.int 54 521 }, { hash := PyData.keyHash P (Str.ofString "EXACT_TOKEN_TYPES"), key := Value.str (Str.ofString "EXACT_TOKEN_TYPES") 619, val := Value.ref 75 }, { hash := PyData.keyHash P (Str.ofString "ISEOF"), key := Value.str (Str.ofString "ISEOF") 626, val := Value.ref 84 }, { hash := PyData.keyHash P (Str.ofString "_law_drawn"), key := Value.str (Str.ofString "_law_drawn") 638, val := Value.ref 91 }, { hash := PyData.keyHash P (Str.ofString "_law_line"), key := Value.str (Str.ofString "_law_line") 647, val := Value.ref 98 }, { hash := PyData.keyHash P (Str.ofString "_law_letter"), key := Value.str (Str.ofString "_law_letter") 657, val := Value.ref 105 }, { hash := PyData.keyHash P (Str.ofString "_law_lone"), key := Value.str (Str.ofString "_law_lone") 668, val := Value.ref 112 }, { hash := PyData.keyHash P (Str.ofString "_law_answer"), key := Value.str (Str.ofString "_law_answer") 674, val := Value.ref 117 }, { hash := PyData.keyHash P (Str.ofString "_law_even"), key := Value.str (Str.ofString "_law_even") 685, val := Value.ref 124 }, { hash := PyData.keyHash P (Str.ofString "_law_right"), key := Value.str (Str.ofString "_law_right") 696, val := Value.ref 131 }, { hash := PyData.keyHash P (Str.ofString "_law_move"), key := Value.str (Str.ofString "_law_move") 702, val := Value.ref 136 }, { hash := PyData.keyHash P (Str.ofString "_law_match"), key := Value.str (Str.ofString "_law_match") 716, val := Value.ref 143 }, { hash := PyData.keyHash P (Str.ofString "law"), key := Value.str (Str.ofString "law") 722, val := Value.ref 148 }] 79 }
noncomputable def ob134 (_P : Params) : Obj := { cls := Value.none, data := Data.fields #[Value.int 6 0, Value.int 0 0, Value.ref 47, Value.int 9 0, Value.int 0 0, Value.ref 56, Value.int 15 0, Value.int 0 0, Value.ref 65, Value.int 37 0, Value.int 0 0, Value.ref 73, Value.int 100 0, Value.int 0 0, Value.ref 83, Value.int 103 0, Value.int 0 0, Value.ref 90, Value.int 110 0, Value.int 0 0, Value.ref 97, Value.int 115 0, Value.int 0 0, Value.ref 104, Value.int 120 0, Value.int 0 0, Value.ref 111, Value.int 131 0, Value.int 0 0, Value.ref 116, Value.int 148 0, Value.int 0 0, Value.ref 123, Value.int 156 0, Value.int 0 0, Value.ref 130, Value.int 164 0, Value.int 0 0, Value.ref 135, Value.int 174 0, Value.int 0 0, Value.ref 142, Value.int 191 0, Value.int 0 0, Value.ref 147] }
noncomputable def ob135 (_P : Params) : Obj := { cls := Value.type "tuple", data := Data.seq #[] }
noncomputable def ob136 (_P : Params) : Obj := { cls := Value.none, data := Data.fields #[] }
noncomputable def ob137 (_P : Params) : Obj := { cls := Value.type "tuple", data := Data.seq #[Value.str (Str.ofString "x") 623] }
noncomputable def ob138 (_P : Params) : Obj := { cls := Value.type "tuple", data := Data.seq #[] }
noncomputable def ob139 (_P : Params) : Obj := tobj 63
noncomputable def ob140 (_P : Params) : Obj := { cls := Value.type "code", data := Data.fields #[Value.str (Str.ofString "ISEOF") 620, Value.str (Str.ofString "ISEOF") 621, Value.str (Str.ofString "/claim/cut.py") 622, Value.int 100 0, Value.int 1 0, Value.int 0 0, Value.int 0 0, Value.int 3 0, Value.ref 78, Value.bool Bool.true, Value.int 276 0, Value.ref 79, Value.none, Value.ref 80, Value.ref 81, Value.ref 82, Value.int 624 0, Value.int 100 0, Value.str (Str.ofString "/claim/cut.py") 625] }
noncomputable def ob141 (_P : Params) : Obj := fobj 63 (Value.none) (Value.none) (Value.str (Str.ofString "cpy313.token") 423) 83
noncomputable def ob142 (_P : Params) : Obj := { cls := Value.type "tuple", data := Data.seq #[] }
noncomputable def ob143 (_P : Params) : Obj := { cls := Value.none, data := Data.fields #[] }
noncomputable def ob144 (_P : Params) : Obj := { cls := Value.type "tuple", data := Data.seq #[Value.str (Str.ofString "script") 632, Value.str (Str.ofString "drawn") 633, Value.str (Str.ofString "turn") 634, Value.str (Str.ofString "x") 635] }
noncomputable def ob145 (_P : Params) : Obj := { cls := Value.type "tuple", data := Data.seq #[] }
noncomputable def ob146 (_P : Params) : Obj := tobj 65
noncomputable def ob147 (_P : Params) : Obj := { cls := Value.type "code", data := Data.fields #[Value.str (Str.ofString "_law_drawn") 629, Value.str (Str.ofString "_law_drawn") 630, Value.str (Str.ofString "/claim/cut.py") 631, Value.int 103 0, Value.int 1 0, Value.int 0 0, Value.int 0 0, Value.int 3 0, Value.ref 85, Value.bool Bool.true, Value.int 276 0, Value.ref 86, Value.none, Value.ref 87, Value.ref 88, Value.ref 89, Value.int 636 0, Value.int 103 0, Value.str (Str.ofString "/claim/cut.py") 637] }
noncomputable def ob148 (_P : Params) : Obj := fobj 65 (Value.none) (Value.none) (Value.str (Str.ofString "law_us0007_01") 627) 90
noncomputable def ob149 (_P : Params) : Obj := { cls := Value.type "tuple", data := Data.seq #[] }
noncomputable def ob150 (_P : Params) : Obj := { cls := Value.none, data := Data.fields #[] }
noncomputable def ob151 (_P : Params) : Obj := { cls := Value.type "tuple", data := Data.seq #[Value.str (Str.ofString "sizes") 642, Value.str (Str.ofString "line") 643, Value.str (Str.ofString "size") 644] }
noncomputable def ob152 (_P : Params) : Obj := { cls := Value.type "tuple", data := Data.seq #[] }
noncomputable def ob153 (_P : Params) : Obj := tobj 66
noncomputable def ob154 (_P : Params) : Obj := { cls := Value.type "code", data := Data.fields #[Value.str (Str.ofString "_law_line") 639, Value.str (Str.ofString "_law_line") 640, Value.str (Str.ofString "/claim/cut.py") 641, Value.int 110 0, Value.int 1 0, Value.int 0 0, Value.int 0 0, Value.int 3 0, Value.ref 92, Value.bool Bool.true, Value.int 276 0, Value.ref 93, Value.none, Value.ref 94, Value.ref 95, Value.ref 96, Value.int 645 0, Value.int 110 0, Value.str (Str.ofString "/claim/cut.py") 646] }
noncomputable def ob155 (_P : Params) : Obj := fobj 66 (Value.none) (Value.none) (Value.str (Str.ofString "law_us0007_01") 627) 97
noncomputable def ob156 (_P : Params) : Obj := { cls := Value.type "tuple", data := Data.seq #[] }
noncomputable def ob157 (_P : Params) : Obj := { cls := Value.none, data := Data.fields #[] }
noncomputable def ob158 (_P : Params) : Obj := { cls := Value.type "tuple", data := Data.seq #[Value.str (Str.ofString "sign") 651, Value.str (Str.ofString "style") 652, Value.str (Str.ofString "text") 653, Value.str (Str.ofString "row") 654] }
noncomputable def ob159 (_P : Params) : Obj := { cls := Value.type "tuple", data := Data.seq #[] }
noncomputable def ob160 (_P : Params) : Obj := tobj 67
noncomputable def ob161 (_P : Params) : Obj := { cls := Value.type "code", data := Data.fields #[Value.str (Str.ofString "_law_letter") 648, Value.str (Str.ofString "_law_letter") 649, Value.str (Str.ofString "/claim/cut.py") 650, Value.int 115 0, Value.int 2 0, Value.int 0 0, Value.int 0 0, Value.int 3 0, Value.ref 99, Value.bool Bool.true, Value.int 276 0, Value.ref 100, Value.none, Value.ref 101, Value.ref 102, Value.ref 103, Value.int 655 0, Value.int 115 0, Value.str (Str.ofString "/claim/cut.py") 656] }
noncomputable def ob162 (_P : Params) : Obj := fobj 67 (Value.none) (Value.none) (Value.str (Str.ofString "law_us0007_01") 627) 104
noncomputable def ob163 (_P : Params) : Obj := { cls := Value.type "tuple", data := Data.seq #[] }
noncomputable def ob164 (_P : Params) : Obj := { cls := Value.none, data := Data.fields #[] }
noncomputable def ob165 (_P : Params) : Obj := { cls := Value.type "tuple", data := Data.seq #[Value.str (Str.ofString "row") 661, Value.str (Str.ofString "sign") 662, Value.str (Str.ofString "lone") 663, Value.str (Str.ofString "place") 664, Value.str (Str.ofString "take") 665] }
noncomputable def ob166 (_P : Params) : Obj := { cls := Value.type "tuple", data := Data.seq #[] }
noncomputable def ob167 (_P : Params) : Obj := tobj 68
noncomputable def ob168 (_P : Params) : Obj := { cls := Value.type "code", data := Data.fields #[Value.str (Str.ofString "_law_lone") 658, Value.str (Str.ofString "_law_lone") 659, Value.str (Str.ofString "/claim/cut.py") 660, Value.int 120 0, Value.int 2 0, Value.int 0 0, Value.int 0 0, Value.int 3 0, Value.ref 106, Value.bool Bool.true, Value.int 276 0, Value.ref 107, Value.none, Value.ref 108, Value.ref 109, Value.ref 110, Value.int 666 0, Value.int 120 0, Value.str (Str.ofString "/claim/cut.py") 667] }
noncomputable def ob169 (_P : Params) : Obj := fobj 68 (Value.none) (Value.none) (Value.str (Str.ofString "law_us0007_01") 627) 111
noncomputable def ob170 (_P : Params) : Obj := { cls := Value.type "tuple", data := Data.seq #[] }
noncomputable def ob171 (_P : Params) : Obj := { cls := Value.none, data := Data.fields #[] }
noncomputable def ob172 (_P : Params) : Obj := tobj 69
noncomputable def ob173 (_P : Params) : Obj := { cls := Value.type "code", data := Data.fields #[Value.str (Str.ofString "_law_answer") 669, Value.str (Str.ofString "_law_answer") 670, Value.str (Str.ofString "/claim/cut.py") 671, Value.int 131 0, Value.int 2 0, Value.int 0 0, Value.int 0 0, Value.int 3 0, Value.ref 113, Value.bool Bool.true, Value.int 276 0, Value.ref 114, Value.none, Value.none, Value.none, Value.ref 115, Value.int 672 0, Value.int 131 0, Value.str (Str.ofString "/claim/cut.py") 673] }
noncomputable def ob174 (_P : Params) : Obj := fobj 69 (Value.none) (Value.none) (Value.str (Str.ofString "law_us0007_01") 627) 116
noncomputable def ob175 (_P : Params) : Obj := { cls := Value.type "tuple", data := Data.seq #[] }
noncomputable def ob176 (_P : Params) : Obj := { cls := Value.none, data := Data.fields #[] }
noncomputable def ob177 (_P : Params) : Obj := { cls := Value.type "tuple", data := Data.seq #[Value.str (Str.ofString "heaps") 678, Value.str (Str.ofString "most") 679, Value.str (Str.ofString "place") 680, Value.str (Str.ofString "ones") 681, Value.str (Str.ofString "heap") 682] }
noncomputable def ob178 (_P : Params) : Obj := { cls := Value.type "tuple", data := Data.seq #[] }
noncomputable def ob179 (_P : Params) : Obj := tobj 70
noncomputable def ob180 (_P : Params) : Obj := { cls := Value.type "code", data := Data.fields #[Value.str (Str.ofString "_law_even") 675, Value.str (Str.ofString "_law_even") 676, Value.str (Str.ofString "/claim/cut.py") 677, Value.int 148 0, Value.int 2 0, Value.int 0 0, Value.int 0 0, Value.int 3 0, Value.ref 118, Value.bool Bool.true, Value.int 276 0, Value.ref 119, Value.none, Value.ref 120, Value.ref 121, Value.ref 122, Value.int 683 0, Value.int 148 0, Value.str (Str.ofString "/claim/cut.py") 684] }
noncomputable def ob181 (_P : Params) : Obj := fobj 70 (Value.none) (Value.none) (Value.str (Str.ofString "law_us0007_01") 627) 123
noncomputable def ob182 (_P : Params) : Obj := { cls := Value.type "tuple", data := Data.seq #[] }
noncomputable def ob183 (_P : Params) : Obj := { cls := Value.none, data := Data.fields #[] }
noncomputable def ob184 (_P : Params) : Obj := { cls := Value.type "tuple", data := Data.seq #[Value.str (Str.ofString "heaps") 689, Value.str (Str.ofString "after") 690, Value.str (Str.ofString "most") 691, Value.str (Str.ofString "lowered") 692, Value.str (Str.ofString "j") 693] }
noncomputable def ob185 (_P : Params) : Obj := { cls := Value.type "tuple", data := Data.seq #[] }
noncomputable def ob186 (_P : Params) : Obj := tobj 71
noncomputable def ob187 (_P : Params) : Obj := { cls := Value.type "code", data := Data.fields #[Value.str (Str.ofString "_law_right") 686, Value.str (Str.ofString "_law_right") 687, Value.str (Str.ofString "/claim/cut.py") 688, Value.int 156 0, Value.int 3 0, Value.int 0 0, Value.int 0 0, Value.int 3 0, Value.ref 125, Value.bool Bool.true, Value.int 276 0, Value.ref 126, Value.none, Value.ref 127, Value.ref 128, Value.ref 129, Value.int 694 0, Value.int 156 0, Value.str (Str.ofString "/claim/cut.py") 695] }
noncomputable def ob188 (_P : Params) : Obj := fobj 71 (Value.none) (Value.none) (Value.str (Str.ofString "law_us0007_01") 627) 130
noncomputable def ob189 (_P : Params) : Obj := { cls := Value.type "tuple", data := Data.seq #[] }
noncomputable def ob190 (_P : Params) : Obj := { cls := Value.none, data := Data.fields #[] }
noncomputable def ob191 (_P : Params) : Obj := tobj 72
noncomputable def ob192 (_P : Params) : Obj := { cls := Value.type "code", data := Data.fields #[Value.str (Str.ofString "_law_move") 697, Value.str (Str.ofString "_law_move") 698, Value.str (Str.ofString "/claim/cut.py") 699, Value.int 164 0, Value.int 3 0, Value.int 0 0, Value.int 0 0, Value.int 3 0, Value.ref 132, Value.bool Bool.true, Value.int 276 0, Value.ref 133, Value.none, Value.none, Value.none, Value.ref 134, Value.int 700 0, Value.int 164 0, Value.str (Str.ofString "/claim/cut.py") 701] }
noncomputable def ob193 (_P : Params) : Obj := fobj 72 (Value.none) (Value.none) (Value.str (Str.ofString "law_us0007_01") 627) 135
noncomputable def ob194 (_P : Params) : Obj := { cls := Value.type "tuple", data := Data.seq #[] }
noncomputable def ob195 (_P : Params) : Obj := { cls := Value.none, data := Data.fields #[] }
noncomputable def ob196 (_P : Params) : Obj := { cls := Value.type "tuple", data := Data.seq #[Value.str (Str.ofString "heaps") 706, Value.str (Str.ofString "moves") 707, Value.str (Str.ofString "most") 708, Value.str (Str.ofString "lone") 709, Value.str (Str.ofString "after") 710, Value.str (Str.ofString "line") 711, Value.str (Str.ofString "rounds") 712, Value.str (Str.ofString "moved") 713] }
noncomputable def ob197 (_P : Params) : Obj := { cls := Value.type "tuple", data := Data.seq #[] }
noncomputable def ob198 (_P : Params) : Obj := tobj 73
noncomputable def ob199 (_P : Params) : Obj := { cls := Value.type "code", data := Data.fields #[Value.str (Str.ofString "_law_match") 703, Value.str (Str.ofString "_law_match") 704, Value.str (Str.ofString "/claim/cut.py") 705, Value.int 174 0, Value.int 4 0, Value.int 0 0, Value.int 0 0, Value.int 3 0, Value.ref 137, Value.bool Bool.true, Value.int 276 0, Value.ref 138, Value.none, Value.ref 139, Value.ref 140, Value.ref 141, Value.int 714 0, Value.int 174 0, Value.str (Str.ofString "/claim/cut.py") 715] }
noncomputable def ob200 (_P : Params) : Obj := fobj 73 (Value.none) (Value.none) (Value.str (Str.ofString "law_us0007_01") 627) 142
noncomputable def ob201 (_P : Params) : Obj := { cls := Value.type "tuple", data := Data.seq #[] }
noncomputable def ob202 (_P : Params) : Obj := { cls := Value.none, data := Data.fields #[] }
noncomputable def ob203 (_P : Params) : Obj := tobj 74
noncomputable def ob204 (_P : Params) : Obj := { cls := Value.type "code", data := Data.fields #[Value.str (Str.ofString "law") 717, Value.str (Str.ofString "law") 718, Value.str (Str.ofString "/claim/cut.py") 719, Value.int 191 0, Value.int 1 0, Value.int 0 0, Value.int 0 0, Value.int 3 0, Value.ref 144, Value.bool Bool.true, Value.int 276 0, Value.ref 145, Value.none, Value.none, Value.none, Value.ref 146, Value.int 720 0, Value.int 191 0, Value.str (Str.ofString "/claim/cut.py") 721] }
noncomputable def ob205 (_P : Params) : Obj := fobj 74 (Value.none) (Value.none) (Value.str (Str.ofString "law_us0007_01") 627) 147
noncomputable def heap_68 (P : Params) : Heap := { objs := { toList := [PySem.W.boot_o_0 P, ob42 P, ob43 P, ob44 P, PySem.W.boot_o_4 P, PySem.W.boot_o_5 P, PySem.W.boot_o_6 P, PySem.W.boot_o_7 P, PySem.W.boot_o_8 P, PySem.W.boot_o_9 P, PySem.W.boot_o_10 P, ob52 P, ob53 P, ob54 P, ob55 P, ob56 P, ob57 P, ob58 P, ob59 P, ob60 P, ob61 P, ob62 P, ob63 P, ob64 P, ob65 P, ob66 P, ob67 P, ob68 P] } }
noncomputable def heap_72 (P : Params) : Heap := { objs := { toList := [PySem.W.boot_o_0 P, ob42 P, ob43 P, ob44 P, PySem.W.boot_o_4 P, PySem.W.boot_o_5 P, PySem.W.boot_o_6 P, PySem.W.boot_o_7 P, PySem.W.boot_o_8 P, PySem.W.boot_o_9 P, PySem.W.boot_o_10 P, ob52 P, ob53 P, ob54 P, ob55 P, ob56 P, ob57 P, ob58 P, ob59 P, ob60 P, ob61 P, ob62 P, ob63 P, ob64 P, ob65 P, ob66 P, ob67 P, ob68 P, ob69 P, ob70 P, ob71 P, ob72 P] } }
noncomputable def heap_206 (P : Params) : Heap := { objs := { toList := [PySem.W.boot_o_0 P, ob42 P, ob43 P, ob133 P, PySem.W.boot_o_4 P, PySem.W.boot_o_5 P, PySem.W.boot_o_6 P, PySem.W.boot_o_7 P, PySem.W.boot_o_8 P, PySem.W.boot_o_9 P, PySem.W.boot_o_10 P, ob52 P, ob53 P, ob54 P, ob55 P, ob56 P, ob57 P, ob58 P, ob59 P, ob60 P, ob61 P, ob62 P, ob63 P, ob64 P, ob65 P, ob66 P, ob67 P, ob68 P, ob69 P, ob134 P, ob71 P, ob72 P, ob77 P, ob78 P, ob79 P, ob80 P, ob81 P, ob82 P, ob83 P, ob84 P, ob85 P, ob86 P, ob87 P, ob88 P, ob89 P, ob90 P, ob91 P, ob92 P, ob93 P, ob94 P, ob95 P, ob96 P, ob97 P, ob98 P, ob99 P, ob100 P, ob101 P, ob102 P, ob103 P, ob104 P, ob105 P, ob106 P, ob107 P, ob108 P, ob109 P, ob110 P, ob111 P, ob114 P, ob115 P, ob116 P, ob117 P, ob118 P, ob119 P, ob120 P, ob121 P, ob127 P, ob128 P, ob129 P, ob135 P, ob136 P, ob137 P, ob138 P, ob139 P, ob140 P, ob141 P, ob142 P, ob143 P, ob144 P, ob145 P, ob146 P, ob147 P, ob148 P, ob149 P, ob150 P, ob151 P, ob152 P, ob153 P, ob154 P, ob155 P, ob156 P, ob157 P, ob158 P, ob159 P, ob160 P, ob161 P, ob162 P, ob163 P, ob164 P, ob165 P, ob166 P, ob167 P, ob168 P, ob169 P, ob170 P, ob171 P, ob172 P, ob173 P, ob174 P, ob175 P, ob176 P, ob177 P, ob178 P, ob179 P, ob180 P, ob181 P, ob182 P, ob183 P, ob184 P, ob185 P, ob186 P, ob187 P, ob188 P, ob189 P, ob190 P, ob191 P, ob192 P, ob193 P, ob194 P, ob195 P, ob196 P, ob197 P, ob198 P, ob199 P, ob200 P, ob201 P, ob202 P, ob203 P, ob204 P, ob205 P] } }
noncomputable def tree_73 (P : Params) : BT := PySem.W.BT.node (PySem.W.boot_o_0 P) (PySem.W.BT.node (ob42 P) (PySem.W.BT.node (ob44 P) (PySem.W.BT.node (PySem.W.boot_o_7 P) (PySem.W.BT.node (ob56 P) (PySem.W.BT.node (ob72 P) PySem.W.BT.nil PySem.W.BT.nil) PySem.W.BT.nil) (PySem.W.BT.node (ob64 P) PySem.W.BT.nil PySem.W.BT.nil)) (PySem.W.BT.node (ob52 P) (PySem.W.BT.node (ob60 P) PySem.W.BT.nil PySem.W.BT.nil) (PySem.W.BT.node (ob68 P) PySem.W.BT.nil PySem.W.BT.nil))) (PySem.W.BT.node (PySem.W.boot_o_5 P) (PySem.W.BT.node (PySem.W.boot_o_9 P) (PySem.W.BT.node (ob58 P) PySem.W.BT.nil PySem.W.BT.nil) (PySem.W.BT.node (ob66 P) PySem.W.BT.nil PySem.W.BT.nil)) (PySem.W.BT.node (ob54 P) (PySem.W.BT.node (ob62 P) PySem.W.BT.nil PySem.W.BT.nil) (PySem.W.BT.node (ob70 P) PySem.W.BT.nil PySem.W.BT.nil)))) (PySem.W.BT.node (ob43 P) (PySem.W.BT.node (PySem.W.boot_o_4 P) (PySem.W.BT.node (PySem.W.boot_o_8 P) (PySem.W.BT.node (ob57 P) PySem.W.BT.nil PySem.W.BT.nil) (PySem.W.BT.node (ob65 P) PySem.W.BT.nil PySem.W.BT.nil)) (PySem.W.BT.node (ob53 P) (PySem.W.BT.node (ob61 P) PySem.W.BT.nil PySem.W.BT.nil) (PySem.W.BT.node (ob69 P) PySem.W.BT.nil PySem.W.BT.nil))) (PySem.W.BT.node (PySem.W.boot_o_6 P) (PySem.W.BT.node (PySem.W.boot_o_10 P) (PySem.W.BT.node (ob59 P) PySem.W.BT.nil PySem.W.BT.nil) (PySem.W.BT.node (ob67 P) PySem.W.BT.nil PySem.W.BT.nil)) (PySem.W.BT.node (ob55 P) (PySem.W.BT.node (ob63 P) PySem.W.BT.nil PySem.W.BT.nil) (PySem.W.BT.node (ob71 P) PySem.W.BT.nil PySem.W.BT.nil))))
noncomputable def tree_111 (P : Params) : BT := PySem.W.BT.node (PySem.W.boot_o_0 P) (PySem.W.BT.node (ob42 P) (PySem.W.BT.node (ob75 P) (PySem.W.BT.node (PySem.W.boot_o_7 P) (PySem.W.BT.node (ob56 P) (PySem.W.BT.node (ob72 P) (PySem.W.BT.node (ob108 P) PySem.W.BT.nil PySem.W.BT.nil) PySem.W.BT.nil) (PySem.W.BT.node (ob92 P) PySem.W.BT.nil PySem.W.BT.nil)) (PySem.W.BT.node (ob64 P) (PySem.W.BT.node (ob84 P) PySem.W.BT.nil PySem.W.BT.nil) (PySem.W.BT.node (ob100 P) PySem.W.BT.nil PySem.W.BT.nil))) (PySem.W.BT.node (ob52 P) (PySem.W.BT.node (ob60 P) (PySem.W.BT.node (ob80 P) PySem.W.BT.nil PySem.W.BT.nil) (PySem.W.BT.node (ob96 P) PySem.W.BT.nil PySem.W.BT.nil)) (PySem.W.BT.node (ob68 P) (PySem.W.BT.node (ob88 P) PySem.W.BT.nil PySem.W.BT.nil) (PySem.W.BT.node (ob104 P) PySem.W.BT.nil PySem.W.BT.nil)))) (PySem.W.BT.node (PySem.W.boot_o_5 P) (PySem.W.BT.node (PySem.W.boot_o_9 P) (PySem.W.BT.node (ob58 P) (PySem.W.BT.node (ob78 P) (PySem.W.BT.node (ob110 P) PySem.W.BT.nil PySem.W.BT.nil) PySem.W.BT.nil) (PySem.W.BT.node (ob94 P) PySem.W.BT.nil PySem.W.BT.nil)) (PySem.W.BT.node (ob66 P) (PySem.W.BT.node (ob86 P) PySem.W.BT.nil PySem.W.BT.nil) (PySem.W.BT.node (ob102 P) PySem.W.BT.nil PySem.W.BT.nil))) (PySem.W.BT.node (ob54 P) (PySem.W.BT.node (ob62 P) (PySem.W.BT.node (ob82 P) PySem.W.BT.nil PySem.W.BT.nil) (PySem.W.BT.node (ob98 P) PySem.W.BT.nil PySem.W.BT.nil)) (PySem.W.BT.node (ob76 P) (PySem.W.BT.node (ob90 P) PySem.W.BT.nil PySem.W.BT.nil) (PySem.W.BT.node (ob106 P) PySem.W.BT.nil PySem.W.BT.nil))))) (PySem.W.BT.node (ob43 P) (PySem.W.BT.node (PySem.W.boot_o_4 P) (PySem.W.BT.node (PySem.W.boot_o_8 P) (PySem.W.BT.node (ob57 P) (PySem.W.BT.node (ob77 P) (PySem.W.BT.node (ob109 P) PySem.W.BT.nil PySem.W.BT.nil) PySem.W.BT.nil) (PySem.W.BT.node (ob93 P) PySem.W.BT.nil PySem.W.BT.nil)) (PySem.W.BT.node (ob65 P) (PySem.W.BT.node (ob85 P) PySem.W.BT.nil PySem.W.BT.nil) (PySem.W.BT.node (ob101 P) PySem.W.BT.nil PySem.W.BT.nil))) (PySem.W.BT.node (ob53 P) (PySem.W.BT.node (ob61 P) (PySem.W.BT.node (ob81 P) PySem.W.BT.nil PySem.W.BT.nil) (PySem.W.BT.node (ob97 P) PySem.W.BT.nil PySem.W.BT.nil)) (PySem.W.BT.node (ob69 P) (PySem.W.BT.node (ob89 P) PySem.W.BT.nil PySem.W.BT.nil) (PySem.W.BT.node (ob105 P) PySem.W.BT.nil PySem.W.BT.nil)))) (PySem.W.BT.node (PySem.W.boot_o_6 P) (PySem.W.BT.node (PySem.W.boot_o_10 P) (PySem.W.BT.node (ob59 P) (PySem.W.BT.node (ob79 P) (PySem.W.BT.node (ob111 P) PySem.W.BT.nil PySem.W.BT.nil) PySem.W.BT.nil) (PySem.W.BT.node (ob95 P) PySem.W.BT.nil PySem.W.BT.nil)) (PySem.W.BT.node (ob67 P) (PySem.W.BT.node (ob87 P) PySem.W.BT.nil PySem.W.BT.nil) (PySem.W.BT.node (ob103 P) PySem.W.BT.nil PySem.W.BT.nil))) (PySem.W.BT.node (ob55 P) (PySem.W.BT.node (ob63 P) (PySem.W.BT.node (ob83 P) PySem.W.BT.nil PySem.W.BT.nil) (PySem.W.BT.node (ob99 P) PySem.W.BT.nil PySem.W.BT.nil)) (PySem.W.BT.node (ob71 P) (PySem.W.BT.node (ob91 P) PySem.W.BT.nil PySem.W.BT.nil) (PySem.W.BT.node (ob107 P) PySem.W.BT.nil PySem.W.BT.nil)))))
noncomputable def tree_121 (P : Params) : BT := PySem.W.BT.node (PySem.W.boot_o_0 P) (PySem.W.BT.node (ob42 P) (PySem.W.BT.node (ob112 P) (PySem.W.BT.node (PySem.W.boot_o_7 P) (PySem.W.BT.node (ob56 P) (PySem.W.BT.node (ob72 P) (PySem.W.BT.node (ob108 P) PySem.W.BT.nil PySem.W.BT.nil) PySem.W.BT.nil) (PySem.W.BT.node (ob92 P) PySem.W.BT.nil PySem.W.BT.nil)) (PySem.W.BT.node (ob64 P) (PySem.W.BT.node (ob84 P) (PySem.W.BT.node (ob118 P) PySem.W.BT.nil PySem.W.BT.nil) PySem.W.BT.nil) (PySem.W.BT.node (ob100 P) PySem.W.BT.nil PySem.W.BT.nil))) (PySem.W.BT.node (ob52 P) (PySem.W.BT.node (ob60 P) (PySem.W.BT.node (ob80 P) (PySem.W.BT.node (ob114 P) PySem.W.BT.nil PySem.W.BT.nil) PySem.W.BT.nil) (PySem.W.BT.node (ob96 P) PySem.W.BT.nil PySem.W.BT.nil)) (PySem.W.BT.node (ob68 P) (PySem.W.BT.node (ob88 P) PySem.W.BT.nil PySem.W.BT.nil) (PySem.W.BT.node (ob104 P) PySem.W.BT.nil PySem.W.BT.nil)))) (PySem.W.BT.node (PySem.W.boot_o_5 P) (PySem.W.BT.node (PySem.W.boot_o_9 P) (PySem.W.BT.node (ob58 P) (PySem.W.BT.node (ob78 P) (PySem.W.BT.node (ob110 P) PySem.W.BT.nil PySem.W.BT.nil) PySem.W.BT.nil) (PySem.W.BT.node (ob94 P) PySem.W.BT.nil PySem.W.BT.nil)) (PySem.W.BT.node (ob66 P) (PySem.W.BT.node (ob86 P) (PySem.W.BT.node (ob120 P) PySem.W.BT.nil PySem.W.BT.nil) PySem.W.BT.nil) (PySem.W.BT.node (ob102 P) PySem.W.BT.nil PySem.W.BT.nil))) (PySem.W.BT.node (ob54 P) (PySem.W.BT.node (ob62 P) (PySem.W.BT.node (ob82 P) (PySem.W.BT.node (ob116 P) PySem.W.BT.nil PySem.W.BT.nil) PySem.W.BT.nil) (PySem.W.BT.node (ob98 P) PySem.W.BT.nil PySem.W.BT.nil)) (PySem.W.BT.node (ob113 P) (PySem.W.BT.node (ob90 P) PySem.W.BT.nil PySem.W.BT.nil) (PySem.W.BT.node (ob106 P) PySem.W.BT.nil PySem.W.BT.nil))))) (PySem.W.BT.node (ob43 P) (PySem.W.BT.node (PySem.W.boot_o_4 P) (PySem.W.BT.node (PySem.W.boot_o_8 P) (PySem.W.BT.node (ob57 P) (PySem.W.BT.node (ob77 P) (PySem.W.BT.node (ob109 P) PySem.W.BT.nil PySem.W.BT.nil) PySem.W.BT.nil) (PySem.W.BT.node (ob93 P) PySem.W.BT.nil PySem.W.BT.nil)) (PySem.W.BT.node (ob65 P) (PySem.W.BT.node (ob85 P) (PySem.W.BT.node (ob119 P) PySem.W.BT.nil PySem.W.BT.nil) PySem.W.BT.nil) (PySem.W.BT.node (ob101 P) PySem.W.BT.nil PySem.W.BT.nil))) (PySem.W.BT.node (ob53 P) (PySem.W.BT.node (ob61 P) (PySem.W.BT.node (ob81 P) (PySem.W.BT.node (ob115 P) PySem.W.BT.nil PySem.W.BT.nil) PySem.W.BT.nil) (PySem.W.BT.node (ob97 P) PySem.W.BT.nil PySem.W.BT.nil)) (PySem.W.BT.node (ob69 P) (PySem.W.BT.node (ob89 P) PySem.W.BT.nil PySem.W.BT.nil) (PySem.W.BT.node (ob105 P) PySem.W.BT.nil PySem.W.BT.nil)))) (PySem.W.BT.node (PySem.W.boot_o_6 P) (PySem.W.BT.node (PySem.W.boot_o_10 P) (PySem.W.BT.node (ob59 P) (PySem.W.BT.node (ob79 P) (PySem.W.BT.node (ob111 P) PySem.W.BT.nil PySem.W.BT.nil) PySem.W.BT.nil) (PySem.W.BT.node (ob95 P) PySem.W.BT.nil PySem.W.BT.nil)) (PySem.W.BT.node (ob67 P) (PySem.W.BT.node (ob87 P) (PySem.W.BT.node (ob121 P) PySem.W.BT.nil PySem.W.BT.nil) PySem.W.BT.nil) (PySem.W.BT.node (ob103 P) PySem.W.BT.nil PySem.W.BT.nil))) (PySem.W.BT.node (ob55 P) (PySem.W.BT.node (ob63 P) (PySem.W.BT.node (ob83 P) (PySem.W.BT.node (ob117 P) PySem.W.BT.nil PySem.W.BT.nil) PySem.W.BT.nil) (PySem.W.BT.node (ob99 P) PySem.W.BT.nil PySem.W.BT.nil)) (PySem.W.BT.node (ob71 P) (PySem.W.BT.node (ob91 P) PySem.W.BT.nil PySem.W.BT.nil) (PySem.W.BT.node (ob107 P) PySem.W.BT.nil PySem.W.BT.nil)))))
noncomputable def tree_124 (P : Params) : BT := PySem.W.BT.node (PySem.W.boot_o_0 P) (PySem.W.BT.node (ob42 P) (PySem.W.BT.node (ob124 P) (PySem.W.BT.node (PySem.W.boot_o_7 P) (PySem.W.BT.node (ob56 P) (PySem.W.BT.node (ob72 P) (PySem.W.BT.node (ob108 P) PySem.W.BT.nil PySem.W.BT.nil) PySem.W.BT.nil) (PySem.W.BT.node (ob92 P) PySem.W.BT.nil PySem.W.BT.nil)) (PySem.W.BT.node (ob64 P) (PySem.W.BT.node (ob84 P) (PySem.W.BT.node (ob118 P) PySem.W.BT.nil PySem.W.BT.nil) PySem.W.BT.nil) (PySem.W.BT.node (ob100 P) PySem.W.BT.nil PySem.W.BT.nil))) (PySem.W.BT.node (ob52 P) (PySem.W.BT.node (ob60 P) (PySem.W.BT.node (ob80 P) (PySem.W.BT.node (ob114 P) PySem.W.BT.nil PySem.W.BT.nil) PySem.W.BT.nil) (PySem.W.BT.node (ob96 P) PySem.W.BT.nil PySem.W.BT.nil)) (PySem.W.BT.node (ob68 P) (PySem.W.BT.node (ob88 P) PySem.W.BT.nil PySem.W.BT.nil) (PySem.W.BT.node (ob104 P) PySem.W.BT.nil PySem.W.BT.nil)))) (PySem.W.BT.node (PySem.W.boot_o_5 P) (PySem.W.BT.node (PySem.W.boot_o_9 P) (PySem.W.BT.node (ob58 P) (PySem.W.BT.node (ob78 P) (PySem.W.BT.node (ob110 P) PySem.W.BT.nil PySem.W.BT.nil) PySem.W.BT.nil) (PySem.W.BT.node (ob94 P) PySem.W.BT.nil PySem.W.BT.nil)) (PySem.W.BT.node (ob66 P) (PySem.W.BT.node (ob86 P) (PySem.W.BT.node (ob120 P) PySem.W.BT.nil PySem.W.BT.nil) PySem.W.BT.nil) (PySem.W.BT.node (ob102 P) PySem.W.BT.nil PySem.W.BT.nil))) (PySem.W.BT.node (ob54 P) (PySem.W.BT.node (ob62 P) (PySem.W.BT.node (ob82 P) (PySem.W.BT.node (ob116 P) PySem.W.BT.nil PySem.W.BT.nil) PySem.W.BT.nil) (PySem.W.BT.node (ob98 P) PySem.W.BT.nil PySem.W.BT.nil)) (PySem.W.BT.node (ob113 P) (PySem.W.BT.node (ob90 P) PySem.W.BT.nil PySem.W.BT.nil) (PySem.W.BT.node (ob106 P) PySem.W.BT.nil PySem.W.BT.nil))))) (PySem.W.BT.node (ob43 P) (PySem.W.BT.node (PySem.W.boot_o_4 P) (PySem.W.BT.node (PySem.W.boot_o_8 P) (PySem.W.BT.node (ob57 P) (PySem.W.BT.node (ob77 P) (PySem.W.BT.node (ob109 P) PySem.W.BT.nil PySem.W.BT.nil) PySem.W.BT.nil) (PySem.W.BT.node (ob93 P) PySem.W.BT.nil PySem.W.BT.nil)) (PySem.W.BT.node (ob65 P) (PySem.W.BT.node (ob85 P) (PySem.W.BT.node (ob119 P) PySem.W.BT.nil PySem.W.BT.nil) PySem.W.BT.nil) (PySem.W.BT.node (ob101 P) PySem.W.BT.nil PySem.W.BT.nil))) (PySem.W.BT.node (ob53 P) (PySem.W.BT.node (ob61 P) (PySem.W.BT.node (ob81 P) (PySem.W.BT.node (ob115 P) PySem.W.BT.nil PySem.W.BT.nil) PySem.W.BT.nil) (PySem.W.BT.node (ob97 P) PySem.W.BT.nil PySem.W.BT.nil)) (PySem.W.BT.node (ob69 P) (PySem.W.BT.node (ob89 P) PySem.W.BT.nil PySem.W.BT.nil) (PySem.W.BT.node (ob105 P) PySem.W.BT.nil PySem.W.BT.nil)))) (PySem.W.BT.node (PySem.W.boot_o_6 P) (PySem.W.BT.node (PySem.W.boot_o_10 P) (PySem.W.BT.node (ob59 P) (PySem.W.BT.node (ob79 P) (PySem.W.BT.node (ob111 P) PySem.W.BT.nil PySem.W.BT.nil) PySem.W.BT.nil) (PySem.W.BT.node (ob95 P) PySem.W.BT.nil PySem.W.BT.nil)) (PySem.W.BT.node (ob67 P) (PySem.W.BT.node (ob87 P) (PySem.W.BT.node (ob121 P) PySem.W.BT.nil PySem.W.BT.nil) PySem.W.BT.nil) (PySem.W.BT.node (ob103 P) PySem.W.BT.nil PySem.W.BT.nil))) (PySem.W.BT.node (ob55 P) (PySem.W.BT.node (ob63 P) (PySem.W.BT.node (ob83 P) (PySem.W.BT.node (ob117 P) PySem.W.BT.nil PySem.W.BT.nil) PySem.W.BT.nil) (PySem.W.BT.node (ob99 P) PySem.W.BT.nil PySem.W.BT.nil)) (PySem.W.BT.node (ob71 P) (PySem.W.BT.node (ob91 P) PySem.W.BT.nil PySem.W.BT.nil) (PySem.W.BT.node (ob107 P) PySem.W.BT.nil PySem.W.BT.nil)))))
noncomputable def tree_129 (P : Params) : BT := PySem.W.BT.node (PySem.W.boot_o_0 P) (PySem.W.BT.node (ob42 P) (PySem.W.BT.node (ob126 P) (PySem.W.BT.node (PySem.W.boot_o_7 P) (PySem.W.BT.node (ob56 P) (PySem.W.BT.node (ob72 P) (PySem.W.BT.node (ob108 P) PySem.W.BT.nil PySem.W.BT.nil) PySem.W.BT.nil) (PySem.W.BT.node (ob92 P) PySem.W.BT.nil PySem.W.BT.nil)) (PySem.W.BT.node (ob64 P) (PySem.W.BT.node (ob84 P) (PySem.W.BT.node (ob118 P) PySem.W.BT.nil PySem.W.BT.nil) PySem.W.BT.nil) (PySem.W.BT.node (ob100 P) PySem.W.BT.nil PySem.W.BT.nil))) (PySem.W.BT.node (ob52 P) (PySem.W.BT.node (ob60 P) (PySem.W.BT.node (ob80 P) (PySem.W.BT.node (ob114 P) PySem.W.BT.nil PySem.W.BT.nil) PySem.W.BT.nil) (PySem.W.BT.node (ob96 P) PySem.W.BT.nil PySem.W.BT.nil)) (PySem.W.BT.node (ob68 P) (PySem.W.BT.node (ob88 P) (PySem.W.BT.node (ob127 P) PySem.W.BT.nil PySem.W.BT.nil) PySem.W.BT.nil) (PySem.W.BT.node (ob104 P) PySem.W.BT.nil PySem.W.BT.nil)))) (PySem.W.BT.node (PySem.W.boot_o_5 P) (PySem.W.BT.node (PySem.W.boot_o_9 P) (PySem.W.BT.node (ob58 P) (PySem.W.BT.node (ob78 P) (PySem.W.BT.node (ob110 P) PySem.W.BT.nil PySem.W.BT.nil) PySem.W.BT.nil) (PySem.W.BT.node (ob94 P) PySem.W.BT.nil PySem.W.BT.nil)) (PySem.W.BT.node (ob66 P) (PySem.W.BT.node (ob86 P) (PySem.W.BT.node (ob120 P) PySem.W.BT.nil PySem.W.BT.nil) PySem.W.BT.nil) (PySem.W.BT.node (ob102 P) PySem.W.BT.nil PySem.W.BT.nil))) (PySem.W.BT.node (ob54 P) (PySem.W.BT.node (ob62 P) (PySem.W.BT.node (ob82 P) (PySem.W.BT.node (ob116 P) PySem.W.BT.nil PySem.W.BT.nil) PySem.W.BT.nil) (PySem.W.BT.node (ob98 P) PySem.W.BT.nil PySem.W.BT.nil)) (PySem.W.BT.node (ob113 P) (PySem.W.BT.node (ob90 P) (PySem.W.BT.node (ob129 P) PySem.W.BT.nil PySem.W.BT.nil) PySem.W.BT.nil) (PySem.W.BT.node (ob106 P) PySem.W.BT.nil PySem.W.BT.nil))))) (PySem.W.BT.node (ob43 P) (PySem.W.BT.node (PySem.W.boot_o_4 P) (PySem.W.BT.node (PySem.W.boot_o_8 P) (PySem.W.BT.node (ob57 P) (PySem.W.BT.node (ob77 P) (PySem.W.BT.node (ob109 P) PySem.W.BT.nil PySem.W.BT.nil) PySem.W.BT.nil) (PySem.W.BT.node (ob93 P) PySem.W.BT.nil PySem.W.BT.nil)) (PySem.W.BT.node (ob65 P) (PySem.W.BT.node (ob85 P) (PySem.W.BT.node (ob119 P) PySem.W.BT.nil PySem.W.BT.nil) PySem.W.BT.nil) (PySem.W.BT.node (ob101 P) PySem.W.BT.nil PySem.W.BT.nil))) (PySem.W.BT.node (ob53 P) (PySem.W.BT.node (ob61 P) (PySem.W.BT.node (ob81 P) (PySem.W.BT.node (ob115 P) PySem.W.BT.nil PySem.W.BT.nil) PySem.W.BT.nil) (PySem.W.BT.node (ob97 P) PySem.W.BT.nil PySem.W.BT.nil)) (PySem.W.BT.node (ob69 P) (PySem.W.BT.node (ob89 P) (PySem.W.BT.node (ob128 P) PySem.W.BT.nil PySem.W.BT.nil) PySem.W.BT.nil) (PySem.W.BT.node (ob105 P) PySem.W.BT.nil PySem.W.BT.nil)))) (PySem.W.BT.node (PySem.W.boot_o_6 P) (PySem.W.BT.node (PySem.W.boot_o_10 P) (PySem.W.BT.node (ob59 P) (PySem.W.BT.node (ob79 P) (PySem.W.BT.node (ob111 P) PySem.W.BT.nil PySem.W.BT.nil) PySem.W.BT.nil) (PySem.W.BT.node (ob95 P) PySem.W.BT.nil PySem.W.BT.nil)) (PySem.W.BT.node (ob67 P) (PySem.W.BT.node (ob87 P) (PySem.W.BT.node (ob121 P) PySem.W.BT.nil PySem.W.BT.nil) PySem.W.BT.nil) (PySem.W.BT.node (ob103 P) PySem.W.BT.nil PySem.W.BT.nil))) (PySem.W.BT.node (ob55 P) (PySem.W.BT.node (ob63 P) (PySem.W.BT.node (ob83 P) (PySem.W.BT.node (ob117 P) PySem.W.BT.nil PySem.W.BT.nil) PySem.W.BT.nil) (PySem.W.BT.node (ob99 P) PySem.W.BT.nil PySem.W.BT.nil)) (PySem.W.BT.node (ob71 P) (PySem.W.BT.node (ob91 P) PySem.W.BT.nil PySem.W.BT.nil) (PySem.W.BT.node (ob107 P) PySem.W.BT.nil PySem.W.BT.nil)))))
noncomputable def tree_205 (P : Params) : BT := PySem.W.BT.node (PySem.W.boot_o_0 P) (PySem.W.BT.node (ob42 P) (PySem.W.BT.node (ob133 P) (PySem.W.BT.node (PySem.W.boot_o_7 P) (PySem.W.BT.node (ob56 P) (PySem.W.BT.node (ob72 P) (PySem.W.BT.node (ob108 P) (PySem.W.BT.node (ob184 P) PySem.W.BT.nil PySem.W.BT.nil) PySem.W.BT.nil) (PySem.W.BT.node (ob152 P) PySem.W.BT.nil PySem.W.BT.nil)) (PySem.W.BT.node (ob92 P) (PySem.W.BT.node (ob136 P) (PySem.W.BT.node (ob200 P) PySem.W.BT.nil PySem.W.BT.nil) PySem.W.BT.nil) (PySem.W.BT.node (ob168 P) PySem.W.BT.nil PySem.W.BT.nil))) (PySem.W.BT.node (ob64 P) (PySem.W.BT.node (ob84 P) (PySem.W.BT.node (ob118 P) (PySem.W.BT.node (ob192 P) PySem.W.BT.nil PySem.W.BT.nil) PySem.W.BT.nil) (PySem.W.BT.node (ob160 P) PySem.W.BT.nil PySem.W.BT.nil)) (PySem.W.BT.node (ob100 P) (PySem.W.BT.node (ob144 P) PySem.W.BT.nil PySem.W.BT.nil) (PySem.W.BT.node (ob176 P) PySem.W.BT.nil PySem.W.BT.nil)))) (PySem.W.BT.node (ob52 P) (PySem.W.BT.node (ob60 P) (PySem.W.BT.node (ob80 P) (PySem.W.BT.node (ob114 P) (PySem.W.BT.node (ob188 P) PySem.W.BT.nil PySem.W.BT.nil) PySem.W.BT.nil) (PySem.W.BT.node (ob156 P) PySem.W.BT.nil PySem.W.BT.nil)) (PySem.W.BT.node (ob96 P) (PySem.W.BT.node (ob140 P) (PySem.W.BT.node (ob204 P) PySem.W.BT.nil PySem.W.BT.nil) PySem.W.BT.nil) (PySem.W.BT.node (ob172 P) PySem.W.BT.nil PySem.W.BT.nil))) (PySem.W.BT.node (ob68 P) (PySem.W.BT.node (ob88 P) (PySem.W.BT.node (ob127 P) (PySem.W.BT.node (ob196 P) PySem.W.BT.nil PySem.W.BT.nil) PySem.W.BT.nil) (PySem.W.BT.node (ob164 P) PySem.W.BT.nil PySem.W.BT.nil)) (PySem.W.BT.node (ob104 P) (PySem.W.BT.node (ob148 P) PySem.W.BT.nil PySem.W.BT.nil) (PySem.W.BT.node (ob180 P) PySem.W.BT.nil PySem.W.BT.nil))))) (PySem.W.BT.node (PySem.W.boot_o_5 P) (PySem.W.BT.node (PySem.W.boot_o_9 P) (PySem.W.BT.node (ob58 P) (PySem.W.BT.node (ob78 P) (PySem.W.BT.node (ob110 P) (PySem.W.BT.node (ob186 P) PySem.W.BT.nil PySem.W.BT.nil) PySem.W.BT.nil) (PySem.W.BT.node (ob154 P) PySem.W.BT.nil PySem.W.BT.nil)) (PySem.W.BT.node (ob94 P) (PySem.W.BT.node (ob138 P) (PySem.W.BT.node (ob202 P) PySem.W.BT.nil PySem.W.BT.nil) PySem.W.BT.nil) (PySem.W.BT.node (ob170 P) PySem.W.BT.nil PySem.W.BT.nil))) (PySem.W.BT.node (ob66 P) (PySem.W.BT.node (ob86 P) (PySem.W.BT.node (ob120 P) (PySem.W.BT.node (ob194 P) PySem.W.BT.nil PySem.W.BT.nil) PySem.W.BT.nil) (PySem.W.BT.node (ob162 P) PySem.W.BT.nil PySem.W.BT.nil)) (PySem.W.BT.node (ob102 P) (PySem.W.BT.node (ob146 P) PySem.W.BT.nil PySem.W.BT.nil) (PySem.W.BT.node (ob178 P) PySem.W.BT.nil PySem.W.BT.nil)))) (PySem.W.BT.node (ob54 P) (PySem.W.BT.node (ob62 P) (PySem.W.BT.node (ob82 P) (PySem.W.BT.node (ob116 P) (PySem.W.BT.node (ob190 P) PySem.W.BT.nil PySem.W.BT.nil) PySem.W.BT.nil) (PySem.W.BT.node (ob158 P) PySem.W.BT.nil PySem.W.BT.nil)) (PySem.W.BT.node (ob98 P) (PySem.W.BT.node (ob142 P) PySem.W.BT.nil PySem.W.BT.nil) (PySem.W.BT.node (ob174 P) PySem.W.BT.nil PySem.W.BT.nil))) (PySem.W.BT.node (ob134 P) (PySem.W.BT.node (ob90 P) (PySem.W.BT.node (ob129 P) (PySem.W.BT.node (ob198 P) PySem.W.BT.nil PySem.W.BT.nil) PySem.W.BT.nil) (PySem.W.BT.node (ob166 P) PySem.W.BT.nil PySem.W.BT.nil)) (PySem.W.BT.node (ob106 P) (PySem.W.BT.node (ob150 P) PySem.W.BT.nil PySem.W.BT.nil) (PySem.W.BT.node (ob182 P) PySem.W.BT.nil PySem.W.BT.nil)))))) (PySem.W.BT.node (ob43 P) (PySem.W.BT.node (PySem.W.boot_o_4 P) (PySem.W.BT.node (PySem.W.boot_o_8 P) (PySem.W.BT.node (ob57 P) (PySem.W.BT.node (ob77 P) (PySem.W.BT.node (ob109 P) (PySem.W.BT.node (ob185 P) PySem.W.BT.nil PySem.W.BT.nil) PySem.W.BT.nil) (PySem.W.BT.node (ob153 P) PySem.W.BT.nil PySem.W.BT.nil)) (PySem.W.BT.node (ob93 P) (PySem.W.BT.node (ob137 P) (PySem.W.BT.node (ob201 P) PySem.W.BT.nil PySem.W.BT.nil) PySem.W.BT.nil) (PySem.W.BT.node (ob169 P) PySem.W.BT.nil PySem.W.BT.nil))) (PySem.W.BT.node (ob65 P) (PySem.W.BT.node (ob85 P) (PySem.W.BT.node (ob119 P) (PySem.W.BT.node (ob193 P) PySem.W.BT.nil PySem.W.BT.nil) PySem.W.BT.nil) (PySem.W.BT.node (ob161 P) PySem.W.BT.nil PySem.W.BT.nil)) (PySem.W.BT.node (ob101 P) (PySem.W.BT.node (ob145 P) PySem.W.BT.nil PySem.W.BT.nil) (PySem.W.BT.node (ob177 P) PySem.W.BT.nil PySem.W.BT.nil)))) (PySem.W.BT.node (ob53 P) (PySem.W.BT.node (ob61 P) (PySem.W.BT.node (ob81 P) (PySem.W.BT.node (ob115 P) (PySem.W.BT.node (ob189 P) PySem.W.BT.nil PySem.W.BT.nil) PySem.W.BT.nil) (PySem.W.BT.node (ob157 P) PySem.W.BT.nil PySem.W.BT.nil)) (PySem.W.BT.node (ob97 P) (PySem.W.BT.node (ob141 P) (PySem.W.BT.node (ob205 P) PySem.W.BT.nil PySem.W.BT.nil) PySem.W.BT.nil) (PySem.W.BT.node (ob173 P) PySem.W.BT.nil PySem.W.BT.nil))) (PySem.W.BT.node (ob69 P) (PySem.W.BT.node (ob89 P) (PySem.W.BT.node (ob128 P) (PySem.W.BT.node (ob197 P) PySem.W.BT.nil PySem.W.BT.nil) PySem.W.BT.nil) (PySem.W.BT.node (ob165 P) PySem.W.BT.nil PySem.W.BT.nil)) (PySem.W.BT.node (ob105 P) (PySem.W.BT.node (ob149 P) PySem.W.BT.nil PySem.W.BT.nil) (PySem.W.BT.node (ob181 P) PySem.W.BT.nil PySem.W.BT.nil))))) (PySem.W.BT.node (PySem.W.boot_o_6 P) (PySem.W.BT.node (PySem.W.boot_o_10 P) (PySem.W.BT.node (ob59 P) (PySem.W.BT.node (ob79 P) (PySem.W.BT.node (ob111 P) (PySem.W.BT.node (ob187 P) PySem.W.BT.nil PySem.W.BT.nil) PySem.W.BT.nil) (PySem.W.BT.node (ob155 P) PySem.W.BT.nil PySem.W.BT.nil)) (PySem.W.BT.node (ob95 P) (PySem.W.BT.node (ob139 P) (PySem.W.BT.node (ob203 P) PySem.W.BT.nil PySem.W.BT.nil) PySem.W.BT.nil) (PySem.W.BT.node (ob171 P) PySem.W.BT.nil PySem.W.BT.nil))) (PySem.W.BT.node (ob67 P) (PySem.W.BT.node (ob87 P) (PySem.W.BT.node (ob121 P) (PySem.W.BT.node (ob195 P) PySem.W.BT.nil PySem.W.BT.nil) PySem.W.BT.nil) (PySem.W.BT.node (ob163 P) PySem.W.BT.nil PySem.W.BT.nil)) (PySem.W.BT.node (ob103 P) (PySem.W.BT.node (ob147 P) PySem.W.BT.nil PySem.W.BT.nil) (PySem.W.BT.node (ob179 P) PySem.W.BT.nil PySem.W.BT.nil)))) (PySem.W.BT.node (ob55 P) (PySem.W.BT.node (ob63 P) (PySem.W.BT.node (ob83 P) (PySem.W.BT.node (ob117 P) (PySem.W.BT.node (ob191 P) PySem.W.BT.nil PySem.W.BT.nil) PySem.W.BT.nil) (PySem.W.BT.node (ob159 P) PySem.W.BT.nil PySem.W.BT.nil)) (PySem.W.BT.node (ob99 P) (PySem.W.BT.node (ob143 P) PySem.W.BT.nil PySem.W.BT.nil) (PySem.W.BT.node (ob175 P) PySem.W.BT.nil PySem.W.BT.nil))) (PySem.W.BT.node (ob71 P) (PySem.W.BT.node (ob91 P) (PySem.W.BT.node (ob135 P) (PySem.W.BT.node (ob199 P) PySem.W.BT.nil PySem.W.BT.nil) PySem.W.BT.nil) (PySem.W.BT.node (ob167 P) PySem.W.BT.nil PySem.W.BT.nil)) (PySem.W.BT.node (ob107 P) (PySem.W.BT.node (ob151 P) PySem.W.BT.nil PySem.W.BT.nil) (PySem.W.BT.node (ob183 P) PySem.W.BT.nil PySem.W.BT.nil))))))
noncomputable def hp : Params → Frag := fun P => (nat_lit 2, ob43 P) :: (nat_lit 3, ob133 P) :: (nat_lit 6, PySem.W.boot_o_6 P) :: (nat_lit 11, ob52 P) :: (nat_lit 12, ob53 P) :: (nat_lit 35, ob80 P) :: (nat_lit 36, ob81 P) :: (nat_lit 40, ob85 P) :: (nat_lit 41, ob86 P) :: (nat_lit 42, ob87 P) :: (nat_lit 44, ob89 P) :: (nat_lit 45, ob90 P) :: (nat_lit 47, ob92 P) :: (nat_lit 48, ob93 P) :: (nat_lit 49, ob94 P) :: (nat_lit 50, ob95 P) :: (nat_lit 51, ob96 P) :: (nat_lit 53, ob98 P) :: (nat_lit 54, ob99 P) :: (nat_lit 56, ob101 P) :: (nat_lit 57, ob102 P) :: (nat_lit 58, ob103 P) :: (nat_lit 59, ob104 P) :: (nat_lit 60, ob105 P) :: (nat_lit 62, ob107 P) :: (nat_lit 63, ob108 P) :: (nat_lit 65, ob110 P) :: (nat_lit 66, ob111 P) :: (nat_lit 67, ob114 P) :: (nat_lit 68, ob115 P) :: (nat_lit 70, ob117 P) :: (nat_lit 71, ob118 P) :: (nat_lit 73, ob120 P) :: (nat_lit 74, ob121 P) :: (nat_lit 75, ob127 P) :: (nat_lit 78, ob135 P) :: (nat_lit 80, ob137 P) :: (nat_lit 81, ob138 P) :: (nat_lit 83, ob140 P) :: (nat_lit 84, ob141 P) :: (nat_lit 85, ob142 P) :: (nat_lit 87, ob144 P) :: (nat_lit 88, ob145 P) :: (nat_lit 90, ob147 P) :: (nat_lit 91, ob148 P) :: (nat_lit 92, ob149 P) :: (nat_lit 94, ob151 P) :: (nat_lit 95, ob152 P) :: (nat_lit 97, ob154 P) :: (nat_lit 98, ob155 P) :: (nat_lit 99, ob156 P) :: (nat_lit 101, ob158 P) :: (nat_lit 102, ob159 P) :: (nat_lit 104, ob161 P) :: (nat_lit 105, ob162 P) :: (nat_lit 106, ob163 P) :: (nat_lit 108, ob165 P) :: (nat_lit 109, ob166 P) :: (nat_lit 111, ob168 P) :: (nat_lit 112, ob169 P) :: (nat_lit 113, ob170 P) :: (nat_lit 116, ob173 P) :: (nat_lit 117, ob174 P) :: (nat_lit 118, ob175 P) :: (nat_lit 120, ob177 P) :: (nat_lit 121, ob178 P) :: (nat_lit 123, ob180 P) :: (nat_lit 124, ob181 P) :: (nat_lit 125, ob182 P) :: (nat_lit 127, ob184 P) :: (nat_lit 128, ob185 P) :: (nat_lit 130, ob187 P) :: (nat_lit 131, ob188 P) :: (nat_lit 132, ob189 P) :: (nat_lit 135, ob192 P) :: (nat_lit 136, ob193 P) :: (nat_lit 137, ob194 P) :: (nat_lit 139, ob196 P) :: (nat_lit 140, ob197 P) :: (nat_lit 142, ob199 P) :: (nat_lit 143, ob200 P) :: (nat_lit 144, ob201 P) :: (nat_lit 147, ob204 P) :: (nat_lit 148, ob205 P) :: []
abbrev hpAs : List Addr := nat_lit 2 :: nat_lit 3 :: nat_lit 6 :: nat_lit 11 :: nat_lit 12 :: nat_lit 35 :: nat_lit 36 :: nat_lit 40 :: nat_lit 41 :: nat_lit 42 :: nat_lit 44 :: nat_lit 45 :: nat_lit 47 :: nat_lit 48 :: nat_lit 49 :: nat_lit 50 :: nat_lit 51 :: nat_lit 53 :: nat_lit 54 :: nat_lit 56 :: nat_lit 57 :: nat_lit 58 :: nat_lit 59 :: nat_lit 60 :: nat_lit 62 :: nat_lit 63 :: nat_lit 65 :: nat_lit 66 :: nat_lit 67 :: nat_lit 68 :: nat_lit 70 :: nat_lit 71 :: nat_lit 73 :: nat_lit 74 :: nat_lit 75 :: nat_lit 78 :: nat_lit 80 :: nat_lit 81 :: nat_lit 83 :: nat_lit 84 :: nat_lit 85 :: nat_lit 87 :: nat_lit 88 :: nat_lit 90 :: nat_lit 91 :: nat_lit 92 :: nat_lit 94 :: nat_lit 95 :: nat_lit 97 :: nat_lit 98 :: nat_lit 99 :: nat_lit 101 :: nat_lit 102 :: nat_lit 104 :: nat_lit 105 :: nat_lit 106 :: nat_lit 108 :: nat_lit 109 :: nat_lit 111 :: nat_lit 112 :: nat_lit 113 :: nat_lit 116 :: nat_lit 117 :: nat_lit 118 :: nat_lit 120 :: nat_lit 121 :: nat_lit 123 :: nat_lit 124 :: nat_lit 125 :: nat_lit 127 :: nat_lit 128 :: nat_lit 130 :: nat_lit 131 :: nat_lit 132 :: nat_lit 135 :: nat_lit 136 :: nat_lit 137 :: nat_lit 139 :: nat_lit 140 :: nat_lit 142 :: nat_lit 143 :: nat_lit 144 :: nat_lit 147 :: nat_lit 148 :: []
noncomputable def ob52a (P : Params) : Obj := { cls := Value.type "dict", data := Data.dict #[{ hash := PyData.keyHash P (Str.ofString "__name__"), key := Value.str (Str.ofString "__name__") 247, val := Value.str (Str.ofString "_sre") 246 }, { hash := PyData.keyHash P (Str.ofString "__doc__"), key := Value.str (Str.ofString "__doc__") 248, val := Value.none }, { hash := PyData.keyHash P (Str.ofString "__package__"), key := Value.str (Str.ofString "__package__") 250, val := Value.str (Str.ofString "") 249 }, { hash := PyData.keyHash P (Str.ofString "__loader__"), key := Value.str (Str.ofString "__loader__") 251, val := Value.ref 14 }, { hash := PyData.keyHash P (Str.ofString "__spec__"), key := Value.str (Str.ofString "__spec__") 252, val := Value.ref 26 }, { hash := PyData.keyHash P (Str.ofString "compile"), key := Value.str (Str.ofString "compile") 253, val := Value.builtin "_sre.compile" }, { hash := PyData.keyHash P (Str.ofString "template"), key := Value.str (Str.ofString "template") 254, val := Value.builtin "_sre.template" }, { hash := PyData.keyHash P (Str.ofString "getcodesize"), key := Value.str (Str.ofString "getcodesize") 255, val := Value.builtin "_sre.getcodesize" }, { hash := PyData.keyHash P (Str.ofString "ascii_iscased"), key := Value.str (Str.ofString "ascii_iscased") 256, val := Value.builtin "_sre.ascii_iscased" }, { hash := PyData.keyHash P (Str.ofString "unicode_iscased"), key := Value.str (Str.ofString "unicode_iscased") 257, val := Value.builtin "_sre.unicode_iscased" }, { hash := PyData.keyHash P (Str.ofString "ascii_tolower"), key := Value.str (Str.ofString "ascii_tolower") 258, val := Value.builtin "_sre.ascii_tolower" }, { hash := PyData.keyHash P (Str.ofString "unicode_tolower"), key := Value.str (Str.ofString "unicode_tolower") 259, val := Value.builtin "_sre.unicode_tolower" }, { hash := PyData.keyHash P (Str.ofString "MAGIC"), key := Value.str (Str.ofString "MAGIC") 261, val := Value.int 20230612 260 }, { hash := PyData.keyHash P (Str.ofString "CODESIZE"), key := Value.str (Str.ofString "CODESIZE") 263, val := Value.int 4 262 }, { hash := PyData.keyHash P (Str.ofString "MAXREPEAT"), key := Value.str (Str.ofString "MAXREPEAT") 265, val := Value.int 4294967295 264 }, { hash := PyData.keyHash P (Str.ofString "MAXGROUPS"), key := Value.str (Str.ofString "MAXGROUPS") 267, val := Value.int 1073741823 266 }, { hash := PyData.keyHash P (Str.ofString "copyright"), key := Value.str (Str.ofString "copyright") 269, val := Value.str (Str.ofString " SRE 2.2.2 Copyright (c) 1997-2002 by Secret Labs AB ") 268 }] 17 }
noncomputable def tree_68 (P : Params) : BT := BT.node (PySem.W.boot_o_0 P) (BT.node (ob42 P) (BT.node (ob44 P) (BT.node (PySem.W.boot_o_7 P) (BT.node (ob56 P) BT.nil BT.nil) (BT.node (ob64 P) BT.nil BT.nil)) (BT.node (ob52a P) (BT.node (ob60 P) BT.nil BT.nil) (BT.node (ob68 P) BT.nil BT.nil))) (BT.node (PySem.W.boot_o_5 P) (BT.node (PySem.W.boot_o_9 P) (BT.node (ob58 P) BT.nil BT.nil) (BT.node (ob66 P) BT.nil BT.nil)) (BT.node (ob54 P) (BT.node (ob62 P) BT.nil BT.nil) BT.nil))) (BT.node (ob43 P) (BT.node (PySem.W.boot_o_4 P) (BT.node (PySem.W.boot_o_8 P) (BT.node (ob57 P) BT.nil BT.nil) (BT.node (ob65 P) BT.nil BT.nil)) (BT.node (ob53 P) (BT.node (ob61 P) BT.nil BT.nil) BT.nil)) (BT.node (PySem.W.boot_o_6 P) (BT.node (PySem.W.boot_o_10 P) (BT.node (ob59 P) BT.nil BT.nil) (BT.node (ob67 P) BT.nil BT.nil)) (BT.node (ob55 P) (BT.node (ob63 P) BT.nil BT.nil) BT.nil)))
/-! the top, run in pieces; each piece is one look of the kernel -/
noncomputable def vw : Program := PySem.W.view pw ((List.range 75).filter fun i => !([1, 6, 7, 8, 9, 12, 64] : List Nat).contains i)
abbrev lsn : List Str := [Str.ofString "_twin_re_1", Str.ofString "_twin_re_2", Str.ofString "insort_right", Str.ofString "bisect_right", Str.ofString "COMPILER_FLAG_NAMES", Str.ofString "EXACT_TOKEN_TYPES"]
abbrev tbd : List Stmt := behindTheImports pw
abbrev part (i n : Nat) : List Stmt := (tbd.drop i).take n
abbrev tenv : Env := { scope := pw.main.scope, locals := mainNs, globals := mainNs, cells := [], code := .ref 30, frame := some 31 }
abbrev tcd : Code := .body tbd tenv
abbrev p0 : Pos := ⟨0, 0, 0, 0⟩
abbrev tst : List Frame := [topFrame p0]
noncomputable abbrev hst (h : Heap) (k : Nat) (os : OsState) : Shared := ⟨h, #[], {}, k, os⟩
noncomputable abbrev tsd (t : BT) (n k : Nat) (os : OsState) : SharedT := { tree := t, n := n, life := { }, gens := #[], drawn := { }, toks := k, os := os }
abbrev tsd0 (t : BT) (n k : Nat) (os : OsState) : SharedT := { tree := t, n := n, life := { }, gens := #[], drawn := { }, toks := k, os := os }
theorem open_tree {p : Program} {N M : Nat} {T : Params → BT} {n : Nat} {H₀ : Params → Heap} {k : Nat} (le : Nat.ble (M + 1) N = true)
    (h : ∀ (w : World) (os : OsState), (impGoT treeTable (opening p) w M (tsd0 .nil 0 1 os) (start (opening p)).2).map (fun r => (r.1, r.2.atExitBegin)) = some (tsd0 (T w.params) n k os, some []))
    (f : ∀ (w : World) (os : OsState), (fenceModules? p (tsd0 (T w.params) n k os).abs).map (fun s => (s.heap, s.gens, s.drawn, s.toks)) = some (H₀ w.params, #[], {}, k)) :
    ∀ w : World, (fencedOpening treeTable p w N).map (fun s => (s.heap, s.gens, s.drawn, s.toks)) = some (H₀ w.params, #[], {}, k) := fun w => by
  obtain ⟨⟨s, th⟩, h1, h2⟩ := Option.map_eq_some_iff.mp (h w (start (opening p)).1.os)
  have h4 : importEnds treeTable (opening p) w 1 (SharedT.abs s) th = some (SharedT.abs s) := by
    unfold importEnds
    rw [show th.atExitBegin = some [] from congrArg Prod.snd h2]
  rw [show s = tsd0 (T w.params) n k (start (opening p)).1.os from congrArg Prod.fst h2] at h1 h4
  have m := importEnds_mono (N - (M + 1)) _ _ _ _ (imp_go (impGo_of h1) h4)
  rw [show M + 1 + (N - (M + 1)) = N by have := Nat.le_of_ble_eq_true le; omega] at m
  unfold fencedOpening
  rw [show (start (opening p)).1 = SharedT.abs (tsd0 .nil 0 1 (start (opening p)).1.os) from rfl, m]
  exact f w _
theorem open_run (w : World) (os : OsState) : (impGoT treeTable (opening pw) w 798 (tsd0 .nil 0 1 os) (start (opening pw)).2).map (fun r => (r.1, r.2.atExitBegin)) = some (tsd0 (tree_68 w.params) 28 276 os, some []) := by kernel_rfl
theorem open_fence (w : World) (os : OsState) : (fenceModules? pw (tsd0 (tree_68 w.params) 28 276 os).abs).map (fun s => (s.heap, s.gens, s.drawn, s.toks)) = some (heap_68 w.params, #[], {}, 276) := by kernel_rfl
theorem top_open : ∀ w : World, (fencedOpening treeTable pw w 4598).map (fun s => (s.heap, s.gens, s.drawn, s.toks)) = some (heap_68 w.params, #[], {}, 276) :=
  open_tree (M := 798) (by decide) open_run open_fence
theorem top_size (w : World) : ((heap_68 w.params).isNs mainGlobals && (#[] : Array GenState).size == 0, (heap_68 w.params).objs.size, (heap_68 w.params).nsMap mainGlobals "__annotations__") = (true, 28, some (.ref 6)) := by kernel_rfl
theorem top_pre (w : World) (os : OsState) : topGo treeTable pw w 28 (some (.ref 6)) 12 (hst (heap_68 w.params) 276 os) (topStub pw) = some (hst (heap_72 w.params) 282 os, ⟨denote treeTable tcd, tcd, p0, tst⟩) := by kernel_rfl
theorem top_block (w : World) (os : OsState) : segRun treeTable pw w 28 (some (.ref 6)) 1 1 (hst (heap_72 w.params) 282 os) (blockOf tbd tenv tcd p0 tst) = some (.next, (tsd (tree_73 w.params) 32 282 os).abs, tcd, p0) := by kernel_rfl
theorem top_p1 (w : World) (os : OsState) : segRunT treeTable pw w 28 (some (.ref 6)) 1 291 (tsd (tree_73 w.params) 32 282 os) (piecesOf (part 0 9) tenv tcd p0 tst) = some (.next, tsd (tree_111 w.params) 67 382 os, tcd, ⟨35, 0, 35, 8⟩) := by kernel_rfl
theorem top_p2f (w : World) : ∀ os : OsState, segRunT treeTable pw (w.withFollow "special-get-raises" false) 28 (some (.ref 6)) 1 398 (tsd (tree_111 (w.withFollow "special-get-raises" false).params) 67 382 os) (piecesOf (part 9 27) tenv tcd ⟨35, 0, 35, 8⟩ tst) = some (.next, tsd (tree_121 (w.withFollow "special-get-raises" false).params) 75 473 os, tcd, ⟨73, 0, 73, 9⟩) := by intro os; kernel_rfl
theorem top_p2t (w : World) : ∀ os : OsState, segRunT treeTable pw (w.withFollow "special-get-raises" true) 28 (some (.ref 6)) 1 398 (tsd (tree_111 (w.withFollow "special-get-raises" true).params) 67 382 os) (piecesOf (part 9 27) tenv tcd ⟨35, 0, 35, 8⟩ tst) = some (.next, tsd (tree_121 (w.withFollow "special-get-raises" true).params) 75 473 os, tcd, ⟨73, 0, 73, 9⟩) := by intro os; kernel_rfl
theorem top_p3 (w : World) (os : OsState) : segRunT treeTable pw w 28 (some (.ref 6)) 1 226 (tsd (tree_121 w.params) 75 473 os) (piecesOf (part 36 25) tenv tcd ⟨73, 0, 73, 9⟩ tst) = some (.next, tsd (tree_124 w.params) 75 523 os, tcd, ⟨98, 0, 98, 11⟩) := by kernel_rfl
theorem top_p4f (w : World) : ∀ os : OsState, segRunT treeTable pw (w.withFollow "special-get-raises" false) 28 (some (.ref 6)) 1 979 (tsd (tree_124 (w.withFollow "special-get-raises" false).params) 75 523 os) (piecesOf (part 61 1) tenv tcd ⟨98, 0, 98, 11⟩ tst) = some (.next, tsd (tree_129 (w.withFollow "special-get-raises" false).params) 78 620 os, tcd, ⟨99, 0, 99, 17⟩) := by intro os; kernel_rfl
theorem top_p4t (w : World) : ∀ os : OsState, segRunT treeTable pw (w.withFollow "special-get-raises" true) 28 (some (.ref 6)) 1 979 (tsd (tree_124 (w.withFollow "special-get-raises" true).params) 75 523 os) (piecesOf (part 61 1) tenv tcd ⟨98, 0, 98, 11⟩ tst) = some (.next, tsd (tree_129 (w.withFollow "special-get-raises" true).params) 78 620 os, tcd, ⟨99, 0, 99, 17⟩) := by intro os; kernel_rfl
theorem top_p5 (w : World) (os : OsState) : segRunT treeTable pw w 28 (some (.ref 6)) 1 347 (tsd (tree_129 w.params) 78 620 os) (piecesOf (part 62 12) tenv tcd ⟨99, 0, 99, 17⟩ tst) = some (.next, tsd (tree_205 w.params) 149 723 os, tcd, ⟨191, 0, 200, 51⟩) := by kernel_rfl
theorem top_fin (w : World) (os : OsState) : topRun treeTable pw w 28 (some (.ref 6)) 2 (tsd (tree_205 w.params) 149 723 os).abs ⟨doneF .next, tcd, ⟨191, 0, 200, 51⟩, tst⟩ = some (hst (heap_206 w.params) 723 os) := by kernel_rfl
theorem top_parts : tbd = part 0 9 ++ (part 9 27 ++ (part 36 25 ++ (part 61 1 ++ (part 62 12 ++ [])))) := by kernel_rfl
theorem top_run (w : World) (os : OsState) : topRun treeTable pw w 28 (some (.ref 6)) (12 + (1 + (291 + (398 + (226 + (979 + (347 + 2))))))) (hst (heap_68 w.params) 276 os) (topStub pw) = some (hst (heap_206 w.params) 723 os) := by
  have h2 : ∀ os : OsState, segRunT treeTable pw w 28 (some (.ref 6)) 1 398 (tsd (tree_111 w.params) 67 382 os) (piecesOf (part 9 27) tenv tcd ⟨35, 0, 35, 8⟩ tst) = some (.next, tsd (tree_121 w.params) 75 473 os, tcd, ⟨73, 0, 73, 9⟩) :=
    byRow2 "special-get-raises" (P := fun w => ∀ os : OsState, segRunT treeTable pw w 28 (some (.ref 6)) 1 398 (tsd (tree_111 w.params) 67 382 os) (piecesOf (part 9 27) tenv tcd ⟨35, 0, 35, 8⟩ tst) = some (.next, tsd (tree_121 w.params) 75 473 os, tcd, ⟨73, 0, 73, 9⟩)) top_p2f top_p2t w
  have h4 : ∀ os : OsState, segRunT treeTable pw w 28 (some (.ref 6)) 1 979 (tsd (tree_124 w.params) 75 523 os) (piecesOf (part 61 1) tenv tcd ⟨98, 0, 98, 11⟩ tst) = some (.next, tsd (tree_129 w.params) 78 620 os, tcd, ⟨99, 0, 99, 17⟩) :=
    byRow2 "special-get-raises" (P := fun w => ∀ os : OsState, segRunT treeTable pw w 28 (some (.ref 6)) 1 979 (tsd (tree_124 w.params) 75 523 os) (piecesOf (part 61 1) tenv tcd ⟨98, 0, 98, 11⟩ tst) = some (.next, tsd (tree_129 w.params) 78 620 os, tcd, ⟨99, 0, 99, 17⟩)) top_p4f top_p4t w
  refine go_top (top_pre w os) (piece_block (top_block w os) ?_)
  have k := piece_app (segRun_of (top_p1 w os)) (piece_app (segRun_of (h2 os)) (piece_app (segRun_of (top_p3 w os)) (piece_app (segRun_of (h4 os)) (piece_app (segRun_of (top_p5 w os)) (piece_nil (top_fin w os))))))
  exact (congrArg (fun b => topRun treeTable pw w 28 (some (.ref 6)) (291 + (398 + (226 + (979 + (347 + 2))))) (tsd (tree_73 w.params) 32 282 os).abs (restOf b tenv tcd p0 tst)) top_parts).trans k
noncomputable abbrev hk : Hook := kHook hp hpAs (fun _ => by kernel_rfl)
theorem look_1 (w : World) (os : OsState) : (staticsOk (importedModules pw.main.body) (heap_68 w.params) (heap_206 w.params) && namesBound pw (heap_206 w.params) && gensDone (hst (heap_206 w.params) 723 os) && laidKept (heap_68 w.params) (heap_206 w.params)) = true := by kernel_rfl
theorem look_2 (w : World) (os : OsState) : openSeen vw lsn (importedModules pw.main.body) (fun s => xlAt vw [] s && recOk [] s) true (hst (heap_206 w.params) 723 os) = openGood vw lsn := by kernel_rfl
theorem look_3 (w : World) (os : OsState) : hk.obs (hst (heap_206 w.params) 723 os) = hk.val w := by kernel_rfl
theorem top_left : LeftO pw vw lsn (fun s => xlAt vw [] s && recOk [] s) hk.obs hk.val 4598 :=
  LeftO.of_pieces top_open top_size top_run rfl fun w => by
    funext os
    exact congr (congrArg Prod.mk (look_1 w os)) (congr (congrArg Prod.mk (look_2 w os)) (look_3 w os))
theorem hke : ∀ P, hpAs = (hp P).map (·.1) := fun _ => by kernel_rfl
theorem said_row : PySem.Challenge.rw_us0007_01.row.wellSaid = true := by kernel_rfl
theorem said0 : PySem.Challenge.rw_us0007_01.wellSaid = true := by
  unfold OpenLaw.wellSaid
  rw [said_row]
  kernel_rfl
open PySem.Calls
set_option pp.deepTerms false
set_option pp.deepTerms.threshold 6
set_option pp.proofs false
set_option pp.maxSteps 4000

/-! Base -/
noncomputable abbrev lz : List Str := looseW vw [Str.ofString "_twin_re_1", Str.ofString "_twin_re_2", Str.ofString "insort_right", Str.ofString "bisect_right", Str.ofString "COMPILER_FLAG_NAMES", Str.ofString "EXACT_TOKEN_TYPES"]
noncomputable abbrev prg : Program := PySem.Challenge.rw_us0007_01.row.prog
abbrev Ar (dp un : Nat) (fr : Option (List Env)) (gd : Option (List Code)) : Around := { handled := none, depth := dp, frames := fr, guards := gd, units := un }
abbrev NoE : Value → Shared → Prop := fun _ _ => False
abbrev VMap := Str → Option Value
abbrev Led := List (Addr × Obj)

/-- the walk stops here -/
def Stop (P : Prop) : Prop := P
theorem Stop.mk' {P : Prop} (h : Stop P) : P := h

theorem Fr_stays {h₀ h h' : Heap} {L : Addr} {m : Str → Option Value} (F : Fr h₀ L h m) (k : h.StaysIn h') : Fr h₀ L h' m :=
  ⟨F.ns.at' fun o e => k _ o e, fun b o e => k b o (F.keep b o e), F.above⟩
theorem News_stays {h₀ h h' : Heap} {L : Addr} {news : List (Addr × Obj)} (N : News h₀ L h news) (k : h.StaysIn h') : News h₀ L h' news :=
  fun p hp => ⟨k _ _ (N p hp).1, (N p hp).2⟩
theorem News_add {h₀ h h' : Heap} {L : Addr} {m : Str → Option Value} {news : List (Addr × Obj)} {a : Addr} {o : Obj} (F : Fr h₀ L h m) (N : News h₀ L h news) (k : h.StaysIn h') (ha : h.get? a = none) (ho : h'.get? a = some o) :
    News h₀ L h' ((a, o) :: news) := by
  intro p hp
  rcases List.mem_cons.mp hp with rfl | hp
  · refine ⟨ho, fun e => ?_, ?_⟩
    · obtain ⟨oL, _, _, hL, _⟩ := F.ns; simp only at e; subst e; rw [hL] at ha; cases ha
    · cases q : h₀.get? a with
      | none => rfl
      | some o' => rw [F.keep _ _ q] at ha; cases ha
  · exact News_stays N k p hp
theorem News_ne {h₀ h : Heap} {L : Addr} {news : List (Addr × Obj)} (N : News h₀ L h news) {a : Addr} (ha : h.get? a = none) : ∀ p ∈ news, p.1 ≠ a := fun p hp e => by
  have := (N p hp).1; rw [e, ha] at this; cases this

section
variable {w : World} {A : Around} {s : Shared} {R : Result → Shared → Prop} {name qual : Str} {params : Arguments} {body : List Stmt} {scope : Scope} {dV kV doc pm cdv ct oc : Value} {an od : Option Addr} {osl : Array (Option Value)} {f : Addr} {args : Args} {binds : List (Str × Value)}
    {p : Program} {loose : List Str} {mean : ExcName → Option Value} {mg mb : Str → Option Value} {K : Frag}
theorem enter_def
    (X : K.In s.heap) (T : Top p loose mean mg mb s.heap)
    (ho : K.lookup f = some ⟨oc, od, .func (fnOf name qual params body scope dV kV doc pm an cdv ct), osl⟩) (hcd : codeIn K cdv qual = true) (hroom : A.depth < recursionLimit)
    (hbind : BindsTo s (fnOf name qual params body scope dV kV doc pm an cdv ct) args binds) (hloc : ∀ y ∈ binds, scope.names.lookup y.1 = some .local)
    (h : ∀ L' h₁, Fr s.heap L' h₁ (fun y => binds.reverse.lookup y) → News s.heap L' h₁ [] →
      wpAny (model prg w) (A.deeper (envOf qual scope L' f cdv)) (execs body (envOf qual scope L' f cdv))
        (fun fl s' => R (.ok (.ret (match fl with | .ret v => v | _ => .none))) s') NoE
        { s with heap := h₁, toks := s.toks + binds.length })
    (hcell : ∀ x ∈ scope.names, x.2 ≠ .cell) (hco : scope.isCoroutine = false := by rfl) (hgen : scope.isGenerator = false := by rfl) (hk : scope.kind = .function := by rfl) :
    codeAny (model prg w) A (.call (.ref f) args) R s := by
  refine codeAny_call_def (fd := fnOf name qual params body scope dV kV doc pm an cdv ct) (body := body) (binds := binds) hroom (X _ _ ho) rfl T.nolimit (codeRec_of X hcd) rfl hbind hcell hloc (fun h₁ hns hk₁ => ?_) hco hgen hk
  exact wpAny_mono (h s.heap.objs.size h₁ ⟨hns, hk₁, Nat.le_refl _⟩ News.nil) (fun _ _ z => z) (fun _ _ z => z.elim)
end

section
variable {prog : Program} {w : World} {A : Around} {s : Shared} {env : Env} {h₀ : Heap} {x : Str} {body : List Stmt} {Q : Flow → Shared → Prop}

/-- what a turn of a loop hands on -/
def Turn (h₀ : Heap) (L : Addr) (wr : List Addr) (own : Led) (J : VMap → Led → Prop) (s₁ : Shared) (Q : Flow → Shared → Prop) (f : Flow) (s₂ : Shared) : Prop :=
  match f with
  | .ret v => Q (.ret v) s₂
  | .brk => Q .next s₂
  | _ => ∃ h' tk m₂ news₂, s₂ = { s₁ with heap := h', toks := tk } ∧ Fr h₀ L h' m₂ ∧ News h₀ L h' (news₂ ++ own) ∧ (∀ p ∈ news₂, p.1 ∉ wr) ∧ J m₂ news₂
theorem Turn.next {L : Addr} {wr : List Addr} {own news₂ : Led} {J : VMap → Led → Prop} {s₁ : Shared} {h' : Heap} {tk : Nat} {m₂ : VMap} (F : Fr h₀ L h' m₂) (N : News h₀ L h' (news₂ ++ own)) (hw : ∀ p ∈ news₂, p.1 ∉ wr) (hJ : J m₂ news₂) :
    Turn h₀ L wr own J s₁ Q .next { s₁ with heap := h', toks := tk } := ⟨h', tk, m₂, news₂, rfl, F, N, hw, hJ⟩

theorem loop_any {I : Addr} {fp wr : List Addr} {n : Nat} {P : Nat → Value → Prop} {St : Nat → Heap → Prop} {m₀ : VMap} {news₀ : Led} (J : Nat → VMap → Led → Prop) (adr : List Addr)
    (W : Walks prog w A I fp wr n P St) (hst : St 0 s.heap) (hL : env.locals ∉ fp) (hwr : ∀ b ∈ wr, h₀.get? b = none) (hadr : ∀ b ∈ adr, b ∉ fp)
    (F : Fr h₀ env.locals s.heap m₀) (N : News h₀ env.locals s.heap news₀) (hN : ∀ p ∈ news₀, p.1 ∉ wr) (hJ : J 0 m₀ news₀)
    (turn : ∀ i v m₁ news₁ h tk own, i < n → P i v → J i m₁ news₁ → (∀ p ∈ news₁, p.1 ∉ wr) → (∀ p ∈ own, ∀ b ∈ adr, p.1 ≠ b) → (∀ b ∈ wr, ∃ o, (b, o) ∈ own) →
      Fr h₀ env.locals h (fun y => if y = x then some v else m₁ y) → News h₀ env.locals h (news₁ ++ own) →
      wpAny (model prog w) A (execs body env) (Turn h₀ env.locals wr own (J (i + 1)) { s with heap := h, toks := tk } Q) NoE { s with heap := h, toks := tk })
    (done : ∀ m₁ news₁ h tk, J n m₁ news₁ → Fr h₀ env.locals h m₁ → News h₀ env.locals h news₁ → Q .next { s with heap := h, toks := tk })
    (hex : ∀ i h, St i h → ∀ b ∈ wr, ∃ o, h.get? b = some o) :
    LoopAtV prog w A h₀ env x body Q NoE (.ref I) s := by
  refine ⟨I, fp, wr, n, P, St, m₀, news₀, J, rfl, W, hL, hwr, hN, hst, F, N, hJ, ?_, ?_⟩
  · rintro i v m₁ news₁ s₁ own ⟨h, tk, rfl⟩ hi hP hJ₁ hw hown hob hmem hst₁ F₁ N₁
    have N₂ : News h₀ env.locals h (news₁ ++ own) := fun p hp => N₁ p ((List.mem_append.mp hp).elim (fun q => List.mem_append.mpr (.inr q)) fun q => List.mem_append.mpr (.inl q))
    refine wpAny_mono (turn i v m₁ news₁ h tk own hi hP hJ₁ hw (fun p hp b hb e => hadr b hb (e ▸ hown p hp)) (fun b hb => ?_) F₁ N₂) (fun f s₂ q => ?_) fun _ _ e => e
    · obtain ⟨o, ho⟩ := hex _ _ hst₁ b hb
      exact ⟨o, hmem b (W.sub b hb) (hwr b hb) o ho⟩
    · have fin : (∃ h' tk' m₂ news₂, s₂ = { { s with heap := h, toks := tk } with heap := h', toks := tk' } ∧ Fr h₀ env.locals h' m₂ ∧ News h₀ env.locals h' (news₂ ++ own) ∧ (∀ p ∈ news₂, p.1 ∉ wr) ∧ J (i + 1) m₂ news₂) →
          LoopStepU h₀ env.locals wr own (J (i + 1)) { s with heap := h, toks := tk } .next s₂ := by
        rintro ⟨h', tk', m₂, news₂, rfl, F', N', hw', hJ'⟩
        exact ⟨rfl, h', tk', m₂, news₂, rfl, F', fun p hp => N' p ((List.mem_append.mp hp).elim (fun q => List.mem_append.mpr (.inr q)) fun q => List.mem_append.mpr (.inl q)), hw', hJ'⟩
      cases f with
      | ret v => exact .ret q
      | brk => exact .brk q
      | next => exact .next (fin q)
      | cont => exact .cont (fin q)
  · intro h' tk m' news' F' N' _ hJ'
    exact done m' news' h' tk hJ' F' N'

/-- over a list, wherever it lies -/
theorem iter_list {L : Addr} {l : Addr} {vs : List Value} {m₀ : VMap} {news₀ : Led} (J : Nat → VMap → Led → Prop) (adr : List Addr)
    (hLe : env.locals = L) (hh : A.handled = none) (hl : s.heap.IsList l vs.toArray) (F : Fr h₀ L s.heap m₀) (N : News h₀ L s.heap news₀) (hlL : l ≠ L) (hadr : ∀ b ∈ adr, b ≠ l ∧ b < s.heap.objs.size) (hJ : J 0 m₀ news₀)
    (turn : ∀ (I : Addr) i v m₁ news₁ h tk own, i < vs.length → vs[i]? = some v → J i m₁ news₁ → (∀ p ∈ news₁, p.1 ≠ I) → (∀ p ∈ own, ∀ b ∈ adr, p.1 ≠ b) → (∃ o, (I, o) ∈ own) →
      Fr h₀ L h (fun y => if y = x then some v else m₁ y) → News h₀ L h (news₁ ++ own) →
      wpAny (model prog w) A (execs body env) (Turn h₀ L [I] own (J (i + 1)) { s with heap := h, toks := tk } Q) NoE { s with heap := h, toks := tk })
    (done : ∀ m₁ news₁ h tk, J vs.length m₁ news₁ → Fr h₀ L h m₁ → News h₀ L h news₁ → Q .next { s with heap := h, toks := tk }) :
    wpAny (model prog w) A (pyIter (.ref l)) (fun it s₂ => LoopAtV prog w A h₀ env x body Q NoE it s₂) NoE s := by
  subst hLe
  obtain ⟨ol, hol, _⟩ := id hl
  have hlt : l < s.heap.objs.size := Heap.lt_size hol
  refine wpAny_pyIter_list hl ?_
  have W := Walks.list (prog := prog) (w := w) hh s.heap.objs.size l (Nat.ne_of_lt hlt) vs.toArray
  have up : s.heap.StaysIn (s.heap.push { cls := .type "list_iterator", data := .fields #[.ref l, .int 0 0] }) := fun b o e => Heap.get?_push_of_some _ e
  refine loop_any (s := { s with heap := s.heap.push { cls := .type "list_iterator", data := .fields #[.ref l, .int 0 0] } }) J adr W ⟨⟨_, Heap.get?_push_size _ rfl, rfl, rfl⟩, hl.push _⟩ ?_ ?_ ?_ (Fr_stays F up) (News_stays N up) ?_ hJ ?_ ?_ ?_
  · intro hm
    rcases List.mem_cons.mp hm with e | hm
    · exact absurd F.ns.lt (e ▸ Nat.lt_irrefl _)
    · exact hlL (List.mem_singleton.mp hm).symm
  · intro b hb
    rw [List.mem_singleton.mp hb]
    exact next_is_new F
  · intro b hb hm
    rcases List.mem_cons.mp hm with e | hm
    · exact absurd (hadr b hb).2 (e ▸ Nat.lt_irrefl _)
    · exact (hadr b hb).1 (List.mem_singleton.mp hm)
  · intro p hp hI
    exact absurd (Heap.lt_size (N p hp).1) ((List.mem_singleton.mp hI) ▸ Nat.lt_irrefl _)
  · intro i v m₁ news₁ h tk own hi hP hJ₁ hw hsep hmem F₁ N₁
    exact turn s.heap.objs.size i v m₁ news₁ h tk own (by simpa using hi) (by simpa using hP) hJ₁ (fun p hp e => hw p hp (by simp [e])) hsep (hmem _ (.head _)) F₁ N₁
  · intro m₁ news₁ h tk hJ₁ F₁ N₁
    exact done m₁ news₁ h tk (by simpa using hJ₁) F₁ N₁
  · intro i h st b hb
    rw [List.mem_singleton.mp hb]
    obtain ⟨o, ho, _⟩ := st.1
    exact ⟨o, ho⟩

/-- over a range by ones -/
theorem iter_range {L : Addr} {r : Addr} {a b : Int} {t u v : Tok} {n : Nat} {m₀ : VMap} {news₀ : Led} (J : Nat → VMap → Led → Prop)
    (hLe : env.locals = L) (hh : A.handled = none) (hr : IsRange s.heap r a b 1 t u v) (hsm : Builtin.Range.small a b 1 = true) (hn : Builtin.Range.rangeSize a b 1 = (n : Int)) (F : Fr h₀ L s.heap m₀) (N : News h₀ L s.heap news₀) (hJ : J 0 m₀ news₀)
    (turn : ∀ (I : Addr) i tv m₁ news₁ h tk own, i < n → J i m₁ news₁ → (∀ p ∈ news₁, p.1 ≠ I) → (∀ p ∈ own, ∀ b, b < s.heap.objs.size → p.1 ≠ b) → (∃ o, (I, o) ∈ own) →
      Fr h₀ L h (fun y => if y = x then some (.int (a + (i : Int)) tv) else m₁ y) → News h₀ L h (news₁ ++ own) →
      wpAny (model prog w) A (execs body env) (Turn h₀ L [I] own (J (i + 1)) { s with heap := h, toks := tk } Q) NoE { s with heap := h, toks := tk })
    (done : ∀ m₁ news₁ h tk, J n m₁ news₁ → Fr h₀ L h m₁ → News h₀ L h news₁ → Q .next { s with heap := h, toks := tk }) :
    wpAny (model prog w) A (pyIter (.ref r)) (fun it s₂ => LoopAtV prog w A h₀ env x body Q NoE it s₂) NoE s := by
  subst hLe
  refine wpAny_pyIter_range hr hsm ?_
  have W := Walks.range (prog := prog) (w := w) hh s.heap.objs.size a 1 n
  have up : s.heap.StaysIn (s.heap.push { cls := .type "range_iterator", data := .fields #[rawInt a, rawInt (Builtin.Range.rangeSize a b 1), rawInt 1] }) := fun b o e => Heap.get?_push_of_some _ e
  refine loop_any (s := { s with heap := s.heap.push { cls := .type "range_iterator", data := .fields #[rawInt a, rawInt (Builtin.Range.rangeSize a b 1), rawInt 1] } }) J ((List.range s.heap.objs.size)) W (by show IsRangeIter _ _ _ _ _; rw [hn]; simpa using Heap.get?_push_size _ rfl) ?_ ?_ ?_ (Fr_stays F up) (News_stays N up) ?_ hJ ?_ ?_ ?_
  · intro hm
    exact absurd F.ns.lt (List.mem_singleton.mp hm ▸ Nat.lt_irrefl _)
  · intro b hb
    rw [List.mem_singleton.mp hb]
    exact next_is_new F
  · intro b hb hm
    rw [List.mem_singleton.mp hm] at hb
    exact absurd (List.mem_range.mp hb) (Nat.lt_irrefl _)
  · intro p hp hI
    exact absurd (Heap.lt_size (N p hp).1) ((List.mem_singleton.mp hI) ▸ Nat.lt_irrefl _)
  · intro i v m₁ news₁ h tk own hi hP hJ₁ hw hsep hmem F₁ N₁
    obtain ⟨tv, rfl⟩ := hP
    rw [Int.mul_one] at F₁
    exact turn s.heap.objs.size i tv m₁ news₁ h tk own hi hJ₁ (fun p hp e => hw p hp (by simp [e])) (fun p hp b hb => hsep p hp b (List.mem_range.mpr hb)) (hmem _ (.head _)) F₁ N₁
  · intro m₁ news₁ h tk hJ₁ F₁ N₁
    exact done m₁ news₁ h tk hJ₁ F₁ N₁
  · intro i h st b hb
    rw [List.mem_singleton.mp hb]
    exact ⟨_, st⟩

theorem while_any {test : PySem.Expr} {orelse : List Stmt} {pos : Pos} (I : Nat → Shared → Prop)
    (turn : ∀ k s', I k s' → wpAny (model prog w) A (isTrue test env (eval test env)) (fun b s₂ => if b = true then wpAny (model prog w) A (execs body env) (fun f s₃ => match f with
        | .ret v => Q (.ret v) s₃
        | .brk => Q .next s₃
        | _ => Stop (∃ k', k' < k ∧ I k' s₃)) NoE s₂ else wpAny (model prog w) A (execs orelse env) Q NoE s₂) NoE s')
    (k : Nat) (h : I k s) : wpAny (model prog w) A (exec (.While test body orelse pos) env) Q NoE s := by
  have all : ∀ n k s', k < n → I k s' → WhlRest prog w A NoE env test body orelse Q n s' := by
    intro n
    induction n with
    | zero => intro k s' hk; exact absurd hk (Nat.not_lt_zero _)
    | succ n ih =>
      intro k s' hk hI
      refine whl_turn PassesOwn.never (wpAny_mono (turn k s' hI) (fun b s₂ h₂ => ?_) fun _ _ e => e)
      cases b with
      | false => exact WhlIf.no rfl (by simpa using h₂)
      | true =>
        refine WhlIf.yes rfl (wpAny_mono (by simpa using h₂) (fun f s₃ h₃ => ?_) fun _ _ e => e)
        cases f with
        | ret v => exact h₃
        | brk => exact h₃
        | next => obtain ⟨k', hk', hI'⟩ := h₃; exact ih k' s₃ (by omega) hI'
        | cont => obtain ⟨k', hk', hI'⟩ := h₃; exact ih k' s₃ (by omega) hI'
  exact whl_start (k + 1) (all (k + 1) k s (Nat.lt_succ_self _) h)
end


section
variable {w : World} {A : Around} {s : Shared} {R : Result → Shared → Prop} {name qual : Str} {params : Arguments} {body : List Stmt} {scope : Scope} {dV kV doc pm cdv ct oc : Value} {an od : Option Addr} {osl : Array (Option Value)} {f : Addr} {args : Args} {binds : List (Str × Value)}
    {p : Program} {loose : List Str} {mean : ExcName → Option Value} {mg mb : Str → Option Value} {K : Frag}
theorem hide_stays {g h : Heap} {l : Addr} (hg : g.StaysIn h) (hgl : g.get? l = none) : g.StaysIn (h.hide l) := fun b o e =>
  (Heap.hide_ne h fun (q : b = l) => by subst q; rw [hgl] at e; cases e).trans (hg b o e)
/-- into a def that changes one list of the caller's -/
theorem enter_def1 {g : Heap} {l : Addr} {o : Obj} (X : K.In g) (T : Top p loose mean mg mb g) (hg : g.StaysIn s.heap) (hgl : g.get? l = none) (hl : s.heap.get? l = some o)
    (ho : K.lookup f = some ⟨oc, od, .func (fnOf name qual params body scope dV kV doc pm an cdv ct), osl⟩) (hcd : codeIn K cdv qual = true) (hroom : A.depth < recursionLimit)
    (hbind : BindsTo s (fnOf name qual params body scope dV kV doc pm an cdv ct) args binds) (hloc : ∀ y ∈ binds, scope.names.lookup y.1 = some .local)
    (h : ∀ L' h₁, Fr (s.heap.hide l) L' h₁ (fun y => binds.reverse.lookup y) → News (s.heap.hide l) L' h₁ [(l, o)] → K.In (s.heap.hide l) → Top p loose mean mg mb (s.heap.hide l) →
      wpAny (model prg w) (A.deeper (envOf qual scope L' f cdv)) (execs body (envOf qual scope L' f cdv))
        (fun fl s' => R (.ok (.ret (match fl with | .ret v => v | _ => .none))) s') NoE
        { s with heap := h₁, toks := s.toks + binds.length })
    (hcell : ∀ x ∈ scope.names, x.2 ≠ .cell) (hco : scope.isCoroutine = false := by rfl) (hgen : scope.isGenerator = false := by rfl) (hk : scope.kind = .function := by rfl) :
    codeAny (model prg w) A (.call (.ref f) args) R s := by
  have st := hide_stays hg hgl
  refine codeAny_call_def (fd := fnOf name qual params body scope dV kV doc pm an cdv ct) (body := body) (binds := binds) hroom ((X.keeps hg) _ _ ho) rfl (T.nolimit.keeps hg) (codeRec_of (X.keeps hg) hcd) rfl hbind hcell hloc (fun h₁ hns hk₁ => ?_) hco hgen hk
  refine wpAny_mono (h s.heap.objs.size h₁ ⟨hns, fun b o e => hk₁ b o (Heap.of_hide e), Nat.le_of_eq (Heap.hide_size _ _)⟩ ?_ (X.keeps st) (T.keeps st)) (fun _ _ z => z) (fun _ _ z => z.elim)
  intro q hq
  rw [List.mem_singleton.mp hq]
  exact ⟨hk₁ _ _ hl, Nat.ne_of_lt (Heap.lt_size hl), Heap.hide_self _ _⟩
theorem unhide {h h' : Heap} {l : Addr} (k : ∀ b o, (h.hide l).get? b = some o → h'.get? b = some o) : ∀ b o, b ≠ l → h.get? b = some o → h'.get? b = some o :=
  fun b o hb e => k b o ((Heap.hide_ne h hb).trans e)
end

theorem led_but {h₀ h h' : Heap} {L a : Addr} {m : VMap} {o o' : Obj} {pre post : Led} (F : Fr h₀ L h m) (N : News h₀ L h (pre ++ (a, o) :: post)) (hpre : ∀ p ∈ pre, p.1 ≠ a) (hpost : ∀ p ∈ post, p.1 ≠ a)
    (k : ∀ b x, b ≠ a → h.get? b = some x → h'.get? b = some x) (ho : h'.get? a = some o') : Fr h₀ L h' m ∧ News h₀ L h' (pre ++ (a, o') :: post) := by
  have z := N (a, o) (List.mem_append.mpr (.inr (.head _)))
  refine ⟨⟨F.ns.at' fun x e => k _ x (Ne.symm z.2.1) e, fun b x e => k b x (fun q => by subst q; have := z.2.2; simp only at this; rw [this] at e; cases e) (F.keep b x e), F.above⟩, fun p hp => ?_⟩
  rcases List.mem_append.mp hp with hp | hp
  · have y := N p (List.mem_append.mpr (.inl hp)); exact ⟨k _ _ (hpre p hp) y.1, y.2⟩
  · rcases List.mem_cons.mp hp with rfl | hp
    · exact ⟨ho, z.2⟩
    · have y := N p (List.mem_append.mpr (.inr (.tail _ hp))); exact ⟨k _ _ (hpost p hp) y.1, y.2⟩

theorem ins_len {α : Type} {l : List α} {i : Nat} {x : α} (_h : i ≤ l.length) : (l.take i ++ x :: l.drop i).length = l.length + 1 := by
  rw [List.length_append, List.length_cons, List.length_take, List.length_drop]; omega
theorem ins_perm {α : Type} {l : List α} {i : Nat} {x : α} : (l.take i ++ x :: l.drop i).Perm (l ++ [x]) := by
  refine List.perm_middle.trans ?_
  rw [List.take_append_drop]
  exact (List.perm_append_comm (l₁ := [x]) (l₂ := l))
theorem ins_sorted {l : List Int} {i : Nat} {x : Int} (hs : l.Pairwise (· ≤ ·)) (hi : i ≤ l.length) (h1 : ∀ j, j < i → l.getD j 0 ≤ x) (h2 : ∀ j, i ≤ j → j < l.length → x < l.getD j 0) : (l.take i ++ x :: l.drop i).Pairwise (· ≤ ·) := by
  have hsplit : (l.take i ++ l.drop i).Pairwise (· ≤ ·) := by rw [List.take_append_drop]; exact hs
  have hp := List.pairwise_append.mp hsplit
  have ha : ∀ a ∈ l.take i, a ≤ x := by
    intro a ha
    obtain ⟨j, hj, rfl⟩ := List.getElem_of_mem ha
    rw [List.length_take] at hj
    have := h1 j (by omega)
    rw [List.getElem_take]
    simpa [List.getD, show j < l.length by omega] using this
  have hb : ∀ b ∈ l.drop i, x ≤ b := by
    intro b hb
    obtain ⟨j, hj, rfl⟩ := List.getElem_of_mem hb
    rw [List.length_drop] at hj
    have := h2 (i + j) (by omega) (by omega)
    rw [List.getElem_drop]
    have q : l.getD (i + j) 0 = l[i + j] := by simp [List.getD, show i + j < l.length by omega]
    rw [q] at this
    exact Int.le_of_lt this
  refine List.pairwise_append.mpr ⟨hp.1, List.pairwise_cons.mpr ⟨hb, hp.2.1⟩, fun a h1' b h2' => ?_⟩
  rcases List.mem_cons.mp h2' with rfl | h2'
  · exact ha a h1'
  · exact hp.2.2 a h1' b h2'
theorem ints_ins {vs : List Value} {ns : List Int} (hi : IntsAre vs ns) (i : Nat) (x : Int) (t : Tok) : IntsAre (vs.take i ++ .int x t :: vs.drop i) (ns.take i ++ x :: ns.drop i) := by
  induction hi generalizing i with
  | nil => simp; exact .cons _ _ .nil
  | cons n t' h ih =>
    cases i with
    | zero => exact .cons _ _ (.cons _ _ h)
    | succ i => exact .cons _ _ (ih i)
theorem base_ne {h₀ h : Heap} {L l : Addr} {m : VMap} {its : Array Value} (F : Fr h₀ L h m) (hl : h₀.IsList l its) : l ≠ L := fun e => by
  obtain ⟨o, ho, _⟩ := hl
  exact absurd (Heap.lt_size ho) (by rw [e]; exact Nat.not_lt.mpr F.above)
theorem ints_at {vs : List Value} {ns : List Int} (hi : IntsAre vs ns) {i : Nat} {v : Value} (hv : vs[i]? = some v) (h : i < vs.length) : ∃ (hl : i < ns.length) (t : Tok), v = .int ns[i] t := by
  have hin : i < ns.length := by rw [← hi.length]; exact h
  obtain ⟨t, ht⟩ := hi.get i ns[i] (by simp [hin])
  exact ⟨hin, t, Option.some.inj (hv.symm.trans ht)⟩
theorem Turn.nextI {h₀ : Heap} {Q : Flow → Shared → Prop} {L I : Addr} {own news₂ : Led} {J : VMap → Led → Prop} {s₁ : Shared} {h' : Heap} {tk : Nat} {m₂ : VMap} (F : Fr h₀ L h' m₂) (N : News h₀ L h' (news₂ ++ own)) (hw : ∀ p ∈ news₂, p.1 ≠ I) (hJ : J m₂ news₂) :
    Turn h₀ L [I] own J s₁ Q .next { s₁ with heap := h', toks := tk } := Turn.next F N (fun p hp hm => hw p hp (List.mem_singleton.mp hm)) hJ
/-! macros -/
local macro_rules | `(tactic| k_room) => `(tactic| (simp only [Around.deeper, recursionLimit]; omega))
local macro_rules | `(tactic| walk_at "m enter") => `(tactic| (refine wpAny_call ?_; refine' enter_def ?kX ?kT ?k6 ?k7 ?k8 ?k9 ?kB ?_ ?c5 ?c2 ?c3 ?c4; (case kX => assumption); (case kT => assumption); (case k6 => k_is); (case k7 => k_is); (case k8 => k_room); (case k9 => first | exact BindsTo.of_eq rfl | exact binds_K (by k_in) rfl (by k_is) rfl rfl rfl | (refine' kp_binds ?kx ?ke; (case kx => k_in); (case ke => exact fun _ => rfl))); (case c5 => decide); (case kB => exact locs rfl); (case c2 => exact rfl); (case c3 => exact rfl); (case c4 => exact rfl)))
local macro_rules | `(tactic| walk_at "m look") => `(tactic| first | assumption | exact if_pos rfl | (refine (if_neg (by decide)).trans ?_; walk_at "m look") | exact rfl)
local macro_rules | `(tactic| walk_at "eval Name") => `(tactic| (k_here; (with_reducible show wpAny _ _ (eval (Expr.Name _ _) (envOf _ _ _ _ _)) _ _ _); k_dflt (refine' ld ?k1 ?k2 ?_; (case k1 => k_asm); (case k2 => walk_at "m look"); k_whole)))
local macro_rules | `(tactic| walk_at "exec For Name Call cons nil") => `(tactic| refine Stop.mk' ?_)
local macro_rules | `(tactic| walk_at "exec For Name Name cons nil") => `(tactic| refine Stop.mk' ?_)
local macro_rules | `(tactic| walk_at "exec For Name Subscript cons nil") => `(tactic| refine Stop.mk' ?_)
local macro_rules | `(tactic| walk_at "exec For Name Tuple cons nil") => `(tactic| refine Stop.mk' ?_)
local macro_rules | `(tactic| walk_at "exec For Name Call cons cons") => `(tactic| refine Stop.mk' ?_)
local macro_rules | `(tactic| walk_at "exec While Compare cons nil") => `(tactic| refine Stop.mk' ?_)
local macro_rules | `(tactic| walk_at "exec While BoolOp cons nil") => `(tactic| refine Stop.mk' ?_)
local macro_rules | `(tactic| walk_at "exec While UnaryOp cons nil") => `(tactic| refine Stop.mk' ?_)
local macro_rules | `(tactic| walk_at "pyIter ref") => `(tactic| ((with_reducible show wpAny _ _ (pyIter (Value.ref _)) (fun it s₂ => LoopAtV _ _ _ _ _ _ _ _ _ it s₂) _ _); refine Stop.mk' ?_))
local macro_rules | `(tactic| walk_at "loadName") => `(tactic| (k_here; (with_reducible show wpAny _ _ (loadName (envOf _ _ _ _ _) _) _ _ _); k_dflt (refine' ldn ?k1 ?k2 ?_; (case k1 => k_asm); (case k2 => walk_at "m look"); k_whole)))
local macro_rules | `(tactic| walk_at "call builtin:list.append") => `(tactic| (k_here; (with_reducible show wpAny _ _ (call (Value.builtin _) [Value.ref _, _]) _ _ _); k_dflt (refine' append_K ?k1 ?k2 ?k3 ?_ ?z; (case k1 => k_asm); (case k2 => k_asm); (case k3 => k_upd); (case z => (simp only [List.size_toArray]; rw [sizeLine_eq]; omega)); k_whole); intro h' F' N'; (try k_sweep)))
local macro_rules | `(tactic| walk_at "eval Name") => `(tactic| (k_here; (with_reducible show wpAny _ _ (eval (Expr.Name _ _) (envOfC _ _ _ _ _)) _ _ _); k_dflt (refine' nameX_L ?F ?v ?_ ?a ?b; (case F => k_asm); (case a => exact rfl); (case b => exact rfl); (case v => walk_at "m look"); k_whole)))

/-! Bis -/
section
theorem bis_lo {ns : List Int} {x : Int} {i : Nat} (hs : ns.Pairwise (· ≤ ·)) (hi : i < ns.length) (h : ¬ x < ns.getD i 0) : ∀ j, j ≤ i → ns.getD j 0 ≤ x := by
  intro j hj
  have h1 : ns.getD i 0 = ns[i] := by simp [List.getD, hi]
  have h2 : ns.getD j 0 = ns[j] := by simp [List.getD, Nat.lt_of_le_of_lt hj hi]
  rw [h1] at h
  rw [h2]
  rcases Nat.lt_or_eq_of_le hj with q | q
  · have := (List.pairwise_iff_getElem.mp hs) j i (by omega) hi q
    omega
  · subst q; omega
theorem bis_hi {ns : List Int} {x : Int} {i : Nat} (hs : ns.Pairwise (· ≤ ·)) (hi : i < ns.length) (h : x < ns.getD i 0) : ∀ j, i ≤ j → j < ns.length → x < ns.getD j 0 := by
  intro j hj hl
  have h1 : ns.getD i 0 = ns[i] := by simp [List.getD, hi]
  have h2 : ns.getD j 0 = ns[j] := by simp [List.getD, hl]
  rw [h1] at h
  rw [h2]
  rcases Nat.lt_or_eq_of_le hj with q | q
  · have := (List.pairwise_iff_getElem.mp hs) i j hi hl q
    omega
  · subst q; omega
theorem mid_in {lo hi : Int} (h0 : 0 ≤ lo) (h : lo < hi) : lo ≤ (lo + hi).fdiv 2 ∧ (lo + hi).fdiv 2 < hi ∧ 0 ≤ (lo + hi).fdiv 2 := by
  rw [Int.fdiv_eq_ediv_of_nonneg _ (by decide)]
  omega
theorem bisect_ok : (PySem.Challenge.rw_us0007_01.Holds → True) → ∀ {w : World} {s : Shared} {dp un : Nat} {fr : Option (List Env)} {gd : Option (List Code)} {mean : ExcName → Option Value} {mg mb : VMap} (_X : (hp w.params).In s.heap) (_T : Top vw lz mean mg mb s.heap)
   (_hdp : dp ≤ 920) {l : Addr} {vs : List Value} {ns : List Int} {x : Int} {tx : Tok} (_hl : s.heap.IsList l vs.toArray) (_hi : IntsAre vs ns) (_hlen : ns.length ≤ 5) (_hs : ns.Pairwise (· ≤ ·)) {more : List Value} (_hm : more = [] ∨ ∃ t0, more = [.int 0 t0, .none])
   {Q E : Value → Shared → Prop} (_ret : ∀ (i : Nat) t h' tk, s.heap.StaysIn h' → i ≤ ns.length → (∀ j, j < i → ns.getD j 0 ≤ x) → (∀ j, i ≤ j → j < ns.length → x < ns.getD j 0) → Q (.int i t) { s with heap := h', toks := tk }),
   wpAny (model prg w) (Ar dp un fr gd) (call (.ref 66) (.ref l :: .int x tx :: more) []) Q E s := by
  k_fill
  intro _h w s dp un fr gd mean mg mb X T hdp l vs ns x tx hl hi hlen hs more hm Q E ret
  rcases hm with rfl | ⟨t0, rfl⟩
  all_goals (
    walk_at "m enter"
    intro L' h₁ F N
    (try dsimp only)
    k_fold
    k_steps
    unfold Stop
    refine while_any (fun k s' => ∃ h tk m, ∃ (lo hi : Int), ∃ t1 t2, s' = { s with heap := h, toks := tk } ∧ Fr s.heap L' h m ∧ m (Str.ofString "a") = some (.ref l) ∧ m (Str.ofString "x") = some (.int x tx) ∧ m (Str.ofString "lo") = some (.int lo t1) ∧ m (Str.ofString "hi") = some (.int hi t2) ∧ 0 ≤ lo ∧ lo ≤ hi ∧ hi ≤ (ns.length : Int) ∧ k = (hi - lo).toNat
       ∧ (∀ j, j < lo.toNat → ns.getD j 0 ≤ x) ∧ (∀ j, hi.toNat ≤ j → j < ns.length → x < ns.getD j 0)) ?_ ns.length ?_
    · rintro k _ ⟨h, tk, m, lo, hi', t1, t2, rfl, F, m1, m2, m3, m4, h0, hlo, hhi, rfl, hL, hH⟩
      have N : News s.heap L' h [] := News.nil
      k_steps
      all_goals (try dsimp only)
      · have hm := mid_in h0 (by assumption : lo < hi')
        exact ⟨((lo + hi').fdiv 2 - lo).toNat, by omega, _, _, _, lo, _, _, _, rfl, by assumption, by walk_at "m look", by walk_at "m look", by walk_at "m look", by walk_at "m look", h0, hm.1, by omega, rfl, hL, bis_hi hs (by omega) (by assumption)⟩
      · have hm := mid_in h0 (by assumption : lo < hi')
        exact ⟨(hi' - ((lo + hi').fdiv 2 + 1)).toNat, by omega, _, _, _, _, hi', _, _, rfl, by assumption, by walk_at "m look", by walk_at "m look", by walk_at "m look", by walk_at "m look", by omega, by omega, hhi, rfl, fun j hj => bis_lo (i := ((lo + hi').fdiv 2).toNat) hs (by omega) (by assumption) j (by omega), hH⟩
      · have e : lo = hi' := by omega
        subst e
        obtain ⟨i, rfl⟩ := Int.eq_ofNat_of_zero_le h0
        show Q (.int i t1) _
        exact ret i t1 h tk F.keep (by omega) (fun j hj => hL j (by omega)) (fun j h1 h2 => hH j (by omega) h2)
    · exact ⟨_, _, _, 0, ns.length, _, _, rfl, by assumption, by walk_at "m look", by walk_at "m look", by walk_at "m look", by walk_at "m look", Int.le_refl _, by omega, Int.le_refl _, by omega, fun j hj => absurd hj (Nat.not_lt_zero _), fun j h1 h2 => by omega⟩)
end

/-! Ins -/
section
local macro_rules | `(tactic| walk_at "m enter1") => `(tactic| (refine wpAny_call ?_; refine' enter_def1 ?kX ?kT ?kg ?kgl ?kl ?k6 ?k7 ?k8 ?k9 ?kB ?_ ?c5 ?c2 ?c3 ?c4; (case kX => assumption); (case kT => assumption); (case kg => assumption); (case kgl => assumption); (case kl => assumption); (case k6 => k_is); (case k7 => k_is); (case k8 => k_room); (case k9 => first | exact BindsTo.of_eq rfl | exact binds_K (Frag.In.keeps (by assumption) (by assumption)) rfl (by k_is) rfl rfl rfl | (refine' kp_binds ?kx ?ke; (case kx => exact Frag.In.keeps (by assumption) (by assumption)); (case ke => exact fun _ => rfl))); (case c5 => decide); (case kB => exact locs rfl); (case c2 => exact rfl); (case c3 => exact rfl); (case c4 => exact rfl)))
theorem insort_ok : (PySem.Challenge.rw_us0007_01.Holds → True) → ∀ {w : World} {s : Shared} {dp un : Nat} {fr : Option (List Env)} {gd : Option (List Code)} {mean : ExcName → Option Value} {mg mb : VMap} {g : Heap} (_X : (hp w.params).In g) (_T : Top vw lz mean mg mb g)
   (_hdp : dp ≤ 919) {l : Addr} {vs : List Value} {ns : List Int} {n : Nat} {x : Int} {tx : Tok} (_hg : g.StaysIn s.heap) (_hgl : g.get? l = none) (_hl : s.heap.get? l = some (listOf vs.toArray n)) (_hi : IntsAre vs ns) (_hlen : ns.length ≤ 5) (_hs : ns.Pairwise (· ≤ ·))
   {Q E : Value → Shared → Prop} (_ret : ∀ (i : Nat) h' tk, (∀ b o, b ≠ l → s.heap.get? b = some o → h'.get? b = some o) → h'.get? l = some (listOf (vs.take i ++ .int x tx :: vs.drop i).toArray (n + 1)) → i ≤ ns.length → (∀ j, j < i → ns.getD j 0 ≤ x) → (∀ j, i ≤ j → j < ns.length → x < ns.getD j 0) → Q .none { s with heap := h', toks := tk }),
   wpAny (model prg w) (Ar dp un fr gd) (call (.ref 57) [.ref l, .int x tx] []) Q E s := by
  k_fill
  intro _h w s dp un fr gd mean mg mb g X T hdp l vs ns n x tx hg hgl hl hi hlen hs Q E ret
  walk_at "m enter1"
  intro L' h₁ F N X' T'
  (try dsimp only)
  k_fold
  k_steps
  refine bisect_ok (fun _ => trivial) (X'.keeps F.keep) (T'.keeps F.keep) (by show dp + 1 ≤ 920; omega) (ns := ns) ⟨_, (N _ (.head _)).1, rfl, n, rfl⟩ hi hlen hs (.inr ⟨_, rfl⟩) ?_
  intro i t h' tk' hst hle h1 h2
  have F2 := Fr_stays F hst
  have N2 := News_stays N hst
  clear F N
  k_steps
  have hvl : vs.length = ns.length := hi.length
  refine kl_insert (its := vs.toArray) (n := n) (l := vs.take i ++ .int x tx :: vs.drop i) (by assumption) (by assumption) ?_ ?_ (by k_upd) ?_ ?_
  · simp [Builtin.List.listFitsIndex]; omega
  · have e : min ((i : Int)).toNat vs.length = i := by omega
    simp only [kl_ins]
    rw [if_neg (by omega), e]
  · rw [sizeLine_eq]; show vs.length ≤ _; omega
  · intro h'' F3 N3
    k_steps
    exact ret i h'' _ (unhide F3.keep) (N3 _ (.head _)).1 hle h1 h2
end

/-! Line -/
section
theorem line_ok : (PySem.Challenge.rw_us0007_01.Holds → True) → ∀ {w : World} {s : Shared} {dp un : Nat} {fr : Option (List Env)} {gd : Option (List Code)} {mean : ExcName → Option Value} {mg mb : VMap} (_X : (hp w.params).In s.heap) (_T : Top vw lz mean mg mb s.heap)
   (_hdp : dp ≤ 918) {l : Addr} {vs : List Value} {ns : List Int} (_hl : s.heap.IsList l vs.toArray) (_hi : IntsAre vs ns) (_hlen : ns.length ≤ 5)
   {Q E : Value → Shared → Prop} (_ret : ∀ a h' tk ws ys k, s.heap.StaysIn h' → s.heap.get? a = none → h'.get? a = some (listOf ws.toArray k) → IntsAre ws ys → ys.Perm ns → ys.Pairwise (· ≤ ·) → Q (.ref a) { s with heap := h', toks := tk }),
   wpAny (model prg w) (Ar dp un fr gd) (call (.ref 98) [.ref l] []) Q E s := by
  k_fill
  intro _h w s dp un fr gd mean mg mb X T hdp l vs ns hl hi hlen Q E ret
  walk_at "m enter"
  intro L' h₁ F N
  (try dsimp only)
  k_fold
  k_steps
  unfold Stop
  rename_i a _ _ h2 F2 N2
  refine For_invV s.heap (hx := rfl) (hp := rfl) (hE := PassesOwn.never) ?_
  k_steps
  unfold Stop
  refine iter_list (fun i m nw => m (Str.ofString "line") = some (.ref a) ∧ ∃ ws ys k, nw = [(a, listOf ws.toArray k)] ∧ IntsAre ws ys ∧ ys.Perm (ns.take i) ∧ ys.Pairwise (· ≤ ·)) [a] rfl rfl (F2.lst hl) F2 N2 ?_ ?_ ?_ ?_ ?_
  · exact fun e => by obtain ⟨o, ho, _⟩ := hl; exact absurd (Heap.lt_size ho) (by have := F2.above; rw [e]; exact Nat.not_lt.mpr this)
  · intro b hb
    rw [List.mem_singleton.mp hb]
    refine ⟨fun e => ?_, Heap.lt_size (N2 _ (.head _)).1⟩
    obtain ⟨o, ho, _⟩ := hl
    have := (N2 _ (.head _)).2.2
    simp only at this
    rw [e, ho] at this; cases this
  · exact ⟨by walk_at "m look", [], [], 0, rfl, .nil, .refl _, .nil⟩
  · rintro I i v m₁ news₁ h tk own hi' hv ⟨m1, ws, ys, k, rfl, hw, hp, hso⟩ hwI hsep hown F3 N3
    have hin : i < ns.length := by rw [← hi.length]; exact hi'
    obtain ⟨t, ht⟩ := hi.get i ns[i] (by simp [hin])
    have hv' : v = .int ns[i] t := Option.some.inj (hv.symm.trans ht)
    subst hv'
    have hylen : ys.length = i := by rw [hp.length_eq, List.length_take]; omega
    k_steps
    refine insort_ok (fun _ => trivial) X T (by show dp + 1 ≤ 919; omega) ?_ (N3 _ (.head _)).2.2 ?_ hw (by omega) hso (n := k) ?_
    · exact F3.keep
    · exact (N3 _ (.head _)).1
    intro j h' tk' hk hg hj h1 h2'
    obtain ⟨F4, N4⟩ := led_but (pre := []) F3 N3 (fun _ q => nomatch q) (fun p q => hsep p q a (.head _)) hk hg
    k_steps
    refine Turn.next (news₂ := [(a, listOf (ws.take j ++ .int ns[i] t :: ws.drop j).toArray (k + 1))]) F4 N4 ?_ ⟨by walk_at "m look", _, ys.take j ++ ns[i] :: ys.drop j, _, rfl, ?_, ?_, ?_⟩
    · intro p q e
      rw [List.mem_singleton.mp q] at e
      exact hwI (a, listOf ws.toArray k) (.head _) (List.mem_singleton.mp e)
    · exact ints_ins hw j _ t
    · refine ins_perm.trans ?_
      rw [List.take_add_one, List.getElem?_eq_getElem hin]
      exact hp.append_right _
    · exact ins_sorted hso hj h1 h2'
  · rintro m₁ news₁ h tk ⟨m1, ws, ys, k, rfl, hw, hp, hso⟩ F3 N3
    k_steps
    refine ret a h tk ws ys k F3.keep (N3 _ (.head _)).2.2 (N3 _ (.head _)).1 hw ?_ hso
    rw [hi.length, List.take_length] at hp
    exact hp
end

/-! Even -/
section
def onesAt (ns : List Int) (p : Nat) : Int := (ns.map fun n => n / 2 ^ p % 2).sum
def evenB (ns : List Int) (m : Int) : Bool := (List.range 4).all fun p => onesAt ns p % (m + 1) == 0
theorem ones_step {ns : List Int} {j i : Nat} (h : j < ns.length) : onesAt (ns.take (j + 1)) i = onesAt (ns.take j) i + (ns[j].fdiv (2 ^ i)).fmod 2 := by
  unfold onesAt
  rw [List.take_add_one, List.getElem?_eq_getElem h, Option.toList_some, List.map_append, List.sum_append, List.map_singleton, List.sum_singleton, Int.fmod_eq_emod_of_nonneg _ (by decide), Int.fdiv_eq_ediv_of_nonneg _ (Int.le_of_lt (Int.pow_pos (by decide)))]
theorem even_no {ns : List Int} {m : Int} {p : Nat} (hp : p < 4) (h : onesAt ns p % (m + 1) ≠ 0) : evenB ns m = false := by
  unfold evenB
  rw [List.all_eq_false]
  exact ⟨p, List.mem_range.mpr hp, by simpa using h⟩
theorem even_yes {ns : List Int} {m : Int} (h : ∀ p, p < 4 → onesAt ns p % (m + 1) = 0) : evenB ns m = true := by
  unfold evenB
  rw [List.all_eq_true]
  exact fun p hp => by simpa using h p (List.mem_range.mp hp)
theorem even_ok : (PySem.Challenge.rw_us0007_01.Holds → True) → ∀ {w : World} {s : Shared} {dp un : Nat} {fr : Option (List Env)} {gd : Option (List Code)} {mean : ExcName → Option Value} {mg mb : VMap} (_X : (hp w.params).In s.heap) (_T : Top vw lz mean mg mb s.heap)
   (_hdp : dp ≤ 920) {l : Addr} {vs : List Value} {ns : List Int} {mo : Int} {tm : Tok} (_hl : s.heap.IsList l vs.toArray) (_hi : IntsAre vs ns) (_hlen : ns.length ≤ 5) (_hr : ∀ n ∈ ns, 0 ≤ n ∧ n ≤ 31) (_hm : 1 ≤ mo ∧ mo ≤ 2)
   {Q E : Value → Shared → Prop} (_ret : ∀ h' tk, s.heap.StaysIn h' → Q (.bool (evenB ns mo)) { s with heap := h', toks := tk }),
   wpAny (model prg w) (Ar dp un fr gd) (call (.ref 124) [.ref l, .int mo tm] []) Q E s := by
  k_fill
  intro _h w s dp un fr gd mean mg mb X T hdp l vs ns mo tm hl hi hlen hr hm Q E ret
  walk_at "m enter"
  intro L' h₁ F N
  (try dsimp only)
  k_fold
  k_steps
  unfold Stop
  refine For_invV s.heap (hx := rfl) (hp := rfl) (hE := PassesOwn.never) ?_
  k_steps
  unfold Stop
  refine iter_range (n := 4) (fun i m nw => nw = [] ∧ m (Str.ofString "heaps") = some (.ref l) ∧ m (Str.ofString "most") = some (.int mo tm) ∧ ∀ p, p < i → onesAt ns p % (mo + 1) = 0) rfl rfl (by assumption) (by decide) (by decide) (by assumption) (by assumption) ⟨rfl, by walk_at "m look", by walk_at "m look", fun p hp => absurd hp (Nat.not_lt_zero _)⟩ ?_ ?_
  · rintro I i tv m₁ news₁ h tk own hi' ⟨rfl, m1, m2, hev⟩ hwI hsep hown F3 N3
    simp only [List.nil_append] at N3
    simp only [Int.zero_add] at F3
    k_steps
    unfold Stop
    refine For_invV s.heap (hx := rfl) (hp := rfl) (hE := PassesOwn.never) ?_
    k_steps
    unfold Stop
    refine iter_list (fun j m nw => nw = own ∧ m (Str.ofString "heaps") = some (.ref l) ∧ m (Str.ofString "most") = some (.int mo tm) ∧ (∃ tp, m (Str.ofString "place") = some (.int i tp)) ∧ ∃ to, m (Str.ofString "ones") = some (.int (onesAt (ns.take j) i) to)) [] rfl rfl (Fr.lst (by assumption) hl) (by assumption) (by assumption) (base_ne F3 hl) (fun b hb => nomatch hb) ?_ ?_ ?_
    · exact ⟨rfl, by walk_at "m look", by walk_at "m look", ⟨tv, by walk_at "m look"⟩, ⟨_, by walk_at "m look"⟩⟩
    · rintro I2 j v m₂ news₂ h2 tk2 own2 hj hv ⟨rfl, m3, m4, ⟨tp, m5⟩, ⟨to, m6⟩⟩ hwI2 hsep2 hown2 F4 N4
      obtain ⟨hjn, t, rfl⟩ := ints_at hi hv hj
      k_steps
      refine Turn.nextI (news₂ := news₂) (by assumption) (by assumption) hwI2 ⟨rfl, by walk_at "m look", by walk_at "m look", ⟨_, by walk_at "m look"⟩, ?_⟩
      rw [ones_step hjn]
      exact ⟨_, by walk_at "m look"⟩
    · rintro m₂ news₂ h2 tk2 ⟨rfl, m3, m4, ⟨tp, m5⟩, ⟨to, m6⟩⟩ F4 N4
      rw [hi.length, List.take_length] at m6
      k_steps
      · rename (Int.fmod _ _ ≠ 0) => hne
        rw [Int.fmod_eq_emod_of_nonneg _ (by omega)] at hne
        show Q (.bool false) _
        exact even_no hi' hne ▸ ret _ _ F4.keep
      · rename (Int.fmod _ _ = 0) => hne
        rw [Int.fmod_eq_emod_of_nonneg _ (by omega)] at hne
        refine Turn.next (news₂ := []) F4 N4 (fun _ h => nomatch h) ⟨rfl, m3, m4, fun p hp => ?_⟩
        rcases Nat.lt_or_eq_of_le (Nat.le_of_lt_succ hp) with q | rfl
        · exact hev p q
        · exact hne
  · rintro m₁ news₁ h tk ⟨rfl, m1, m2, hev⟩ F3 N3
    k_steps
    show Q (.bool true) _
    exact even_yes hev ▸ ret _ _ F3.keep
end

/-! Right -/
section
def lowd (ns as : List Int) (i : Nat) : Int := (((List.range i).filter fun j => decide (as.getD j 0 < ns.getD j 0)).length : Nat)
def rightB (ns as : List Int) (m : Int) : Bool := (List.range 5).all (fun j => decide (as.getD j 0 ≤ ns.getD j 0)) && decide (lowd ns as 5 ≤ m) && evenB as m
theorem lowd_step (ns as : List Int) (i : Nat) : lowd ns as (i + 1) = if as.getD i 0 < ns.getD i 0 then lowd ns as i + 1 else lowd ns as i := by
  unfold lowd
  rw [List.range_succ, List.filter_append, List.length_append]
  by_cases h : as.getD i 0 < ns.getD i 0
  · rw [if_pos h, List.filter_cons_of_pos (p := fun j => decide (as.getD j 0 < ns.getD j 0)) (decide_eq_true h), List.filter_nil, List.length_singleton]; rfl
  · rw [if_neg h, List.filter_cons_of_neg (p := fun j => decide (as.getD j 0 < ns.getD j 0)) (by rw [decide_eq_true_eq]; exact h), List.filter_nil, List.length_nil]; rfl
theorem right_no {ns as : List Int} {m : Int} {p : Nat} (hp : p < 5) (h : ¬ as.getD p 0 ≤ ns.getD p 0) : rightB ns as m = false := by
  have : (List.range 5).all (fun j => decide (as.getD j 0 ≤ ns.getD j 0)) = false := by
    rw [List.all_eq_false]
    exact ⟨p, List.mem_range.mpr hp, by simpa using h⟩
  unfold rightB
  rw [this]; rfl
theorem right_yes {ns as : List Int} {m : Int} (h : ∀ p, p < 5 → as.getD p 0 ≤ ns.getD p 0) : rightB ns as m = (decide (lowd ns as 5 ≤ m) && evenB as m) := by
  have : (List.range 5).all (fun j => decide (as.getD j 0 ≤ ns.getD j 0)) = true := by
    rw [List.all_eq_true]
    exact fun p hp => by simpa using h p (List.mem_range.mp hp)
  unfold rightB
  rw [this, Bool.true_and]
theorem right_ok : (PySem.Challenge.rw_us0007_01.Holds → True) → ∀ {w : World} {s : Shared} {dp un : Nat} {fr : Option (List Env)} {gd : Option (List Code)} {mean : ExcName → Option Value} {mg mb : VMap} (_X : (hp w.params).In s.heap) (_T : Top vw lz mean mg mb s.heap)
   (_hdp : dp ≤ 919) {l b : Addr} {vs us : List Value} {ns as : List Int} {mo : Int} {tm : Tok} (_hl : s.heap.IsList l vs.toArray) (_hi : IntsAre vs ns) (_hlen : ns.length = 5) (_hb : s.heap.IsList b us.toArray) (_hj : IntsAre us as) (_hlen2 : as.length = 5) (_hr : ∀ n ∈ as, 0 ≤ n ∧ n ≤ 31) (_hm : 1 ≤ mo ∧ mo ≤ 2)
   {Q E : Value → Shared → Prop} (_ret : ∀ h' tk, s.heap.StaysIn h' → Q (.bool (rightB ns as mo)) { s with heap := h', toks := tk }),
   wpAny (model prg w) (Ar dp un fr gd) (call (.ref 131) [.ref l, .ref b, .int mo tm] []) Q E s := by
  k_fill
  intro _h w s dp un fr gd mean mg mb X T hdp l b vs us ns as mo tm hl hi hlen hb hj hlen2 hr hm Q E ret
  walk_at "m enter"
  intro L' h₁ F N
  (try dsimp only)
  k_fold
  k_steps
  unfold Stop
  refine For_invV s.heap (hx := rfl) (hp := rfl) (hE := PassesOwn.never) ?_
  k_steps
  unfold Stop
  refine iter_range (n := 5) (fun i m nw => nw = [] ∧ m (Str.ofString "heaps") = some (.ref l) ∧ m (Str.ofString "after") = some (.ref b) ∧ m (Str.ofString "most") = some (.int mo tm) ∧ (∃ t, m (Str.ofString "lowered") = some (.int (lowd ns as i) t)) ∧ ∀ p, p < i → as.getD p 0 ≤ ns.getD p 0) rfl rfl (by assumption) (by decide) (by decide) (by assumption) (by assumption) ⟨rfl, by walk_at "m look", by walk_at "m look", by walk_at "m look", ⟨_, by walk_at "m look"⟩, fun p hp => absurd hp (Nat.not_lt_zero _)⟩ ?_ ?_
  · rintro I i tv m₁ news₁ h tk own hi' ⟨rfl, m1, m2, m3, ⟨t, m4⟩, hle⟩ hwI hsep hown F3 N3
    simp only [List.nil_append] at N3
    simp only [Int.zero_add] at F3
    k_steps
    · show Q (.bool false) _
      exact right_no hi' (Int.not_le.mpr (by assumption)) ▸ ret _ _ (Fr.keep (by assumption))
    · refine Turn.nextI (news₂ := []) (by assumption) (by assumption) (fun _ h => nomatch h) ⟨rfl, by walk_at "m look", by walk_at "m look", by walk_at "m look", ?_, fun p hp => ?_⟩
      · rw [show lowd ns as (i + 1) = lowd ns as i + 1 from (lowd_step ns as i).trans (if_pos (by assumption))]
        exact ⟨_, by walk_at "m look"⟩
      · rcases Nat.lt_or_eq_of_le (Nat.le_of_lt_succ hp) with q | rfl
        · exact hle p q
        · exact Int.not_lt.mp (by assumption)
    · refine Turn.nextI (news₂ := []) (by assumption) (by assumption) (fun _ h => nomatch h) ⟨rfl, by walk_at "m look", by walk_at "m look", by walk_at "m look", ?_, fun p hp => ?_⟩
      · rw [show lowd ns as (i + 1) = lowd ns as i from (lowd_step ns as i).trans (if_neg (by assumption))]
        exact ⟨_, by walk_at "m look"⟩
      · rcases Nat.lt_or_eq_of_le (Nat.le_of_lt_succ hp) with q | rfl
        · exact hle p q
        · exact Int.not_lt.mp (by assumption)
  · rintro m₁ news₁ h tk ⟨rfl, m1, m2, m3, ⟨t, m4⟩, hle⟩ F3 N3
    k_steps
    · refine even_ok (fun _ => trivial) (X.keeps F3.keep) (T.keeps F3.keep) (by show dp + 1 ≤ 920; omega) (Fr.lst F3 hb) hj (by omega) hr hm ?_
      intro h' tk' hk
      have e : evenB as mo = rightB ns as mo := by
        rw [right_yes hle, decide_eq_true (by assumption), Bool.true_and]
      show Q (.bool (evenB as mo)) _
      rw [e]
      exact ret _ _ (fun b o q => hk b o (F3.keep b o q))
    · have e : false = rightB ns as mo := by
        rw [right_yes hle, decide_eq_false (by assumption), Bool.false_and]
      show Q (.bool _) _
      rw [decide_eq_false (by assumption), e]
      exact ret _ _ F3.keep
end

/-! Move -/
section
def Moved (ns as : List Int) (mo : Int) : Prop :=
  as.length = ns.length ∧ (∀ j, 0 ≤ as.getD j 0 ∧ as.getD j 0 ≤ ns.getD j 0) ∧ ∃ one two, one < 5 ∧ two < 5 ∧ as.getD one 0 < ns.getD one 0 ∧ (mo = 1 → two = one) ∧ ∀ j, j ≠ one → j ≠ two → as.getD j 0 = ns.getD j 0
theorem getD_set_eq {l : List Int} {i : Nat} {x : Int} (h : i < l.length) : (l.set i x).getD i 0 = x := by simp [List.getD, h]
theorem getD_set_ne {l : List Int} {i j : Nat} {x : Int} (h : j ≠ i) : (l.set i x).getD j 0 = l.getD j 0 := by
  rw [List.getD_eq_getElem?_getD, List.getD_eq_getElem?_getD, List.getElem?_set_ne (Ne.symm h)]
theorem getD_nn {l : List Int} (h : ∀ n ∈ l, 0 ≤ n) (j : Nat) : 0 ≤ l.getD j 0 := by
  rw [List.getD_eq_getElem?_getD]
  cases q : l[j]? with
  | none => exact Int.le_refl _
  | some v => exact h v (List.mem_of_getElem? q)
theorem moved1 {ns : List Int} {mo r : Int} {i : Nat} (hl : ns.length = 5) (hn : ∀ n ∈ ns, 0 ≤ n) (hi : i < 5) (h0 : 0 ≤ r) (h1 : r < ns.getD i 0) : Moved ns (ns.set i (ns.getD i 0 - (1 + r))) mo := by
  refine ⟨List.length_set, fun j => ?_, i, i, hi, hi, ?_, fun _ => rfl, fun j h _ => getD_set_ne h⟩
  · by_cases hj : j = i
    · subst hj; rw [getD_set_eq (by omega)]; omega
    · rw [getD_set_ne hj]; exact ⟨getD_nn hn j, Int.le_refl _⟩
  · rw [getD_set_eq (by omega)]; omega
theorem moved2 {ns : List Int} {mo r q : Int} {i k : Nat} (hl : ns.length = 5) (hn : ∀ n ∈ ns, 0 ≤ n) (hi : i < 5) (hk : k < 5) (hne : k ≠ i) (hm : mo ≠ 1) (h0 : 0 ≤ r) (h1 : r < ns.getD i 0) (q0 : 0 ≤ q) (q1 : q ≤ ns.getD k 0) :
    Moved ns ((ns.set i (ns.getD i 0 - (1 + r))).set k ((ns.set i (ns.getD i 0 - (1 + r))).getD k 0 - q)) mo := by
  refine ⟨by rw [List.length_set, List.length_set], fun j => ?_, i, k, hi, hk, ?_, fun h => absurd h hm, fun j h h' => by rw [getD_set_ne h', getD_set_ne h]⟩
  · by_cases hj : j = k
    · subst hj; rw [getD_set_eq (by rw [List.length_set]; omega), getD_set_ne hne]; omega
    · rw [getD_set_ne hj]
      by_cases hj' : j = i
      · subst hj'; rw [getD_set_eq (by omega)]; omega
      · rw [getD_set_ne hj']; exact ⟨getD_nn hn j, Int.le_refl _⟩
  · rw [getD_set_ne (Ne.symm hne), getD_set_eq (by omega)]; omega
theorem move_ok : (PySem.Challenge.rw_us0007_01.Holds → True) → ∀ {w : World} {s : Shared} {dp un : Nat} {fr : Option (List Env)} {gd : Option (List Code)} {mean : ExcName → Option Value} {mg mb : VMap} (_X : (hp w.params).In s.heap) (_T : Top vw lz mean mg mb s.heap)
   (_hdp : dp ≤ 919) {l : Addr} {vs : List Value} {ns : List Int} {nu mo : Int} {tn tm : Tok} (_hl : s.heap.IsList l vs.toArray) (_hi : IntsAre vs ns) (_hlen : ns.length = 5) (_hr : ∀ n ∈ ns, 0 ≤ n ∧ n ≤ 31) (_hs : ns.Pairwise (· ≤ ·)) (_hp : 0 < ns.getD 4 0) (_hn : 0 ≤ nu ∧ nu ≤ 2 ^ 40) (_hm : 1 ≤ mo ∧ mo ≤ 2)
   {Q E : Value → Shared → Prop} (_ret : ∀ a h' tk ws ys k, s.heap.StaysIn h' → s.heap.get? a = none → h'.get? a = some (listOf ws.toArray k) → IntsAre ws ys → Moved ns ys mo → Q (.ref a) { s with heap := h', toks := tk }),
   wpAny (model prg w) (Ar dp un fr gd) (call (.ref 136) [.ref l, .int nu tn, .int mo tm] []) Q E s := by
  k_fill
  intro _h w s dp un fr gd mean mg mb X T hdp l vs ns nu mo tn tm hl hi hlen hr hs hp hn hm Q E ret
  walk_at "m enter"
  intro L' h₁ F N
  (try dsimp only)
  k_fold
  k_steps
  refine bisect_ok (fun _ => trivial) (X.keeps F.keep) (T.keeps F.keep) (by show dp + 1 ≤ 920; omega) (Fr.lst F hl) hi (by omega) hs (.inl rfl) ?_
  intro first t0 h' tk' hk hf h1 h2
  have F2 := Fr_stays F hk
  have N2 := News_stays N hk
  have hf4 : first ≤ 4 := by
    rcases Nat.lt_or_ge 4 first with q | q
    · have := h1 4 q; omega
    · exact q
  have one0 : 0 ≤ nu.fmod (5 - (first : Int)) := Int.fmod_nonneg_of_pos _ (by omega)
  have one1 : nu.fmod (5 - (first : Int)) < 5 - (first : Int) := Int.fmod_lt_of_pos _ (by omega)
  have two0 : 0 ≤ (nu.fdiv 80).fmod (5 - (first : Int)) := Int.fmod_nonneg_of_pos _ (by omega)
  have two1 : (nu.fdiv 80).fmod (5 - (first : Int)) < 5 - (first : Int) := Int.fmod_lt_of_pos _ (by omega)
  have onep : 0 < ns.getD ((first : Int) + nu.fmod (5 - (first : Int))).toNat 0 := h2 _ (by omega) (by omega)
  have twop : 0 ≤ (ns.set ((first : Int) + nu.fmod (5 - (first : Int))).toNat (ns.getD ((first : Int) + nu.fmod (5 - (first : Int))).toNat 0 - (1 + (nu.fdiv 5).fmod (ns.getD ((first : Int) + nu.fmod (5 - (first : Int))).toNat 0)))).getD ((first : Int) + (nu.fdiv 80).fmod (5 - (first : Int))).toNat 0 := by
    have h3 := Int.fmod_lt_of_pos (nu.fdiv 5) onep
    rw [List.getD_eq_getElem?_getD, List.getElem?_set]
    split
    · split
      · simp only [Option.getD_some]; omega
      · exact Int.le_refl _
    · have := h2 ((first : Int) + (nu.fdiv 80).fmod (5 - (first : Int))).toNat (by omega) (by omega)
      rw [List.getD_eq_getElem?_getD] at this
      omega
  have hms : List.map (fun a : Int => a) (List.filter (fun _ => true) ns) = ns := by simp
  have onep' := onep
  have twop' := twop
  rw [← hms] at onep' twop'
  k_steps
  all_goals (
    rename (IntsAre (List.set _ _ _) _) => iY
    show Q (.ref _) _
    refine ret _ _ _ _ _ _ (Fr.keep (by assumption)) (News.fresh (by assumption) (.head _)) (News.get (by assumption) (.head _)) iY ?_
    simp only [hms])
  · refine moved2 hlen (fun n hn' => (hr n hn').1) (by omega) (by omega) (by omega) (by omega) (Int.fmod_nonneg_of_pos _ onep) (Int.fmod_lt_of_pos _ onep) (Int.fmod_nonneg_of_pos _ (by omega)) ?_
    have h3 := Int.fmod_lt_of_pos (nu.fdiv 400) (show 0 < (ns.set ((first : Int) + nu.fmod (5 - (first : Int))).toNat (ns.getD ((first : Int) + nu.fmod (5 - (first : Int))).toNat 0 - (1 + (nu.fdiv 5).fmod (ns.getD ((first : Int) + nu.fmod (5 - (first : Int))).toNat 0)))).getD ((first : Int) + (nu.fdiv 80).fmod (5 - (first : Int))).toNat 0 + 1 by omega)
    have h4 := getD_set_ne (l := ns) (i := ((first : Int) + nu.fmod (5 - (first : Int))).toNat) (j := ((first : Int) + (nu.fdiv 80).fmod (5 - (first : Int))).toNat) (x := ns.getD ((first : Int) + nu.fmod (5 - (first : Int))).toNat 0 - (1 + (nu.fdiv 5).fmod (ns.getD ((first : Int) + nu.fmod (5 - (first : Int))).toNat 0))) (by omega)
    omega
  · exact moved1 hlen (fun n hn' => (hr n hn').1) (by omega) (Int.fmod_nonneg_of_pos _ onep) (Int.fmod_lt_of_pos _ onep)
  · exact moved1 hlen (fun n hn' => (hr n hn').1) (by omega) (Int.fmod_nonneg_of_pos _ onep) (Int.fmod_lt_of_pos _ onep)
end

/-! Flag -/
section
section
variable {prog : Program} {w : World} {A : Around} {s : Shared} {env : Env} {h₀ : Heap} {x : Str} {body : List Stmt} {Q : Flow → Shared → Prop}
abbrev riObj (x left step : Int) : Obj := { cls := .type "range_iterator", data := .fields #[rawInt x, rawInt left, rawInt step] }
/-- a loop over a range that is always left by a break -/
theorem for_brk {L : Addr} {r : Addr} {a b : Int} {t u v : Tok} {n : Nat} {px : Pos} {orelse : List Stmt} {m₀ : VMap} {news₀ : Led} (J : Nat → VMap → Led → Prop)
    (hx : env.kindOf x = some .local) (hp : (env.scope.kind == .class || (env.scope.kind == .module && env.locals != env.globals)) = false) (hLe : env.locals = L)
    (hr : IsRange s.heap r a b 1 t u v) (hsm : Builtin.Range.small a b 1 = true) (hn : Builtin.Range.rangeSize a b 1 = (n : Int)) (F : Fr h₀ L s.heap m₀) (N : News h₀ L s.heap news₀) (hJ : J 0 m₀ news₀)
    (turn : ∀ (I : Addr) i tv m₁ news₁ h tk o, i < n → J i m₁ news₁ → (∀ p ∈ news₁, p.1 ≠ I) → s.heap.objs.size ≤ I →
      Fr h₀ L h (fun y => if y = x then some (.int (a + (i : Int)) tv) else m₁ y) → News h₀ L h (news₁ ++ [(I, o)]) →
      wpAny (model prog w) A (execs body env) (Turn h₀ L [I] [(I, o)] (J (i + 1)) { s with heap := h, toks := tk } Q) NoE { s with heap := h, toks := tk })
    (nodone : ∀ m₁ news₁, J n m₁ news₁ → False) :
    wpAny (model prog w) A (pyIter (.ref r)) (fun it s₂ => codeAny (model prog w) A (.forLoop (.Name x px) it body orelse env) (fun r s' => match r with | .ok f => Q f s' | .error e => cameBackBy (model prog w) A env NoE e s') s₂) NoE s := by
  subst hLe
  refine wpAny_pyIter_range hr hsm ?_
  have up : s.heap.StaysIn (s.heap.push (riObj a (Builtin.Range.rangeSize a b 1) 1)) := fun b o e => Heap.get?_push_of_some _ e
  have hIL : s.heap.objs.size ≠ env.locals := fun e => absurd F.ns.lt (by rw [e]; exact Nat.lt_irrefl _)
  refine codeAny_forLoop (fun k s' => ∃ i h tk m news, s' = { s with heap := h, toks := tk } ∧ i ≤ n ∧ k = n - i ∧ IsRangeIter h s.heap.objs.size (a + i) ((n : Int) - i) 1 ∧ Fr h₀ env.locals h m ∧ News h₀ env.locals h news ∧ (∀ p ∈ news, p.1 ≠ s.heap.objs.size) ∧ J i m news) ?_ n
    ⟨0, _, _, _, _, rfl, Nat.zero_le _, rfl, (by show IsRangeIter _ _ _ _ _; rw [hn]; simpa using Heap.get?_push_size _ rfl), Fr_stays F up, News_stays N up, fun p hp => Nat.ne_of_lt (Heap.lt_size (N p hp).1), hJ⟩
  rintro k _ ⟨i, h, tk, m, news, rfl, hi, rfl, hit, F₁, N₁, hw, hJ₁⟩
  have hlt : i < n := by
    rcases Nat.lt_or_eq_of_le hi with q | q
    · exact q
    · subst q; exact (nodone _ _ hJ₁).elim
  refine wpAny_pyNext_range_item hit (by omega) fun h' hit' hs' => ?_
  have hI0 : h₀.get? s.heap.objs.size = none := next_is_new F
  have F₂ : Fr h₀ env.locals h' m := ⟨F₁.ns.at' fun o e => (hs'.2 _ (Ne.symm hIL)).trans e, fun b o e => (hs'.2 b fun (q : b = _) => by subst q; rw [hI0] at e; cases e).trans (F₁.keep b o e), F₁.above⟩
  have N₂ : News h₀ env.locals h' news := fun p hp => ⟨(hs'.2 _ (hw p hp)).trans (N₁ p hp).1, (N₁ p hp).2⟩
  refine wpAny_assign_Name (wpAny_storeName_local hx F₂.ns (fun h₂ hn₂ hs₂ => ?_) hp)
  have hit₂ : IsRangeIter h₂ s.heap.objs.size (a + i + 1) ((n : Int) - i - 1) 1 := (hs₂.2 _ hIL).trans hit'
  have N₃ : News h₀ env.locals h₂ (news ++ [(s.heap.objs.size, riObj (a + i + 1) ((n : Int) - i - 1) 1)]) := by
    intro p hp
    rcases List.mem_append.mp hp with q | q
    · exact (N₂.set hs₂) p q
    · rw [List.mem_singleton.mp q]; exact ⟨hit₂, hIL, hI0⟩
  refine wpAny_mono (turn s.heap.objs.size i _ m news h₂ _ _ hlt hJ₁ hw (Nat.le_refl _) (F₂.set hn₂ hs₂) N₃) (fun f s₃ q => ?_) fun _ _ e => e.elim
  have fin : (∃ h' tk' m₂ news₂, s₃ = { { s with heap := h₂, toks := tk + 1 + 1 } with heap := h', toks := tk' } ∧ Fr h₀ env.locals h' m₂ ∧ News h₀ env.locals h' (news₂ ++ [(s.heap.objs.size, riObj (a + i + 1) ((n : Int) - i - 1) 1)]) ∧ (∀ p ∈ news₂, p.1 ∉ [s.heap.objs.size]) ∧ J (i + 1) m₂ news₂) →
      ∃ k', k' < n - i ∧ ∃ i' h tk m news, s₃ = { s with heap := h, toks := tk } ∧ i' ≤ n ∧ k' = n - i' ∧ IsRangeIter h s.heap.objs.size (a + (i' : Nat)) ((n : Int) - (i' : Nat)) 1 ∧ Fr h₀ env.locals h m ∧ News h₀ env.locals h news ∧ (∀ p ∈ news, p.1 ≠ s.heap.objs.size) ∧ J i' m news := by
    rintro ⟨h₅, tk₅, m₅, news₅, rfl, F₅, N₅, hw₅, hJ₅⟩
    refine ⟨n - (i + 1), by omega, i + 1, h₅, tk₅, m₅, news₅, rfl, hlt, rfl, ?_, F₅, fun p hp => N₅ p (List.mem_append.mpr (.inl hp)), fun p hp e => hw₅ p hp (by simp [e]), hJ₅⟩
    have z := (N₅ (s.heap.objs.size, riObj (a + i + 1) ((n : Int) - i - 1) 1) (List.mem_append.mpr (.inr (.head _)))).1
    show h₅.get? _ = some _
    rw [z, show a + ((i + 1 : Nat) : Int) = a + i + 1 by omega, show (n : Int) - ((i + 1 : Nat) : Int) = (n : Int) - i - 1 by omega]
  cases f with
  | ret v => exact q
  | brk => exact q
  | next => exact fin q
  | cont => exact fin q
end
end

/-! Pf -/
section
def flagNm : Nat → Str
  | 0 => Str.ofString "OPTIMIZED"
  | 1 => Str.ofString "NEWLOCALS"
  | 2 => Str.ofString "VARARGS"
  | _ => Str.ofString "VARKEYWORDS"
def fnames (f : Int) (i : Nat) : List Str := ((List.range i).filter fun p => decide (f / 2 ^ p % 2 = 1)).map flagNm
theorem strs_len {vs : List Value} {xs : List Str} (h : StrsAre vs xs) : vs.length = xs.length := by
  induction h with
  | nil => rfl
  | cons y t h ih => rw [List.length_cons, List.length_cons, ih]
theorem strs_snoc {vs : List Value} {xs : List Str} (h : StrsAre vs xs) (y : Str) (t : Tok) : StrsAre (vs ++ [.str y t]) (xs ++ [y]) := by
  induction h with
  | nil => exact .cons _ _ .nil
  | cons y' t' h ih => exact .cons _ _ ih
theorem strs_conc {vs : List Value} {xs : List Str} (h : StrsAre vs xs) {y y' : Str} (e : y = y') (t : Tok) : StrsAre (vs.toArray.toList.concat (.str y t)) (xs ++ [y']) := by
  subst e
  rw [List.concat_eq_append]
  exact strs_snoc h y t
theorem upto15 {P : Int → Prop} (h : ∀ n : Fin 15, P ((n : Nat) + 1)) : ∀ f, 0 < f → f ≤ 15 → P f := by
  intro f h0 h1
  have := h ⟨f.toNat - 1, by omega⟩
  simp only at this
  rwa [show (((f.toNat - 1 : Nat) : Int) + 1) = f by omega] at this
theorem flag_and : ∀ f : Int, 0 < f → f ≤ 15 → ∀ i : Fin 4, (Builtin.bitAnd (f / 2 ^ (i : Nat) * 2 ^ (i : Nat)) (1 * 2 ^ (i : Nat)) = 0 ↔ f / 2 ^ (i : Nat) % 2 ≠ 1) :=
  upto15 (by decide +kernel)
theorem flag_xor : ∀ f : Int, 0 < f → f ≤ 15 → ∀ i : Fin 4, f / 2 ^ (i : Nat) % 2 = 1 → Builtin.bitXor (f / 2 ^ (i : Nat) * 2 ^ (i : Nat)) (1 * 2 ^ (i : Nat)) = f / 2 ^ ((i : Nat) + 1) * 2 ^ ((i : Nat) + 1) :=
  upto15 (by decide +kernel)
theorem flag_none : ∀ f : Int, 0 < f → f ≤ 15 → ∀ i : Fin 4, f / 2 ^ (i : Nat) % 2 ≠ 1 → f / 2 ^ (i : Nat) * 2 ^ (i : Nat) = f / 2 ^ ((i : Nat) + 1) * 2 ^ ((i : Nat) + 1) :=
  upto15 (by decide +kernel)
theorem flag_pos : ∀ f : Int, 0 < f → f ≤ 15 → ∀ i : Fin 4, 0 < f / 2 ^ (i : Nat) → f / 2 ^ (i : Nat) % 2 ≠ 1 → 0 < f / 2 ^ ((i : Nat) + 1) :=
  upto15 (by decide +kernel)
theorem flag_end : ∀ f : Int, 0 < f → f ≤ 15 → ∀ i : Fin 4, f / 2 ^ ((i : Nat) + 1) * 2 ^ ((i : Nat) + 1) = 0 → fnames f ((i : Nat) + 1) = fnames f 4 :=
  upto15 (by decide +kernel)
theorem flag_more : ∀ f : Int, 0 < f → f ≤ 15 → ∀ i : Fin 4, f / 2 ^ ((i : Nat) + 1) * 2 ^ ((i : Nat) + 1) ≠ 0 → 0 < f / 2 ^ ((i : Nat) + 1) :=
  upto15 (by decide +kernel)
theorem fnames_yes {f : Int} {i : Nat} (h : f / 2 ^ i % 2 = 1) : fnames f (i + 1) = fnames f i ++ [flagNm i] := by
  unfold fnames
  rw [List.range_succ, List.filter_append, List.map_append, List.filter_cons_of_pos (p := fun p => decide (f / 2 ^ p % 2 = 1)) (decide_eq_true h), List.filter_nil, List.map_singleton]
theorem fnames_no {f : Int} {i : Nat} (h : f / 2 ^ i % 2 ≠ 1) : fnames f (i + 1) = fnames f i := by
  unfold fnames
  rw [List.range_succ, List.filter_append, List.filter_cons_of_neg (p := fun p => decide (f / 2 ^ p % 2 = 1)) (by rw [decide_eq_true_eq]; exact h), List.filter_nil, List.append_nil]
theorem names_short : ∀ f : Int, 0 < f → f ≤ 15 → ((fnames f 4).map (·.length)).sum + (fnames f 4).length * 64 ≤ 16777216 :=
  upto15 (by decide +kernel)
theorem flags_ok : (PySem.Challenge.rw_us0007_01.Holds → True) → ∀ {w : World} {s : Shared} {dp un : Nat} {fr : Option (List Env)} {gd : Option (List Code)} {mean : ExcName → Option Value} {mg mb : VMap} (_X : (hp w.params).In s.heap) (_T : Top vw lz mean mg mb s.heap)
   (_hdp : dp ≤ 920) {f : Int} {tf : Tok} (_h0 : 0 < f) (_h1 : f ≤ 15)
   {Q E : Value → Shared → Prop} (_ret : ∀ t h' tk, s.heap.StaysIn h' → Q (.str (Txt.join (Str.ofString ", ") (fnames f 4)) t) { s with heap := h', toks := tk }),
   wpAny (model prg w) (Ar dp un fr gd) (call (.ref 74) [.int f tf] []) Q E s := by
  k_fill
  intro _h w s dp un fr gd mean mg mb X T hdp f tf h0 h1 Q E ret
  walk_at "m enter"
  intro L' h₁ F N
  (try dsimp only)
  k_fold
  k_steps
  unfold Stop
  refine wpAny_For (hs := fun _ => rfl) ?_
  k_steps
  rename_i a _ _ h2 F2 N2 _ _ _ _ _ _ _ _ _ 
  refine for_brk (L := L') (n := 32) (fun i m nw => m (Str.ofString "names") = some (.ref a) ∧ (∃ vs k, nw = [(a, listOf vs.toArray k)] ∧ StrsAre vs (fnames f i)) ∧ (∃ t, m (Str.ofString "flags") = some (.int (f / 2 ^ i * 2 ^ i) t)) ∧ 0 < f / 2 ^ i) rfl rfl rfl (by assumption) (by decide) (by decide) (by assumption) (by assumption) ⟨by walk_at "m look", ⟨[], 0, rfl, .nil⟩, ⟨tf, ?_⟩, ?_⟩ ?_ ?_
  · rw [Int.pow_zero, Int.mul_one, Int.ediv_one]; walk_at "m look"
  · rw [Int.pow_zero, Int.ediv_one]; exact h0
  · rintro I i tv m₁ news₁ h tk own hi' ⟨m1, ⟨vs, k, rfl, hv⟩, ⟨t, m2⟩, hpos⟩ hwI hIs F3 N3
    have hi4 : i < 4 := by
      rcases Nat.lt_or_ge i 4 with q | q
      · exact q
      · exfalso
        obtain ⟨d, rfl⟩ := Nat.exists_eq_add_of_le q
        have : f / 2 ^ (4 + d) = 0 := by
          rw [Int.pow_add, ← Int.ediv_ediv_of_nonneg (by decide : (0 : Int) ≤ 2 ^ 4), show f / 2 ^ 4 = 0 by omega, Int.zero_ediv]
        omega
    simp only [List.cons_append, List.nil_append] at N3
    have hIa : @Ne Nat a I := hwI _ (.head _)
    have hvl : vs.length ≤ 4 := by
      rw [strs_len hv, fnames, List.length_map]
      exact Nat.le_trans (List.length_filter_le _ _) (by rw [List.length_range]; omega)
    obtain rfl | rfl | rfl | rfl : i = 0 ∨ i = 1 ∨ i = 2 ∨ i = 3 := by omega
    · change Fr s.heap L' h (fun y => if y = Str.ofString "i" then some (.int 0 tv) else m₁ y) at F3
      k_steps
      · rename (Builtin.bitAnd _ _ ≠ 0) => hand
        rename (Builtin.bitXor _ _ ≠ 0) => hxor
        have hb := Decidable.not_not.mp (fun q => hand ((flag_and f h0 h1 0).mpr q))
        rw [show Builtin.bitXor (f / 2 ^ 0 * 2 ^ 0) (1 * 2 ^ Int.toNat 0) = f / 2 ^ (0 + 1) * 2 ^ (0 + 1) from flag_xor f h0 h1 0 hb] at hxor
        refine Turn.nextI (news₂ := [(a, _)]) (by assumption) (by assumption) (fun p q => by rw [List.mem_singleton.mp q]; exact hIa) ⟨by walk_at "m look", ⟨_, _, rfl, ?_⟩, ?_, flag_more f h0 h1 0 hxor⟩
        · rw [show fnames f (0 + 1) = fnames f 0 ++ [flagNm 0] from fnames_yes hb]; exact strs_conc hv (by decide +kernel) _
        · rw [← show Builtin.bitXor (f / 2 ^ 0 * 2 ^ 0) (1 * 2 ^ Int.toNat 0) = f / 2 ^ (0 + 1) * 2 ^ (0 + 1) from flag_xor f h0 h1 0 hb]
          exact ⟨_, by walk_at "m look"⟩
      · rename (Builtin.bitAnd _ _ ≠ 0) => hand
        rename (Builtin.bitXor _ _ = 0) => hxor
        have hb := Decidable.not_not.mp (fun q => hand ((flag_and f h0 h1 0).mpr q))
        rw [show Builtin.bitXor (f / 2 ^ 0 * 2 ^ 0) (1 * 2 ^ Int.toNat 0) = f / 2 ^ (0 + 1) * 2 ^ (0 + 1) from flag_xor f h0 h1 0 hb] at hxor
        have he := flag_end f h0 h1 0 hxor
        have hv' : ∀ y t, y = flagNm 0 → StrsAre (vs.toArray.toList.concat (.str y t)) (fnames f 4) := by
          intro y t e
          rw [← he, show fnames f (((0 : Fin 4) : Nat) + 1) = fnames f 0 ++ [flagNm 0] from fnames_yes hb]; exact strs_conc hv e _
        rename (Fr s.heap L' _ _) => F5
        rename (News s.heap L' _ _) => N5
        show wpAny _ _ (execs _ _) _ _ _
        k_steps
        refine join_listC (News.isList N5 (.head _)) (hv' _ _ (by decide +kernel)) (by decide) (names_short f h0 h1) ?_
        intro t' k'
        exact ret t' _ k' F5.keep
      · rename (Builtin.bitAnd _ _ = 0) => hand
        have hb := (flag_and f h0 h1 0).mp hand
        refine Turn.nextI (news₂ := [(a, _)]) (by assumption) (by assumption) (fun p q => by rw [List.mem_singleton.mp q]; exact hIa) ⟨by walk_at "m look", ⟨_, _, rfl, ?_⟩, ?_, flag_pos f h0 h1 0 hpos hb⟩
        · rw [show fnames f (0 + 1) = fnames f 0 from fnames_no hb]; exact hv
        · rw [← show f / 2 ^ 0 * 2 ^ 0 = f / 2 ^ (0 + 1) * 2 ^ (0 + 1) from flag_none f h0 h1 0 hb]
          exact ⟨_, by walk_at "m look"⟩
    · change Fr s.heap L' h (fun y => if y = Str.ofString "i" then some (.int 1 tv) else m₁ y) at F3
      k_steps
      · rename (Builtin.bitAnd _ _ ≠ 0) => hand
        rename (Builtin.bitXor _ _ ≠ 0) => hxor
        have hb := Decidable.not_not.mp (fun q => hand ((flag_and f h0 h1 1).mpr q))
        rw [show Builtin.bitXor (f / 2 ^ 1 * 2 ^ 1) (1 * 2 ^ Int.toNat 1) = f / 2 ^ (1 + 1) * 2 ^ (1 + 1) from flag_xor f h0 h1 1 hb] at hxor
        refine Turn.nextI (news₂ := [(a, _)]) (by assumption) (by assumption) (fun p q => by rw [List.mem_singleton.mp q]; exact hIa) ⟨by walk_at "m look", ⟨_, _, rfl, ?_⟩, ?_, flag_more f h0 h1 1 hxor⟩
        · rw [show fnames f (1 + 1) = fnames f 1 ++ [flagNm 1] from fnames_yes hb]; exact strs_conc hv (by decide +kernel) _
        · rw [← show Builtin.bitXor (f / 2 ^ 1 * 2 ^ 1) (1 * 2 ^ Int.toNat 1) = f / 2 ^ (1 + 1) * 2 ^ (1 + 1) from flag_xor f h0 h1 1 hb]
          exact ⟨_, by walk_at "m look"⟩
      · rename (Builtin.bitAnd _ _ ≠ 0) => hand
        rename (Builtin.bitXor _ _ = 0) => hxor
        have hb := Decidable.not_not.mp (fun q => hand ((flag_and f h0 h1 1).mpr q))
        rw [show Builtin.bitXor (f / 2 ^ 1 * 2 ^ 1) (1 * 2 ^ Int.toNat 1) = f / 2 ^ (1 + 1) * 2 ^ (1 + 1) from flag_xor f h0 h1 1 hb] at hxor
        have he := flag_end f h0 h1 1 hxor
        have hv' : ∀ y t, y = flagNm 1 → StrsAre (vs.toArray.toList.concat (.str y t)) (fnames f 4) := by
          intro y t e
          rw [← he, show fnames f (((1 : Fin 4) : Nat) + 1) = fnames f 1 ++ [flagNm 1] from fnames_yes hb]; exact strs_conc hv e _
        rename (Fr s.heap L' _ _) => F5
        rename (News s.heap L' _ _) => N5
        show wpAny _ _ (execs _ _) _ _ _
        k_steps
        refine join_listC (News.isList N5 (.head _)) (hv' _ _ (by decide +kernel)) (by decide) (names_short f h0 h1) ?_
        intro t' k'
        exact ret t' _ k' F5.keep
      · rename (Builtin.bitAnd _ _ = 0) => hand
        have hb := (flag_and f h0 h1 1).mp hand
        refine Turn.nextI (news₂ := [(a, _)]) (by assumption) (by assumption) (fun p q => by rw [List.mem_singleton.mp q]; exact hIa) ⟨by walk_at "m look", ⟨_, _, rfl, ?_⟩, ?_, flag_pos f h0 h1 1 hpos hb⟩
        · rw [show fnames f (1 + 1) = fnames f 1 from fnames_no hb]; exact hv
        · rw [← show f / 2 ^ 1 * 2 ^ 1 = f / 2 ^ (1 + 1) * 2 ^ (1 + 1) from flag_none f h0 h1 1 hb]
          exact ⟨_, by walk_at "m look"⟩
    · change Fr s.heap L' h (fun y => if y = Str.ofString "i" then some (.int 2 tv) else m₁ y) at F3
      k_steps
      · rename (Builtin.bitAnd _ _ ≠ 0) => hand
        rename (Builtin.bitXor _ _ ≠ 0) => hxor
        have hb := Decidable.not_not.mp (fun q => hand ((flag_and f h0 h1 2).mpr q))
        rw [show Builtin.bitXor (f / 2 ^ 2 * 2 ^ 2) (1 * 2 ^ Int.toNat 2) = f / 2 ^ (2 + 1) * 2 ^ (2 + 1) from flag_xor f h0 h1 2 hb] at hxor
        refine Turn.nextI (news₂ := [(a, _)]) (by assumption) (by assumption) (fun p q => by rw [List.mem_singleton.mp q]; exact hIa) ⟨by walk_at "m look", ⟨_, _, rfl, ?_⟩, ?_, flag_more f h0 h1 2 hxor⟩
        · rw [show fnames f (2 + 1) = fnames f 2 ++ [flagNm 2] from fnames_yes hb]; exact strs_conc hv (by decide +kernel) _
        · rw [← show Builtin.bitXor (f / 2 ^ 2 * 2 ^ 2) (1 * 2 ^ Int.toNat 2) = f / 2 ^ (2 + 1) * 2 ^ (2 + 1) from flag_xor f h0 h1 2 hb]
          exact ⟨_, by walk_at "m look"⟩
      · rename (Builtin.bitAnd _ _ ≠ 0) => hand
        rename (Builtin.bitXor _ _ = 0) => hxor
        have hb := Decidable.not_not.mp (fun q => hand ((flag_and f h0 h1 2).mpr q))
        rw [show Builtin.bitXor (f / 2 ^ 2 * 2 ^ 2) (1 * 2 ^ Int.toNat 2) = f / 2 ^ (2 + 1) * 2 ^ (2 + 1) from flag_xor f h0 h1 2 hb] at hxor
        have he := flag_end f h0 h1 2 hxor
        have hv' : ∀ y t, y = flagNm 2 → StrsAre (vs.toArray.toList.concat (.str y t)) (fnames f 4) := by
          intro y t e
          rw [← he, show fnames f (((2 : Fin 4) : Nat) + 1) = fnames f 2 ++ [flagNm 2] from fnames_yes hb]; exact strs_conc hv e _
        rename (Fr s.heap L' _ _) => F5
        rename (News s.heap L' _ _) => N5
        show wpAny _ _ (execs _ _) _ _ _
        k_steps
        refine join_listC (News.isList N5 (.head _)) (hv' _ _ (by decide +kernel)) (by decide) (names_short f h0 h1) ?_
        intro t' k'
        exact ret t' _ k' F5.keep
      · rename (Builtin.bitAnd _ _ = 0) => hand
        have hb := (flag_and f h0 h1 2).mp hand
        refine Turn.nextI (news₂ := [(a, _)]) (by assumption) (by assumption) (fun p q => by rw [List.mem_singleton.mp q]; exact hIa) ⟨by walk_at "m look", ⟨_, _, rfl, ?_⟩, ?_, flag_pos f h0 h1 2 hpos hb⟩
        · rw [show fnames f (2 + 1) = fnames f 2 from fnames_no hb]; exact hv
        · rw [← show f / 2 ^ 2 * 2 ^ 2 = f / 2 ^ (2 + 1) * 2 ^ (2 + 1) from flag_none f h0 h1 2 hb]
          exact ⟨_, by walk_at "m look"⟩
    · change Fr s.heap L' h (fun y => if y = Str.ofString "i" then some (.int 3 tv) else m₁ y) at F3
      k_steps
      · rename (Builtin.bitAnd _ _ ≠ 0) => hand
        rename (Builtin.bitXor _ _ ≠ 0) => hxor
        have hb := Decidable.not_not.mp (fun q => hand ((flag_and f h0 h1 3).mpr q))
        rw [show Builtin.bitXor (f / 2 ^ 3 * 2 ^ 3) (1 * 2 ^ Int.toNat 3) = f / 2 ^ (3 + 1) * 2 ^ (3 + 1) from flag_xor f h0 h1 3 hb] at hxor
        refine Turn.nextI (news₂ := [(a, _)]) (by assumption) (by assumption) (fun p q => by rw [List.mem_singleton.mp q]; exact hIa) ⟨by walk_at "m look", ⟨_, _, rfl, ?_⟩, ?_, flag_more f h0 h1 3 hxor⟩
        · rw [show fnames f (3 + 1) = fnames f 3 ++ [flagNm 3] from fnames_yes hb]; exact strs_conc hv (by decide +kernel) _
        · rw [← show Builtin.bitXor (f / 2 ^ 3 * 2 ^ 3) (1 * 2 ^ Int.toNat 3) = f / 2 ^ (3 + 1) * 2 ^ (3 + 1) from flag_xor f h0 h1 3 hb]
          exact ⟨_, by walk_at "m look"⟩
      · rename (Builtin.bitAnd _ _ ≠ 0) => hand
        rename (Builtin.bitXor _ _ = 0) => hxor
        have hb := Decidable.not_not.mp (fun q => hand ((flag_and f h0 h1 3).mpr q))
        rw [show Builtin.bitXor (f / 2 ^ 3 * 2 ^ 3) (1 * 2 ^ Int.toNat 3) = f / 2 ^ (3 + 1) * 2 ^ (3 + 1) from flag_xor f h0 h1 3 hb] at hxor
        have he := flag_end f h0 h1 3 hxor
        have hv' : ∀ y t, y = flagNm 3 → StrsAre (vs.toArray.toList.concat (.str y t)) (fnames f 4) := by
          intro y t e
          rw [← he, show fnames f (((3 : Fin 4) : Nat) + 1) = fnames f 3 ++ [flagNm 3] from fnames_yes hb]; exact strs_conc hv e _
        rename (Fr s.heap L' _ _) => F5
        rename (News s.heap L' _ _) => N5
        show wpAny _ _ (execs _ _) _ _ _
        k_steps
        refine join_listC (News.isList N5 (.head _)) (hv' _ _ (by decide +kernel)) (by decide) (names_short f h0 h1) ?_
        intro t' k'
        exact ret t' _ k' F5.keep
      · rename (Builtin.bitAnd _ _ = 0) => hand
        have hb := (flag_and f h0 h1 3).mp hand
        refine Turn.nextI (news₂ := [(a, _)]) (by assumption) (by assumption) (fun p q => by rw [List.mem_singleton.mp q]; exact hIa) ⟨by walk_at "m look", ⟨_, _, rfl, ?_⟩, ?_, flag_pos f h0 h1 3 hpos hb⟩
        · rw [show fnames f (3 + 1) = fnames f 3 from fnames_no hb]; exact hv
        · rw [← show f / 2 ^ 3 * 2 ^ 3 = f / 2 ^ (3 + 1) * 2 ^ (3 + 1) from flag_none f h0 h1 3 hb]
          exact ⟨_, by walk_at "m look"⟩
  · rintro m₁ news₁ ⟨_, _, _, hpos⟩
    have : f / 2 ^ 32 = 0 := by omega
    omega
end

/-! Ans -/
section
section
variable {w : World} {A : Around} {s : Shared} {R : Result → Shared → Prop} {name qual : Str} {params : Arguments} {body : List Stmt} {scope : Scope} {dV kV doc pm cdv ct oc : Value} {an od : Option Addr} {osl : Array (Option Value)} {f : Addr} {args : Args} {binds : List (Str × Value)}
    {p : Program} {loose : List Str} {mean : ExcName → Option Value} {mg mb : Str → Option Value} {K : Frag}
/-- into a def some of whose locals are cells -/
theorem enter_defC
    (X : K.In s.heap) (T : Top p loose mean mg mb s.heap)
    (ho : K.lookup f = some ⟨oc, od, .func (fnOf name qual params body scope dV kV doc pm an cdv ct), osl⟩) (hcd : codeIn K cdv qual = true) (hroom : A.depth < recursionLimit)
    (hbind : BindsTo s (fnOf name qual params body scope dV kV doc pm an cdv ct) args binds)
    (hkind : (binds.all fun y => scope.names.lookup y.1 == some .local || scope.names.lookup y.1 == some .cell) = true) (hnd : ((cellsFrom 0 scope.names []).map (·.1)).Nodup)
    (h : ∀ L' h₁ tk cells, Fr s.heap L' h₁ (bindL (envOfC qual scope L' f cdv).kindOf binds fun _ => none) → News s.heap L' h₁ cells →
      CellsAre (bindC (envOfC qual scope L' f cdv).kindOf binds fun _ => none) (cellsFrom (L' + 1) scope.names []) cells →
      wpAny (model prg w) (A.deeper (envOfC qual scope L' f cdv)) (execs body (envOfC qual scope L' f cdv))
        (fun fl s' => R (.ok (.ret (match fl with | .ret v => v | _ => .none))) s') NoE
        { s with heap := h₁, toks := tk })
    (hco : scope.isCoroutine = false := by rfl) (hgen : scope.isGenerator = false := by rfl) (hk : scope.kind = .function := by rfl) :
    codeAny (model prg w) A (.call (.ref f) args) R s := by
  refine codeAny_call_function (fd := fnOf name qual params body scope dV kV doc pm an cdv ct) (body := body) hroom (X _ _ ho) rfl hco hgen rfl (codeRec_of X hcd) (hbind _ _ _ _ ?_)
  refine wpAny_newFunctionEnv_cells hk (kindsX hkind _) fun env' he s' x => ?_
  subst he
  refine ⟨T.nolimit.keeps x.toInCall.keep, codeAny_func ?_⟩
  obtain ⟨h₁, tk, rfl, _⟩ := x.done
  obtain ⟨cells, NC, Y⟩ := Cl.news (h₀ := s.heap) (Nat.le_refl _) fun n c hm => ⟨x.cell n c (lookup_of_mem_nodup (cellsFrom_names scope.names 0 (s.heap.objs.size + 1) [] [] rfl ▸ hnd) hm), x.above n c hm⟩
  exact wpAny_mono (h s.heap.objs.size h₁ tk cells ⟨x.toInCall.ns, x.toInCall.keep, Nat.le_refl _⟩ NC Y) (fun _ _ z => z) (fun _ _ z => z.elim)
end
section
open LCg LCt
variable {prog : Program} {w : World} {A : Around} {E : Value → Shared → Prop} {s : Shared} {h₀ : Heap} {L : Addr} {m : VMap} {env : Env} {elt ct : PySem.Expr} {x : Str} {scope : Scope} {cl : List (Str × Addr)} {S : Led → Prop} {P : Nat → Value → Prop} {Fin : List Value → Led → Prop}
theorem CompEnd_mono {s₁ : Shared} {I C D : Addr} {oI oC oD : Obj} {r r' : Value → Led → Prop} {y : Value} {s₂ : Shared} (h : CompEnd h₀ L m s₁ I oI C oC D oD S r y s₂) (k : ∀ y nw, r y nw → r' y nw) : CompEnd h₀ L m s₁ I oI C oC D oD S r' y s₂ := by
  obtain ⟨h', tk, nw, e, F, N, O, hS, hr⟩ := h
  exact ⟨h', tk, nw, e, F, N, O, hS, k _ _ hr⟩
theorem comp_inv {n : Nat} (J : Nat → List Value → Led → Prop)
    (turn : ∀ i v I oI C oC D m₂ h tk (E' : Value → Shared → Prop) ys news, i < n → J i ys news → P i v → NsObj oC m₂ → m₂ x = some v → Fr h₀ L h m → News h₀ L h ((I, oI) :: (C, oC) :: (D, lst ys) :: news) → Off3 I C D news → ((@Ne Nat I C) ∧ (@Ne Nat I D) ∧ (@Ne Nat C D)) →
      wpAny (model prog w) A (eval elt (compEnvC scope cl C env)) (CompEnd h₀ L m { s with heap := h, toks := tk } I oI C oC D (lst ys) S (fun y news' => J (i + 1) (ys ++ [y]) news')) E' { s with heap := h, toks := tk })
    (fin : ∀ ys news, J n ys news → Fin ys news) : ∀ k i ys news, i + k = n → J i ys news → CompRest prog w A h₀ L m env elt x scope cl s S P Fin k i ys news := by
  intro k
  induction k with
  | zero => intro i ys news e hJ; exact fin _ _ (by simpa using e ▸ hJ)
  | succ k ih =>
    intro i ys news e hJ
    refine CompRest.succ fun v I oI C oC D m₂ h tk E' hP hC hx F N O ne => ?_
    exact wpAny_mono (turn i v I oI C oC D m₂ h tk E' ys news (by omega) hJ hP hC hx F N O ne) (fun y s₂ q => CompEnd_mono q fun y nw q' => ih (i + 1) _ _ (by omega) q') fun _ _ z => z
theorem comp_invT {n : Nat} (J : Nat → List Value → Led → Prop)
    (turn : ∀ i v I oI C oC D m₂ h tk (E' : Value → Shared → Prop) ys news, i < n → J i ys news → P i v → NsObj oC m₂ → m₂ x = some v → Fr h₀ L h m → News h₀ L h ((I, oI) :: (C, oC) :: (D, lst ys) :: news) → Off3 I C D news → ((@Ne Nat I C) ∧ (@Ne Nat I D) ∧ (@Ne Nat C D)) →
      wpAny (model prog w) A (isTrue ct (compEnvC scope cl C env) (eval ct (compEnvC scope cl C env))) (fun ok s' => if ok = true then
        wpAny (model prog w) A (eval elt (compEnvC scope cl C env)) (CompEnd h₀ L m { s with heap := h, toks := tk } I oI C oC D (lst ys) S (fun y news' => J (i + 1) (ys ++ [y]) news')) E' s'
        else CompEnd h₀ L m { s with heap := h, toks := tk } I oI C oC D (lst ys) S (fun _ news' => J (i + 1) ys news') Value.none s') E' { s with heap := h, toks := tk })
    (fin : ∀ ys news, J n ys news → Fin ys news) : ∀ k i ys news, i + k = n → J i ys news → CompRestT prog w A h₀ L m env ct elt x scope cl s S P Fin k i ys news := by
  intro k
  induction k with
  | zero => intro i ys news e hJ; exact fin _ _ (by simpa using e ▸ hJ)
  | succ k ih =>
    intro i ys news e hJ
    refine CompRestT.succ fun v I oI C oC D m₂ h tk E' hP hC hx F N O ne => ?_
    refine wpAny_mono (turn i v I oI C oC D m₂ h tk E' ys news (by omega) hJ hP hC hx F N O ne) (fun ok s₂ q => ?_) fun _ _ z => z
    cases ok with
    | true => exact wpAny_mono (by simpa using q) (fun y s₃ q' => CompEnd_mono q' fun y nw z => ih (i + 1) _ _ (by omega) z) fun _ _ z => z
    | false => exact CompEnd_mono (by simpa using q) fun y nw z => ih (i + 1) _ _ (by omega) z
end
section
variable {prog : Program} {w : World} {A : Around} {s : Shared} {env : Env} {h₀ : Heap} {x : Str} {body : List Stmt} {Q : Flow → Shared → Prop}
/-- a loop over a tuple whose name is a cell -/
theorem for_cell {L T c : Addr} {oc₀ : Obj} {cv : Option Value} {its : Array Value} {px : Pos} {m₀ : VMap} {news₀ : Led} (J : Nat → VMap → Led → Prop)
    (hk : env.scope.kind = .function) (hx : env.kindOf x = some .cell) (hc : env.cells.lookup x = some c) (hLe : env.locals = L) (hh : A.handled = none)
    (hT : s.heap.IsTuple T its) (hTL : T ≠ L) (hTc : T ≠ c) (hT0 : ∀ p ∈ news₀, p.1 ≠ T) (F : Fr h₀ L s.heap m₀) (N : News h₀ L s.heap ((c, oc₀) :: news₀)) (hcd : oc₀.data = .cell cv) (hc0 : ∀ p ∈ news₀, p.1 ≠ c) (hJ : J 0 m₀ news₀)
    (turn : ∀ (I : Addr) i v m₁ news₁ h tk own o, i < its.size → its[i]? = some v → J i m₁ news₁ → (∀ p ∈ news₁, @Ne Nat p.1 I ∧ @Ne Nat p.1 T ∧ @Ne Nat p.1 c) → o.data = .cell (some v) → (∀ p ∈ own, @Ne Nat p.1 c) → (∀ p ∈ own, ∀ b, b < s.heap.objs.size → b ≠ T → @Ne Nat p.1 b) → (∃ oI, (I, oI) ∈ own) → (h₀.get? T = none → ∃ oT, (T, oT) ∈ own) →
      Fr h₀ L h m₁ → News h₀ L h (news₁ ++ (c, o) :: own) →
      wpAny (model prog w) A (execs body env) (Turn h₀ L [I, T, c] ((c, o) :: own) (J (i + 1)) { s with heap := h, toks := tk } Q) NoE { s with heap := h, toks := tk })
    (done : ∀ m₁ news₁ h tk, J its.size m₁ news₁ → Fr h₀ L h m₁ → News h₀ L h news₁ → Q .next { s with heap := h, toks := tk }) :
    wpAny (model prog w) A (pyIter (.ref T)) (fun it s₂ => codeAny (model prog w) A (.forLoop (.Name x px) it body [] env) (fun r s' => match r with | .ok f => Q f s' | .error e => cameBackBy (model prog w) A env NoE e s') s₂) NoE s := by
  subst hLe
  obtain ⟨oT, hoT, _⟩ := id hT
  have hlt : T < s.heap.objs.size := Heap.lt_size hoT
  refine wpAny_pyIter_tuple hT ?_
  have up : s.heap.StaysIn (s.heap.push { cls := .type "tuple_iterator", data := .fields #[.ref T, .int 0 0] }) := fun b o e => Heap.get?_push_of_some _ e
  generalize hI : s.heap.objs.size = I at *
  have hI0 : h₀.get? I = none := hI ▸ next_is_new F
  have hIL : I ≠ env.locals := fun e => absurd F.ns.lt (by rw [← e, ← hI]; exact Nat.lt_irrefl _)
  have hIT : T ≠ I := Nat.ne_of_lt hlt
  have hcI : c ≠ I := hI ▸ Nat.ne_of_lt (Heap.lt_size (N _ (.head _)).1)
  have W := Walks.tuple (prog := prog) (w := w) hh I T hIT its
  refine codeAny_forLoop (fun k s' => ∃ i h tk m news o cv, s' = { s with heap := h, toks := tk } ∧ i ≤ its.size ∧ k = its.size + 1 - i ∧ (h.IsTupleIter I T i ∧ h.IsTuple T its) ∧ Fr h₀ env.locals h m ∧ News h₀ env.locals h ((c, o) :: news) ∧ o.data = .cell cv ∧ (∀ p ∈ news, @Ne Nat p.1 I ∧ @Ne Nat p.1 T ∧ @Ne Nat p.1 c) ∧ J i m news) ?_ (its.size + 1)
    ⟨0, _, _, _, news₀, oc₀, cv, rfl, Nat.zero_le _, rfl, ⟨⟨_, by rw [← hI]; exact Heap.get?_push_size _ rfl, rfl, rfl⟩, ⟨_, up _ _ hoT, by obtain ⟨o, ho, r⟩ := hT; rw [hoT] at ho; cases ho; exact r⟩⟩, Fr_stays F up, News_stays N up, hcd, fun p hp => ⟨hI ▸ Nat.ne_of_lt (Heap.lt_size (N p (.tail _ hp)).1), hT0 p hp, hc0 p hp⟩, hJ⟩
  rintro k _ ⟨i, h, tk, m, news, o, cv', rfl, hi, rfl, hst, F₁, N₁, hod, hw, hJ₁⟩
  have keepF : ∀ {h' : Heap}, (∀ b x, b ∉ [I] → h.get? b = some x → h'.get? b = some x) → Fr h₀ env.locals h' m ∧ News h₀ env.locals h' ((c, o) :: news) := fun {h'} hk' =>
    ⟨⟨F₁.ns.at' fun o e => hk' _ o (by simpa using Ne.symm hIL) e, fun b x e => hk' b x (fun q => by rw [List.mem_singleton.mp q, hI0] at e; cases e) (F₁.keep b x e), F₁.above⟩,
      fun p hp => ⟨hk' _ _ (fun q => by
        rw [List.mem_singleton] at q
        rcases List.mem_cons.mp hp with rfl | hp
        · exact hcI q
        · exact (hw p hp).1 q) (N₁ p hp).1, (N₁ p hp).2⟩⟩
  by_cases hlt' : i < its.size
  · refine W.item i _ _ _ hlt' hst fun v h₁ tk₁ hP hst₁ hk₁ => ?_
    obtain ⟨F₂, N₂⟩ := keepF hk₁
    refine wpAny_assign_Name (wpAny_storeName_cell hk hx hc ⟨o, (N₂ _ (.head _)).1, hod⟩ fun h₂ hv hs => ?_)
    obtain ⟨o', ho', hd'⟩ := hv
    obtain ⟨F₃, N₃⟩ := led_but (pre := []) (o' := o') F₂ N₂ (fun _ q => nomatch q) (fun p q => (hw p q).2.2) (fun b x hb e => (hs.2 b hb).trans e) ho'
    have cfp : ∀ b ∈ [I, T], b ≠ c := fun b hb => by
      rcases List.mem_cons.mp hb with rfl | hb
      · exact Ne.symm hcI
      · rw [List.mem_singleton.mp hb]; exact hTc
    have hst₂ := W.frame _ _ h₂ hst₁ fun b hb x e => (hs.2 b (cfp b hb)).trans e
    obtain ⟨oI, hoI, hIr⟩ := hst₂.1
    have hT₂ := hst₂.2
    obtain ⟨oT', hoT', hTr⟩ := hst₂.2
    let own : Led := (I, oI) :: (if h₀.get? T = none then [(T, oT')] else [])
    have N₄ : News h₀ env.locals h₂ (news ++ (c, o') :: own) := by
      intro p hp
      rcases List.mem_append.mp hp with q | q
      · exact N₃ p (.tail _ q)
      · rcases List.mem_cons.mp q with rfl | q
        · exact N₃ _ (.head _)
        · rcases List.mem_cons.mp q with rfl | q
          · exact ⟨hoI, hIL, hI0⟩
          · split at q
            · rename_i hn
              rw [List.mem_singleton.mp q]; exact ⟨hoT', hTL, hn⟩
            · cases q
    refine wpAny_mono (turn I i v m news h₂ _ own o' hlt' hP hJ₁ hw hd' (fun p hp => ?_) (fun p hp b hb hbT => ?_) ⟨oI, .head _⟩ (fun hn => ⟨oT', .tail _ (by rw [if_pos hn]; exact .head _)⟩) F₃ N₄) (fun f s₃ q => ?_) fun _ _ e => e.elim
    · rcases List.mem_cons.mp hp with rfl | hp
      · exact Ne.symm hcI
      · split at hp
        · rw [List.mem_singleton.mp hp]; exact hTc
        · cases hp
    · rcases List.mem_cons.mp hp with rfl | hp
      · exact fun e => absurd hb (by rw [← e]; exact Nat.lt_irrefl _)
      · split at hp
        · rw [List.mem_singleton.mp hp]; exact fun e => hbT e.symm
        · cases hp
    · have fin : (∃ h' tk' m₂ news₂, s₃ = { { s with heap := h₂, toks := tk₁ } with heap := h', toks := tk' } ∧ Fr h₀ env.locals h' m₂ ∧ News h₀ env.locals h' (news₂ ++ (c, o') :: own) ∧ (∀ p ∈ news₂, p.1 ∉ [I, T, c]) ∧ J (i + 1) m₂ news₂) →
          ∃ k', k' < its.size + 1 - i ∧ ∃ i' h tk m news o cv, s₃ = { s with heap := h, toks := tk } ∧ i' ≤ its.size ∧ k' = its.size + 1 - i' ∧ (h.IsTupleIter I T i' ∧ h.IsTuple T its) ∧ Fr h₀ env.locals h m ∧ News h₀ env.locals h ((c, o) :: news) ∧ o.data = .cell cv ∧ (∀ p ∈ news, @Ne Nat p.1 I ∧ @Ne Nat p.1 T ∧ @Ne Nat p.1 c) ∧ J i' m news := by
        rintro ⟨h₅, tk₅, m₅, news₅, rfl, F₅, N₅, hw₅, hJ₅⟩
        refine ⟨its.size + 1 - (i + 1), by omega, i + 1, h₅, tk₅, m₅, news₅, o', _, rfl, hlt', rfl, ⟨⟨oI, (N₅ _ (List.mem_append.mpr (.inr (.tail _ (.head _))))).1, hIr⟩, ?_⟩, F₅, fun p hp => N₅ p (List.mem_append.mpr ?_), hd', fun p hp => ?_, hJ₅⟩
        · refine ⟨oT', ?_, hTr⟩
          cases hn : h₀.get? T with
          | none =>
            refine (N₅ (T, oT') (List.mem_append.mpr (.inr (.tail _ (.tail _ ?_))))).1
            show (T, oT') ∈ (if h₀.get? T = none then [(T, oT')] else [])
            rw [if_pos hn]; exact .head _
          | some x =>
            have e := F₃.keep T x hn
            rw [hoT'] at e
            cases e
            exact F₅.keep T _ hn
        · rcases List.mem_cons.mp hp with rfl | hp
          · exact .inr (.head _)
          · exact .inl hp
        · have := hw₅ p hp
          simp only [List.mem_cons, List.not_mem_nil, or_false, not_or] at this
          exact this
      cases f with
      | ret v => exact q
      | brk => exact q
      | next => exact fin q
      | cont => exact fin q
  · have hin : i = its.size := by omega
    subst hin
    refine W.done _ _ _ hst fun h₁ tk₁ hk₁ => wpAny_execs_nil ?_
    obtain ⟨F₂, N₂⟩ := keepF hk₁
    exact done m news h₁ tk₁ hJ₁ F₂ fun p hp => N₂ p (.tail _ hp)
end
section
variable {prog : Program} {w : World} {A : Around} {E : Value → Shared → Prop} {s : Shared} {h₀ : Heap} {L D : Addr} {m : VMap} {news : Led} {vs : List Value} {n : Nat} {k : Int} {u : Tok} {v : Value} {Q : Value → Shared → Prop} {value slice : PySem.Expr}
theorem sub_list {l : Addr} {its : Array Value} (hl : s.heap.IsList l its) (h0 : 0 ≤ k) (hf : k < 2 ^ 63) (hv : its[k.toNat]? = some v) (h : Q v s)
    (hs : subscripted slice false (.ref l) (.int k u) = operate [.ref l, .int k u] (getItem (.ref l) (.int k u)) := by with_unfolding_all rfl) :
    wpAny (model prog w) A (subscriptTail value slice (.ref l) (.int k u)) Q E s :=
  tail_any hl.typeIs slot_list_getitem.lookup (wpAny_getItem_list hl h0 hf hv h) hs
theorem sub_list_neg {l : Addr} {its : Array Value} (hl : s.heap.IsList l its) (h0 : k < 0) (h1 : -(its.size : Int) ≤ k) (hf : -(2 ^ 63) ≤ k) (hv : its[(k + its.size).toNat]? = some v) (h : Q v s)
    (hs : subscripted slice false (.ref l) (.int k u) = operate [.ref l, .int k u] (getItem (.ref l) (.int k u)) := by with_unfolding_all rfl) :
    wpAny (model prog w) A (subscriptTail value slice (.ref l) (.int k u)) Q E s :=
  tail_any hl.typeIs slot_list_getitem.lookup (wpAny_getItem_list_neg hl h0 h1 hf hv h) hs
end

/-- the plain text of an answer -/
def hasBit (f : Int) (p : Nat) : Bool := decide (f / 2 ^ p % 2 = 1)
def markedTo (ns cs : List Int) (p j : Nat) : List Int := ((List.range j).filter fun (j : Nat) => !cs.contains (j : Int) && hasBit (ns.getD j 0) p).map fun (j : Nat) => (j : Int)
def pyAt (lo : List Int) (k : Int) : Int := lo.getD (if k < 0 then k + lo.length else k).toNat 0
def putOn (p : Nat) (as : List Int) (js : List Int) : List Int := js.foldl (fun as j => as.set j.toNat (as.getD j.toNat 0 + 2 ^ p)) as
def takeOff (p : Nat) (as : List Int) (js : List Int) : List Int := js.foldl (fun as j => as.set j.toNat (as.getD j.toNat 0 - as.getD j.toNat 0 % 2 ^ (p + 1))) as
def placeAt (ns lo : List Int) (p : Nat) (st : List Int × List Int) : List Int × List Int :=
  let mk := markedTo ns st.2 p 5
  let wo := pyAt lo ((mk.length : Int) + st.2.length - 1)
  if wo < st.2.length then (putOn p st.1 (st.2.take ((st.2.length : Int) - wo).toNat), st.2)
  else (takeOff p st.1 (mk.take (wo - st.2.length).toNat), st.2 ++ mk.take (wo - st.2.length).toNat)
noncomputable def placesTo (ns lo : List Int) : Nat → List Int × List Int
  | 0 => (ns, [])
  | i + 1 => placeAt ns lo (3 - i) (placesTo ns lo i)
noncomputable def answerOf (ns lo : List Int) : List Int := (placesTo ns lo 4).1
theorem putOn_length {p : Nat} {js : List Int} : ∀ {as : List Int}, (putOn p as js).length = as.length := by
  unfold putOn
  induction js with
  | nil => intro as; rfl
  | cons j r ih => intro as; rw [List.foldl_cons, ih, List.length_set]
theorem takeOff_length {p : Nat} {js : List Int} : ∀ {as : List Int}, (takeOff p as js).length = as.length := by
  unfold takeOff
  induction js with
  | nil => intro as; rfl
  | cons j r ih => intro as; rw [List.foldl_cons, ih, List.length_set]
theorem markedTo_mem {ns cs : List Int} {p j : Nat} {x : Int} (h : x ∈ markedTo ns cs p j) : 0 ≤ x ∧ x < j ∧ x ∉ cs := by
  unfold markedTo at h
  obtain ⟨i, hi, rfl⟩ := List.mem_map.mp h
  obtain ⟨h1, h2⟩ := List.mem_filter.mp hi
  have := List.mem_range.mp h1
  simp only [Bool.and_eq_true, Bool.not_eq_true', List.contains_eq_mem, decide_eq_false_iff_not] at h2
  exact ⟨by omega, by omega, h2.1⟩
theorem markedTo_length {ns cs : List Int} {p j : Nat} : (markedTo ns cs p j).length ≤ j := by
  unfold markedTo
  rw [List.length_map]
  exact Nat.le_trans (List.length_filter_le _ _) (by rw [List.length_range]; exact Nat.le_refl _)
theorem pyAt_mem {lo : List Int} (h : ∀ v ∈ lo, 0 ≤ v ∧ v ≤ 2) (k : Int) : 0 ≤ pyAt lo k ∧ pyAt lo k ≤ 2 := by
  unfold pyAt
  rw [List.getD_eq_getElem?_getD]
  cases q : lo[(if k < 0 then k + (lo.length : Int) else k).toNat]? with
  | none => decide
  | some v => exact h v (List.mem_of_getElem? q)
structure StOk (st : List Int × List Int) : Prop where
  len : st.1.length = 5
  two : st.2.length ≤ 2
  inn : ∀ j ∈ st.2, 0 ≤ j ∧ j < 5
theorem places_ok {ns lo : List Int} (hl : ns.length = 5) (h : ∀ v ∈ lo, 0 ≤ v ∧ v ≤ 2) : ∀ i, StOk (placesTo ns lo i) := by
  intro i
  induction i with
  | zero => exact ⟨hl, Nat.zero_le _, fun _ q => nomatch q⟩
  | succ i ih =>
    unfold placesTo placeAt
    dsimp only
    split
    · exact ⟨by rw [putOn_length]; exact ih.len, ih.two, ih.inn⟩
    · refine ⟨by rw [takeOff_length]; exact ih.len, ?_, fun j hj => ?_⟩
      · rw [List.length_append, List.length_take]
        have := pyAt_mem h (((markedTo ns (placesTo ns lo i).2 (3 - i) 5).length : Int) + (placesTo ns lo i).2.length - 1)
        omega
      · rcases List.mem_append.mp hj with q | q
        · exact ih.inn j q
        · have := markedTo_mem (List.mem_of_mem_take q)
          exact ⟨this.1, this.2.1⟩
def rsOf (ns cs : List Int) : List (List Str) := (List.range 5).map fun (j : Nat) => if cs.contains (j : Int) then [] else fnames (ns.getD j 0) 4
theorem rs_length {ns cs : List Int} : (rsOf ns cs).length = 5 := by unfold rsOf; rw [List.length_map, List.length_range]
theorem rs_nil {ns : List Int} (h : ns.length = 5) : rsOf ns [] = ns.map fun f => fnames f 4 := by
  refine List.ext_getElem (by rw [rs_length, List.length_map, h]) fun i h1 h2 => ?_
  rw [rs_length] at h1
  simp only [rsOf, List.getElem_map, List.getElem_range, List.contains_nil, Bool.false_eq_true, if_false]
  rw [show ns.getD i 0 = ns[i] by simp [List.getD, show i < ns.length by omega]]
theorem rs_set {ns cs : List Int} {j : Nat} : (rsOf ns cs).set j [] = rsOf ns (cs ++ [(j : Int)]) := by
  refine List.ext_getElem (by rw [List.length_set, rs_length, rs_length]) fun i h1 h2 => ?_
  rw [List.getElem_set]
  simp only [rsOf, List.getElem_map, List.getElem_range]
  by_cases e : j = i
  · subst e
    rw [if_pos rfl, if_pos (by simp)]
  · rw [if_neg e]
    have : (cs ++ [(j : Int)]).contains (i : Int) = cs.contains (i : Int) := by
      rw [Bool.eq_iff_iff]
      simp only [List.contains_eq_mem, List.mem_append, List.mem_singleton, decide_eq_true_eq]
      exact ⟨fun q => q.elim id fun q => absurd (Int.ofNat.inj q).symm e, .inl⟩
    rw [this]
theorem flag_in : ∀ f : Fin 16, ∀ p : Fin 4, (fnames ((f : Nat) : Int) 4).any (· == flagNm p) = hasBit ((f : Nat) : Int) p := by decide +kernel
theorem rs_any {ns cs : List Int} (h : ∀ n ∈ ns, 0 ≤ n ∧ n ≤ 15) (hl : ns.length = 5) {j p : Nat} (hj : j < 5) (hp : p < 4) :
    ((rsOf ns cs)[j]'(by rw [rs_length]; exact hj)).any (· == flagNm p) = (!cs.contains (j : Int) && hasBit (ns.getD j 0) p) := by
  simp only [rsOf, List.getElem_map, List.getElem_range]
  by_cases q : cs.contains (j : Int)
  · rw [if_pos q, q]; rfl
  · rw [if_neg q, Bool.not_eq_true _ |>.mp q]
    have e : ns.getD j 0 = ns[j] := by simp [List.getD, show j < ns.length by omega]
    have hb := h _ (List.getElem_mem (show j < ns.length by omega))
    have := flag_in ⟨(ns.getD j 0).toNat, by rw [e]; omega⟩ ⟨p, hp⟩
    simp only at this
    rw [show (((ns.getD j 0).toNat : Nat) : Int) = ns.getD j 0 by rw [e]; omega] at this
    rw [this]; rfl
theorem markedTo_step {ns cs : List Int} {p j : Nat} : markedTo ns cs p (j + 1) = if (!cs.contains (j : Int) && hasBit (ns.getD j 0) p) = true then markedTo ns cs p j ++ [(j : Int)] else markedTo ns cs p j := by
  unfold markedTo
  rw [List.range_succ, List.filter_append, List.map_append]
  split
  · rename_i h
    rw [List.filter_cons_of_pos (p := fun (j : Nat) => !cs.contains (j : Int) && hasBit (ns.getD j 0) p) h]; rfl
  · rename_i h
    rw [List.filter_cons_of_neg (p := fun (j : Nat) => !cs.contains (j : Int) && hasBit (ns.getD j 0) p) h, List.filter_nil, List.map_nil, List.append_nil]
theorem name_cc {M : Model} {A : Around} {E : Value → Shared → Prop} {s : Shared} {h₀ : Heap} {L : Addr} {news : Led} {env : Env} {x : Str} {pos : Pos} {c : Addr} {o : Obj} {v : Value} {Q : Value → Shared → Prop} (N : News h₀ L s.heap news) (hc : env.cells.lookup x = some c) (hm : (c, o) ∈ news) (hd : o.data = .cell (some v)) (h : Q v s)
    (hk : env.scope.kind = .function) (hx : env.kindOf x = some .cell) (hb : (x == ("__debug__" : Str)) = false := by decide) :
    wpAny M A (eval (.Name x pos) env) Q E s := wpAny_Name (wpAny_loadName_cell hk hx hc ⟨o, N.get hm, hd⟩ h) hb
theorem ints_snoc {vs : List Value} {ns : List Int} (h : IntsAre vs ns) (x : Int) (t : Tok) : IntsAre (vs ++ [.int x t]) (ns ++ [x]) := by
  induction h with
  | nil => exact .cons _ _ .nil
  | cons n t' h ih => exact .cons _ _ ih
theorem ints_getD {vs : List Value} {ns : List Int} (hi : IntsAre vs ns) {j : Nat} (hj : j < ns.length) : ∃ t, vs[j]? = some (.int (ns.getD j 0) t) := by
  obtain ⟨t, ht⟩ := hi.get j ns[j] (by simp [hj])
  exact ⟨t, by rw [ht, show ns.getD j 0 = ns[j] by simp [List.getD, hj]]⟩
theorem ints_take {vs : List Value} {ns : List Int} (h : IntsAre vs ns) (k : Nat) : IntsAre (vs.take k) (ns.take k) := by
  induction h generalizing k with
  | nil => simp; exact .nil
  | cons n t' h ih =>
    cases k with
    | zero => exact .nil
    | succ k => exact .cons _ _ (ih k)
theorem sub_py {prog : Program} {w : World} {A : Around} {E : Value → Shared → Prop} {s : Shared} {l : Addr} {us : List Value} {lo : List Int} {k : Int} {u : Tok} {Q : Value → Shared → Prop} {value slice : PySem.Expr}
    (hl : s.heap.IsList l us.toArray) (hi : IntsAre us lo) (h0 : -(lo.length : Int) ≤ k) (h1 : k < lo.length) (hlen : lo.length ≤ 100) (h : ∀ t, Q (.int (pyAt lo k) t) s)
    (hs : subscripted slice false (.ref l) (.int k u) = operate [.ref l, .int k u] (getItem (.ref l) (.int k u)) := by with_unfolding_all rfl) :
    wpAny (model prog w) A (subscriptTail value slice (.ref l) (.int k u)) Q E s := by
  by_cases hk : k < 0
  · obtain ⟨t, ht⟩ := ints_getD hi (j := (k + lo.length).toNat) (by omega)
    refine sub_list_neg hl hk (by rw [List.size_toArray, hi.length]; exact h0) (by omega) (v := .int (pyAt lo k) t) ?_ (h t) hs
    rw [List.size_toArray, hi.length, pyAt, if_pos hk]
    simpa using ht
  · obtain ⟨t, ht⟩ := ints_getD hi (j := k.toNat) (by omega)
    refine sub_list hl (by omega) (by omega) (v := .int (pyAt lo k) t) ?_ (h t) hs
    rw [pyAt, if_neg hk]
    simpa using ht
theorem markedTo_short {ns cs : List Int} {p : Nat} (h : ∀ j ∈ cs, 0 ≤ j ∧ j < 5) (hc : 0 < cs.length) : (markedTo ns cs p 5).length ≤ 4 := by
  obtain ⟨x, hx⟩ := List.exists_mem_of_length_pos hc
  have hb := h x hx
  unfold markedTo
  rw [List.length_map]
  have : ((List.range 5).filter fun (j : Nat) => !cs.contains (j : Int) && hasBit (ns.getD j 0) p).length < (List.range 5).length := by
    rw [List.length_filter_lt_length_iff_exists]
    refine ⟨x.toNat, List.mem_range.mpr (by omega), ?_⟩
    have e : ((x.toNat : Nat) : Int) = x := by omega
    rw [e]
    simp [List.contains_eq_mem, hx]
  rw [List.length_range] at this
  omega
theorem putOn_step {p : Nat} {as js : List Int} {i : Nat} (h : i < js.length) : putOn p as (js.take (i + 1)) = (putOn p as (js.take i)).set js[i].toNat ((putOn p as (js.take i)).getD js[i].toNat 0 + 2 ^ p) := by
  unfold putOn
  rw [List.take_add_one, List.getElem?_eq_getElem h, Option.toList_some, List.foldl_append]; rfl
theorem takeOff_step {p : Nat} {as js : List Int} {i : Nat} (h : i < js.length) : takeOff p as (js.take (i + 1)) = (takeOff p as (js.take i)).set js[i].toNat ((takeOff p as (js.take i)).getD js[i].toNat 0 - (takeOff p as (js.take i)).getD js[i].toNat 0 % 2 ^ (p + 1)) := by
  unfold takeOff
  rw [List.take_add_one, List.getElem?_eq_getElem h, Option.toList_some, List.foldl_append]; rfl
theorem ne_map {l l' : Led} {I : Addr} (h : ∀ p ∈ l, p.1 ≠ I) (e : l'.map (·.1) = l.map (·.1)) : ∀ p ∈ l', p.1 ≠ I := by
  intro p hp
  have := List.mem_map_of_mem (f := (·.1)) hp
  rw [e] at this
  obtain ⟨q, hq, e'⟩ := List.mem_map.mp this
  rw [← e']; exact h q hq
theorem set_any {prog : Program} {w : World} {A : Around} {E : Value → Shared → Prop} {s : Shared} {h₀ : Heap} {L D : Addr} {m : VMap} {news news' : Led} {vs : List Value} {n : Nat} {k : Int} {t : Tok} {v : Value} {Q : Unit → Shared → Prop}
    (F : Fr h₀ L s.heap m) (N : News h₀ L s.heap news) (U : Upd D (listOf vs.toArray n) (listOf (vs.set k.toNat v).toArray n) news news') (h0 : 0 ≤ k) (h1 : k < vs.length) (hfit : k < 2 ^ 63)
    (h : ∀ h', Fr h₀ L h' m → News h₀ L h' news' → Q () { s with heap := h' }) :
    wpAny (model prog w) A (setItem (.ref D) (.int k t) v) Q E s := by
  obtain ⟨pre, post, rfl, rfl, a, b⟩ := U.split
  have z := N (D, listOf vs.toArray n) (List.mem_append.mpr (.inr (.head _)))
  refine ki_setAt z.1 h0 hfit (by simpa using h1) (h _ (F.change (Heap.SameBut.update ..) z.2.1 z.2.2) (ki_turn _ N a b ?_ ?_))
  · apply Array.toList_inj.mp
    simp
  · simp
end

local macro_rules | `(tactic| walk_at "m enterC") => `(tactic| (refine wpAny_call ?_; refine' enter_defC ?kX ?kT ?k6 ?k7 ?k8 ?k9 ?kB ?kD ?_ ?c2 ?c3 ?c4; (case kX => assumption); (case kT => assumption); (case k6 => k_is); (case k7 => k_is); (case k8 => k_room); (case k9 => first | exact BindsTo.of_eq rfl | exact binds_K (by k_in) rfl (by k_is) rfl rfl rfl | (refine' kp_binds ?kx ?ke; (case kx => k_in); (case ke => exact fun _ => rfl))); (case kB => exact rfl); (case kD => decide +kernel); (case c2 => exact rfl); (case c3 => exact rfl); (case c4 => exact rfl)))

/-! Ans2 -/
section
local macro_rules | `(tactic| walk_at "setItem ref int ref") => `(tactic| refine Stop.mk' ?_)
local macro_rules | `(tactic| walk_at "subscriptTail Name Name ref int") => `(tactic| refine Stop.mk' ?_)
local macro_rules | `(tactic| walk_at "subscriptTail Name BinOp ref int") => `(tactic| refine Stop.mk' ?_)
local macro_rules | `(tactic| walk_at "compareOp In str ref") => `(tactic| refine Stop.mk' ?_)
local macro_rules | `(tactic| walk_at "eval Name") => `(tactic| (k_here; (with_reducible show wpAny _ _ (eval (Expr.Name _ _) (compEnvC _ _ _ _)) _ _ _); k_dflt (refine' name_cc ?N ?c ?m ?d ?_ ?k ?x; (case N => k_asm); (case k => exact rfl); (case x => exact rfl); (case c => exact rfl); (case m => k_mem); (case d => k_asm); k_whole)))
local macro_rules | `(tactic| walk_at "call builtin:str.split") => `(tactic| refine Stop.mk' ?_)
local macro_rules | `(tactic| walk_at "CompSrc") => `(tactic| refine Stop.mk' ?_)
local macro_rules | `(tactic| walk_at "CompSrcT") => `(tactic| refine Stop.mk' ?_)
local macro_rules | `(tactic| walk_at "eval ListComp") => `(tactic| refine Stop.mk' ?_)
local macro_rules | `(tactic| walk_at "exec Assign cons ListComp") => `(tactic| refine Stop.mk' ?_)
inductive WordsIn (led : Led) : List Value → List (List Str) → Prop
  | nil : WordsIn led [] []
  | cons {a : Addr} {vs : List Value} {k : Nat} {xs : List Str} {r : List Value} {rs : List (List Str)} : (a, listOf vs.toArray k) ∈ led → StrsAre vs xs → WordsIn led r rs → WordsIn led (.ref a :: r) (xs :: rs)
theorem WordsIn.mono {led led' : Led} (h : ∀ p ∈ led, p ∈ led') {r : List Value} {rs : List (List Str)} (w : WordsIn led r rs) : WordsIn led' r rs := by
  induction w with
  | nil => exact .nil
  | cons hm hs _ ih => exact .cons (h _ hm) hs ih
theorem WordsIn.snoc {led : Led} {r : List Value} {rs : List (List Str)} (w : WordsIn led r rs) {a : Addr} {vs : List Value} {k : Nat} {xs : List Str} (hm : (a, listOf vs.toArray k) ∈ led) (hs : StrsAre vs xs) : WordsIn led (r ++ [.ref a]) (rs ++ [xs]) := by
  induction w with
  | nil => exact .cons hm hs .nil
  | cons hm' hs' _ ih => exact .cons hm' hs' ih
theorem WordsIn.length {led : Led} {r : List Value} {rs : List (List Str)} (w : WordsIn led r rs) : r.length = rs.length := by
  induction w with
  | nil => rfl
  | cons _ _ _ ih => rw [List.length_cons, List.length_cons, ih]
theorem WordsIn.get {led : Led} {r : List Value} {rs : List (List Str)} (w : WordsIn led r rs) : ∀ j, (h : j < rs.length) → ∃ a vs k, r[j]? = some (.ref a) ∧ (a, listOf vs.toArray k) ∈ led ∧ StrsAre vs rs[j] := by
  induction w with
  | nil => intro j h; exact absurd h (Nat.not_lt_zero _)
  | cons hm hs _ ih =>
    intro j h
    cases j with
    | zero => exact ⟨_, _, _, rfl, hm, hs⟩
    | succ j => simpa using ih j (by simpa using h)
theorem WordsIn.set {led : Led} {r : List Value} {rs : List (List Str)} (w : WordsIn led r rs) {a : Addr} {k : Nat} (hm : (a, listOf [].toArray k) ∈ led) : ∀ j, WordsIn led (r.set j (.ref a)) (rs.set j []) := by
  induction w with
  | nil => intro j; exact .nil
  | cons hm' hs _ ih =>
    intro j
    cases j with
    | zero => exact .cons hm .nil (by assumption)
    | succ j => exact .cons hm' hs (ih j)
def wname (f : Int) : List Str := fnames f 4
theorem wname_zero : wname 0 = [] := by decide +kernel
theorem split_join : ∀ f : Int, 0 < f → f ≤ 15 → Txt.split (Txt.join (Str.ofString ", ") (fnames f 4)) (Str.ofString ", ") = wname f :=
  upto15 (by decide +kernel)
theorem join_short : ∀ f : Int, 0 < f → f ≤ 15 → (Txt.join (Str.ofString ", ") (fnames f 4)).length + 2 ≤ sizeLine :=
  upto15 (by decide +kernel)
theorem allLt_mem {d : Addr} : ∀ {l : Led}, AllLt d l → ∀ p ∈ l, @LT.lt Nat _ p.1 d
  | [], _, _, h => nomatch h
  | _ :: _, x, p, h => by
    rcases List.mem_cons.mp h with rfl | h
    · exact x.1
    · exact allLt_mem x.2 p h
theorem led_rot {a : Addr × Obj} {base fr : Led} : ∀ p ∈ a :: (base ++ fr), p ∈ a :: (fr ++ base) := by
  intro p hp
  rcases List.mem_cons.mp hp with rfl | hp
  · exact .head _
  · exact .tail _ (List.mem_append.mpr ((List.mem_append.mp hp).symm))
theorem off1_mem {D : Addr} : ∀ {l : Led}, LCg.Off1 D l → ∀ p ∈ l, @Ne Nat p.1 D
  | [], _, _, h => nomatch h
  | _ :: _, x, p, h => by
    rcases List.mem_cons.mp h with rfl | h
    · exact x.1
    · exact off1_mem x.2 p h
theorem strs_get {vs : List Value} (h : StrsAre vs (fnames 15 4)) : ∀ p, p < 4 → ∃ t, vs[p]? = some (.str (flagNm p) t) := by
  rw [show fnames 15 4 = [flagNm 0, flagNm 1, flagNm 2, flagNm 3] from by decide +kernel] at h
  cases h with | cons _ t0 h => cases h with | cons _ t1 h => cases h with | cons _ t2 h => cases h with | cons _ t3 h =>
  intro p hp
  match p, hp with
  | 0, _ => exact ⟨_, rfl⟩
  | 1, _ => exact ⟨_, rfl⟩
  | 2, _ => exact ⟨_, rfl⟩
  | 3, _ => exact ⟨_, rfl⟩
theorem mem10 {α : Type} {p a b c d e f g h i j : α} {l : List α} (q : p ∈ l) : p ∈ a :: b :: c :: d :: e :: f :: g :: h :: i :: j :: l :=
  .tail _ (.tail _ (.tail _ (.tail _ (.tail _ (.tail _ (.tail _ (.tail _ (.tail _ (.tail _ q)))))))))
theorem off3_app {I C D : Addr} {l : Led} (O : LCg.Off3 I C D l) {p : Addr × Obj} (h : @Ne Nat p.1 I ∧ @Ne Nat p.1 C ∧ @Ne Nat p.1 D) : LCg.Off3 I C D (p :: l) := ⟨h, O⟩
theorem answer_ok : (PySem.Challenge.rw_us0007_01.Holds → True) → ∀ {w : World} {s : Shared} {dp un : Nat} {fr : Option (List Env)} {gd : Option (List Code)} {mean : ExcName → Option Value} {mg mb : VMap} (_X : (hp w.params).In s.heap) (_T : Top vw lz mean mg mb s.heap)
   (_hdp : dp ≤ 919) {l b : Addr} {vs us : List Value} {ns lo : List Int} (_hl : s.heap.IsList l vs.toArray) (_hi : IntsAre vs ns) (_hlen : ns.length = 5) (_hb : s.heap.IsList b us.toArray) (_hj : IntsAre us lo) (_hlen2 : lo.length = 6) (_hr : ∀ n ∈ ns, 0 ≤ n ∧ n ≤ 15) (_hlr : ∀ v ∈ lo, 0 ≤ v ∧ v ≤ 2)
   {Q E : Value → Shared → Prop} (_ret : ∀ a h' tk ws k, s.heap.StaysIn h' → s.heap.get? a = none → h'.get? a = some (listOf ws.toArray k) → IntsAre ws (answerOf ns lo) → Q (.ref a) { s with heap := h', toks := tk }),
   wpAny (model prg w) (Ar dp un fr gd) (call (.ref 117) [.ref l, .ref b] []) Q E s := by
  k_fill
  intro _h w s dp un fr gd mean mg mb X T hdp l b vs us ns lo hl hi hlen hb hj hlen2 hr hlr Q E ret
  walk_at "m enterC"
  intro L' h₁ tk₁ cells F N Y
  (try dsimp only)
  k_fold
  obtain ⟨op, ow, on0, hE, dP, dW, dN0⟩ := CellsAre.three Y
  subst hE
  clear Y
  k_steps
  refine flags_ok (fun _ => trivial) (X.keeps F.keep) (T.keeps F.keep) (by show dp + 1 ≤ 920; omega) (by decide) (by decide) ?_
  intro tj hj1 tk2 hk
  have F2 := Fr_stays F hk
  have N2 := News_stays N hk
  clear F N
  k_steps
  unfold Stop
  refine KSpl.split1 F2 N2 (by decide) ?_ (join_short 15 (by decide) (by decide))
  intro dn ln hn1 kn1 eN aN F2' N2' l1
  rw [split_join 15 (by decide) (by decide)] at eN
  rw [eN] at aN
  have l1a : @LT.lt Nat _ (L' + 1 + 1 + 1) dn := l1 _ (.head _)
  clear l1
  k_steps
  unfold Stop
  rename (Fr s.heap L' _ _) => F3
  rename (News s.heap L' _ _) => N3
  rename_i _ on dN
  refine wpAny_Assign_Name (hs := rfl) ?_
  refine LCg.ListComp_U F3 rfl (by decide) rfl (by decide) rfl ?_
  k_steps
  unfold Stop
  refine LCg.CompSrc.base rfl F3 N3 hl (by rw [List.size_toArray, hi.length, sizeLine_eq]; omega) fun g => ?_
  rw [List.size_toArray, hi.length, hlen]
  refine comp_inv (n := 5) (fun i ys nw => ∃ fr, nw = fr ++ [(dn, listOf (strValues ln).toArray 0), (L' + 1 + 1 + 1, op), (L' + 1 + 1, ow), (L' + 1, on)] ∧ (∀ p ∈ fr, @LT.lt Nat _ dn p.1) ∧ WordsIn fr ys ((ns.take i).map wname)) ?_ ?_ _ 0 [] _ rfl ⟨[], rfl, fun _ q => (nomatch q), .nil⟩
  · rintro i v I oI C oC D m₂ h tk E' ys news hi' ⟨fr, rfl, hfr, hW⟩ hP hC hx F4 N4 O ne
    obtain ⟨hin, t, rfl⟩ := ints_at hi (by simpa using hP) (by rw [hi.length]; omega)
    have hb := hr _ (List.getElem_mem hin)
    have htk : (ns.take (i + 1)).map wname = (ns.take i).map wname ++ [wname ns[i]] := by
      rw [List.take_add_one, List.getElem?_eq_getElem hin, Option.toList_some, List.map_append, List.map_singleton]
    k_steps
    · refine flags_ok (fun _ => trivial) (X.keeps F4.keep) (T.keeps F4.keep) (by show dp + 1 ≤ 920; omega) (by omega) (by omega) ?_
      intro t' h' tk' hk
      have F5 := Fr_stays F4 hk
      have N5 := News_stays N4 hk
      k_steps
      refine KSpl.split1 F5 N5 (by decide) ?_ (join_short _ (by omega) (by omega))
      intro D' l' h'' k' e a' F6 N6 l1
      rw [split_join _ (by omega) (by omega)] at e
      rw [e] at a'
      refine LCg.CompEnd.intro F6 N6 ((D', listOf (strValues l').toArray 0) :: (fr ++ _)) ?_ ⟨⟨?_, ?_, ?_⟩, O⟩ (.inl hl) ⟨(D', listOf (strValues l').toArray 0) :: fr, rfl, ?_, ?_⟩
      · intro p hp
        simp only [List.mem_cons] at hp ⊢
        rcases hp with q | q | q | q | q
        · exact .inr (.inl q)
        · exact .inr (.inr (.inl q))
        · exact .inr (.inr (.inr (.inl q)))
        · exact .inl q
        · exact .inr (.inr (.inr (.inr q)))
      · exact Nat.ne_of_gt (l1 (I, oI) (.head _))
      · exact Nat.ne_of_gt (l1 (C, oC) (.tail _ (.head _)))
      · exact Nat.ne_of_gt (l1 (D, _) (.tail _ (.tail _ (.head _))))
      · intro p hp
        rcases List.mem_cons.mp hp with rfl | hp
        · exact l1 (dn, _) (.tail _ (.tail _ (.tail _ (List.mem_append.mpr (.inr (.head _))))))
        · exact hfr p hp
      · rw [htk]
        exact (hW.mono fun p q => .tail _ q).snoc (.head _) a'
    · rename (News s.heap L' _ _) => N6
      rename (Fr s.heap L' _ _) => F6
      rename_i a9 h9 l1
      rename (ns[i] = 0) => hz
      refine LCg.CompEnd.intro F6 N6 ((a9, listOf [].toArray 0) :: (fr ++ _)) ?_ ⟨⟨?_, ?_, ?_⟩, O⟩ (.inl hl) ⟨(a9, listOf [].toArray 0) :: fr, rfl, ?_, ?_⟩
      · intro p hp
        simp only [List.mem_cons] at hp ⊢
        rcases hp with q | q | q | q | q
        · exact .inr (.inl q)
        · exact .inr (.inr (.inl q))
        · exact .inr (.inr (.inr (.inl q)))
        · exact .inl q
        · exact .inr (.inr (.inr (.inr q)))
      · exact Nat.ne_of_gt l1.1
      · exact Nat.ne_of_gt l1.2.1
      · exact Nat.ne_of_gt l1.2.2.1
      · intro p hp
        rcases List.mem_cons.mp hp with rfl | hp
        · exact allLt_mem l1.2.2.2 (dn, _) (List.mem_append.mpr (.inr (.head _)))
        · exact hfr p hp
      · rw [htk, hz, wname_zero]
        exact (hW.mono fun p q => .tail _ q).snoc (.head _) .nil
  · rintro yw nw ⟨fr, rfl, hfr, hW⟩ wa h4 tk4 F4 N4 O4
    rw [show ns.take 5 = ns by rw [← hlen, List.take_length]] at hW
    have O4' := off1_mem O4
    have hw0 : @Ne Nat dn wa := O4' (dn, _) (List.mem_append.mpr (.inr (.head _)))
    have hw3 : @Ne Nat (L' + 1 + 1 + 1) wa := O4' (_, op) (List.mem_append.mpr (.inr (.tail _ (.head _))))
    have hw2 : @Ne Nat (L' + 1 + 1) wa := O4' (_, ow) (List.mem_append.mpr (.inr (.tail _ (.tail _ (.head _)))))
    have hw1 : @Ne Nat (L' + 1) wa := O4' (_, on) (List.mem_append.mpr (.inr (.tail _ (.tail _ (.tail _ (.head _))))))
    have hoff : OwnOff fr [wa, dn, L' + 1 + 1 + 1, L' + 1 + 1, L' + 1] := by
      intro p hp b hb
      have q1 := hfr p hp
      have q2 := O4' p (List.mem_append.mpr (.inl hp))
      simp only [List.mem_cons, List.not_mem_nil, or_false] at hb
      show @Ne Nat p.1 b
      rcases hb with rfl | rfl | rfl | rfl | rfl <;> omega
    replace N4 : News s.heap L' h4 ((wa, LCg.lst yw) :: (dn, listOf (strValues ln).toArray 0) :: (L' + 1 + 1 + 1, op) :: (L' + 1 + 1, ow) :: (L' + 1, on) :: fr) := fun p hp => N4 p (led_rot (base := [(dn, _), (_, op), (_, ow), (_, on)]) p hp)
    k_steps
    unfold Stop
    rename (Fr s.heap L' _ _) => F5
    rename (News s.heap L' _ _) => N5
    rename_i _ ow2 dW2
    refine LCg.Assign_ListComp_U F5 rfl rfl rfl (by decide) rfl (by decide) rfl rfl rfl ?_
    k_steps
    unfold Stop
    refine LCg.CompSrc.base rfl F5 N5 hl (by rw [List.size_toArray, hi.length, sizeLine_eq]; omega) fun g => ?_
    rw [List.size_toArray]
    refine comp_inv (n := vs.length) (fun i ys nw => nw = _ ∧ ys = vs.take i) ?_ ?_ _ 0 [] _ (Nat.zero_add _) ⟨rfl, rfl⟩
    · rintro i v I oI C oC D m₂ h tk E' ys news hi' ⟨rfl, rfl⟩ hP hC hx F6 N6 O ne
      k_steps
      refine LCg.CompEnd.intro F6 N6 _ (fun p hp => hp) O (.inl hl) ⟨rfl, ?_⟩
      rw [List.take_add_one, show vs[i]? = some v by simpa using hP]; rfl
    · rintro ya nw ⟨rfl, rfl⟩ aa h6 tk6 F6 N6 O6
      rw [List.take_length] at N6
      k_steps
      unfold Stop
      refine wpAny_For (hs := fun _ => rfl) ?_
      k_steps
      rename (Fr s.heap L' _ _) => F7
      rename (News s.heap L' _ _) => N7
      rename_i ca _ l1c _ T _ l1T
      have hT0 : s.heap.get? T = none := (N7 _ (.head _)).2.2
      have hlo : ∀ i, StOk (placesTo ns lo i) := places_ok hlen hlr
      have O6' := off1_mem O6
      have ha0 : @Ne Nat wa aa := O6' (wa, _) (.head _)
      have ha1 : @Ne Nat dn aa := O6' (dn, _) (.tail _ (.head _))
      have ha2 : @Ne Nat (L' + 1 + 1) aa := O6' (_, ow2) (.tail _ (.tail _ (.tail _ (.head _))))
      have ha3 : @Ne Nat (L' + 1) aa := O6' (_, on) (.tail _ (.tail _ (.tail _ (.tail _ (.head _)))))
      have ha4 : @Ne Nat (L' + 1 + 1 + 1) aa := O6' (_, op) (.tail _ (.tail _ (.head _)))
      have hfrA : ∀ p ∈ fr, @Ne Nat p.1 aa := fun p hp => O6' p (.tail _ (.tail _ (.tail _ (.tail _ (.tail _ hp)))))
      have hfrc : ∀ p ∈ fr, @LT.lt Nat _ p.1 ca := allLt_mem l1c.2.2.2.2.2.2
      refine for_cell (c := L' + 1 + 1 + 1) (news₀ := (ca, listOf [].toArray 0) :: (aa, listOf vs.toArray vs.length) :: (wa, listOf yw.toArray yw.length) :: (dn, listOf (strValues ln).toArray 0) :: (L' + 1 + 1, ow2) :: (L' + 1, on) :: fr) (fun i m nw => m (Str.ofString "after") = some (.ref aa) ∧ m (Str.ofString "cut") = some (.ref ca) ∧ m (Str.ofString "lone") = some (.ref b) ∧
          ∃ uc kc ua ka yw kw fr, nw = (ca, listOf uc.toArray kc) :: (aa, listOf ua.toArray ka) :: (wa, listOf yw.toArray kw) :: (dn, listOf (strValues ln).toArray 0) :: (L' + 1 + 1, ow2) :: (L' + 1, on) :: fr ∧ IntsAre ua (placesTo ns lo i).1 ∧ IntsAre uc (placesTo ns lo i).2 ∧ WordsIn fr yw (rsOf ns (placesTo ns lo i).2) ∧ OwnOff fr [ca, aa, wa, dn, L' + 1 + 1, L' + 1]) rfl rfl rfl rfl rfl ⟨_, (N7 _ (.head _)).1, rfl, 0, rfl⟩ (N7 _ (.head _)).2.1 ?_ ?_ F7 ?_ dP ?_ ?_ ?_ ?_
      · show @Ne Nat T _; omega
      · intro p hp
        show @Ne Nat p.1 T
        simp only [List.mem_cons] at hp
        rcases hp with rfl | rfl | rfl | rfl | rfl | rfl | hp
        · exact Nat.ne_of_lt l1T.1
        · exact Nat.ne_of_lt l1T.2.1
        · exact Nat.ne_of_lt l1T.2.2.1
        · exact Nat.ne_of_lt l1T.2.2.2.1
        · exact Nat.ne_of_lt l1T.2.2.2.2.2.1
        · exact Nat.ne_of_lt l1T.2.2.2.2.2.2.1
        · exact Nat.ne_of_lt (Nat.lt_trans (hfrc p hp) l1T.1)
      · intro p hp
        refine N7 p ?_
        simp only [List.mem_cons] at hp ⊢
        rcases hp with q | q | q | q | q | q | q | q
        · exact .inr (.inr (.inr (.inr (.inr (.inl q)))))
        · exact .inr (.inl q)
        · exact .inr (.inr (.inl q))
        · exact .inr (.inr (.inr (.inl q)))
        · exact .inr (.inr (.inr (.inr (.inl q))))
        · exact .inr (.inr (.inr (.inr (.inr (.inr (.inl q))))))
        · exact .inr (.inr (.inr (.inr (.inr (.inr (.inr (.inl q)))))))
        · exact .inr (.inr (.inr (.inr (.inr (.inr (.inr (.inr q)))))))
      · intro p hp
        show @Ne Nat p.1 _
        simp only [List.mem_cons] at hp
        rcases hp with rfl | rfl | rfl | rfl | rfl | rfl | hp
        · exact Nat.ne_of_gt l1c.2.2.2.1
        · exact Ne.symm ha4
        · exact Ne.symm hw3
        · exact Nat.ne_of_gt l1a
        · show @Ne Nat (L' + 1 + 1) (L' + 1 + 1 + 1); omega
        · show @Ne Nat (L' + 1) (L' + 1 + 1 + 1); omega
        · exact hoff p hp _ (.tail _ (.tail _ (.head _)))
      · refine ⟨by walk_at "m look", by walk_at "m look", by walk_at "m look", _, _, _, _, _, _, fr, rfl, hi, .nil, by rw [show rsOf ns (placesTo ns lo 0).2 = _ from rs_nil hlen]; exact hW, ?_⟩
        intro p hp b' hb'
        show @Ne Nat p.1 b'
        have q1 := hfr p hp
        have q2 := hfrA p hp
        have q3 := hfrc p hp
        have q4 : @Ne Nat p.1 wa := hoff p hp _ (.head _)
        simp only [List.mem_cons, List.not_mem_nil, or_false] at hb'
        rcases hb' with rfl | rfl | rfl | rfl | rfl | rfl <;> omega
      · rintro I i v m₁ news₁ h tk own o hi' hv ⟨m1, m2, m3, uc, kc, ua, ka, yw, kw, fr, rfl, ia, ic, hW, hoff2⟩ hnw hod hownc hown2 hownI hownT F8 N8
        have hi4 : i < 4 := hi'
        obtain ⟨tv, hv'⟩ : ∃ tv, v = .int ((3 - i : Nat) : Int) tv := by
          match i, hi4, hv with
          | 0, _, hv => exact ⟨_, (Option.some.inj hv).symm⟩
          | 1, _, hv => exact ⟨_, (Option.some.inj hv).symm⟩
          | 2, _, hv => exact ⟨_, (Option.some.inj hv).symm⟩
          | 3, _, hv => exact ⟨_, (Option.some.inj hv).symm⟩
        subst hv'
        have hst := hlo i
        have hnext : placesTo ns lo (i + 1) = placeAt ns lo (3 - i) (placesTo ns lo i) := rfl
        generalize placesTo ns lo (i + 1) = stn at hnext ⊢
        generalize hstd : placesTo ns lo i = st at *
        obtain ⟨as, cs⟩ := st
        obtain ⟨p, hpd⟩ : ∃ p, p = 3 - i := ⟨_, rfl⟩
        rw [← hpd] at hnext hod
        have hp4 : p < 4 := by omega
        have lt7 := fun p hp => Heap.lt_size (N7 p hp).1
        have hoffT : OwnOff (fr ++ own) [ca, aa, wa, dn, L' + 1 + 1, L' + 1, L' + 1 + 1 + 1] := by
          intro q hq b' hb'
          show @Ne Nat q.1 b'
          rcases List.mem_append.mp hq with hq | hq
          · simp only [List.mem_cons, List.not_mem_nil, or_false] at hb'
            have q1 : ∀ b ∈ [ca, aa, wa, dn, L' + 1 + 1, L' + 1], @Ne Nat q.1 b := fun b hb => hoff2 q hq b hb
            rcases hb' with rfl | rfl | rfl | rfl | rfl | rfl | rfl
            · exact q1 _ (by simp)
            · exact q1 _ (by simp)
            · exact q1 _ (by simp)
            · exact q1 _ (by simp)
            · exact q1 _ (by simp)
            · exact q1 _ (by simp)
            · exact (hnw q (by simp [hq])).2.2
          · simp only [List.mem_cons, List.not_mem_nil, or_false] at hb'
            rcases hb' with rfl | rfl | rfl | rfl | rfl | rfl | rfl
            · exact hown2 q hq _ (lt7 _ (.tail _ (.head _))) (Nat.ne_of_lt l1T.1)
            · exact hown2 q hq _ (lt7 _ (.tail _ (.tail _ (.head _)))) (Nat.ne_of_lt l1T.2.1)
            · exact hown2 q hq _ (lt7 _ (.tail _ (.tail _ (.tail _ (.head _))))) (Nat.ne_of_lt l1T.2.2.1)
            · exact hown2 q hq _ (lt7 _ (.tail _ (.tail _ (.tail _ (.tail _ (.head _)))))) (Nat.ne_of_lt l1T.2.2.2.1)
            · exact hown2 q hq _ (lt7 (_, ow2) (by simp)) (Nat.ne_of_lt l1T.2.2.2.2.2.1)
            · exact hown2 q hq _ (lt7 (_, on) (by simp)) (Nat.ne_of_lt l1T.2.2.2.2.2.2.1)
            · exact hownc q hq
        replace N8 : News s.heap L' h ((ca, listOf uc.toArray kc) :: (aa, listOf ua.toArray ka) :: (wa, listOf yw.toArray kw) :: (dn, listOf (strValues ln).toArray 0) :: (L' + 1 + 1, ow2) :: (L' + 1, on) :: (L' + 1 + 1 + 1, o) :: (fr ++ own)) := by
          intro q hq
          refine N8 q ?_
          simp only [List.mem_cons, List.mem_append] at hq ⊢
          rcases hq with q | q | q | q | q | q | q | q | q
          · exact .inl (.inl q)
          · exact .inl (.inr (.inl q))
          · exact .inl (.inr (.inr (.inl q)))
          · exact .inl (.inr (.inr (.inr (.inl q))))
          · exact .inl (.inr (.inr (.inr (.inr (.inl q)))))
          · exact .inl (.inr (.inr (.inr (.inr (.inr (.inl q))))))
          · exact .inr (.inl q)
          · exact .inl (.inr (.inr (.inr (.inr (.inr (.inr q))))))
          · exact .inr (.inr q)
        k_steps
        unfold Stop
        refine LCt.Assign_ListComp_T F8 rfl rfl rfl (by decide) rfl (by decide) rfl rfl rfl ?_
        k_steps
        unfold Stop
        refine LCt.CompSrcT.range (n := 5) rfl (by assumption) (by assumption) (by assumption) (by decide) (by decide) (by rw [sizeLine_eq]; decide) fun g => ?_
        refine comp_invT (n := 5) (fun j ys nw => nw = _ ∧ IntsAre ys (markedTo ns cs p j)) ?_ ?_ _ 0 [] _ (Nat.zero_add _) ⟨rfl, .nil⟩
        · rintro j v I2 oI C oC D m₂ h tk E' ys news hj5 ⟨rfl, hys⟩ hP hC hx F9 N9 O ne
          obtain ⟨tj2, rfl⟩ := hP
          rw [Int.zero_add] at hx
          k_steps
          unfold Stop
          have hvn : ∃ tn, (strValues ln)[p]? = some (.str (flagNm p) tn) := strs_get aN p hp4
          obtain ⟨tn, hvn⟩ := hvn
          refine sub_list (v := .str (flagNm p) tn) (News.isList N9 (List.mem_cons_of_mem _ (List.mem_cons_of_mem _ (List.mem_cons_of_mem _ (List.mem_cons_of_mem _ (List.mem_cons_of_mem _ (List.mem_cons_of_mem _ (.head _)))))))) (by omega) (by omega) (by simpa using hvn) ?_
          k_steps
          unfold Stop
          obtain ⟨a, va, ka', hya, hma, hsa⟩ := hW.get j (by rw [rs_length]; omega)
          refine sub_list (v := .ref a) (News.isList N9 (List.mem_cons_of_mem _ (List.mem_cons_of_mem _ (List.mem_cons_of_mem _ (List.mem_cons_of_mem _ (List.mem_cons_of_mem _ (.head _))))))) (by omega) (by omega) (by simpa using hya) ?_
          k_steps
          unfold Stop
          refine in_list_strs (vs := va) (ys := (rsOf ns cs)[j]'(by rw [rs_length]; omega)) (News.isList (n := ka') N9 (mem10 (List.mem_append.mpr (.inl hma)))) hsa ?_
          rw [rs_any hr hlen hj5 hp4]
          k_steps
          · refine LCg.CompEnd.intro F9 N9 _ (fun p hp => hp) O trivial ⟨rfl, ?_⟩
            rw [markedTo_step, if_pos (by assumption)]
            exact ints_snoc hys _ _
          · refine LCg.CompEnd.intro F9 N9 _ (fun p hp => hp) O trivial ⟨rfl, ?_⟩
            rw [markedTo_step, if_neg (by rename (_ = false) => hf; rw [hf]; exact Bool.false_ne_true)]
            exact hys
        · rintro ym nw ⟨rfl, hym⟩ ma h9 tk9 F9 N9 O9
          have hmk5 : (markedTo ns cs p 5).length ≤ 5 := markedTo_length
          have hmkm : ∀ x ∈ markedTo ns cs p 5, 0 ≤ x ∧ x < 5 ∧ x ∉ cs := fun x hx => by simpa using markedTo_mem hx
          have hcs2 : cs.length ≤ 2 := hst.two
          have hcsm : ∀ j ∈ cs, 0 ≤ j ∧ j < 5 := hst.inn
          have has5 : as.length = 5 := hst.len
          have hic : IntsAre uc cs := ic
          have hia : IntsAre ua as := ia
          have hpl : placeAt ns lo p (as, cs) = if pyAt lo (((markedTo ns cs p 5).length : Int) + cs.length - 1) < cs.length then (putOn p as (cs.take ((cs.length : Int) - pyAt lo (((markedTo ns cs p 5).length : Int) + cs.length - 1)).toNat), cs)
            else (takeOff p as ((markedTo ns cs p 5).take (pyAt lo (((markedTo ns cs p 5).length : Int) + cs.length - 1) - cs.length).toNat), cs ++ (markedTo ns cs p 5).take (pyAt lo (((markedTo ns cs p 5).length : Int) + cs.length - 1) - cs.length).toNat) := rfl
          have hmk6 : (markedTo ns cs p 5).length + cs.length ≤ 6 := by
            rcases Nat.eq_zero_or_pos cs.length with q | q
            · omega
            · have := markedTo_short (ns := ns) (p := p) hcsm q; omega
          have hma : @Ne Nat aa ma := off1_mem O9 _ (.tail _ (.head _))
          have hmc : @Ne Nat ca ma := off1_mem O9 _ (.head _)
          have hca : @LT.lt Nat _ aa ca := l1c.1
          have hwo := pyAt_mem hlr (((markedTo ns cs p 5).length : Int) + cs.length - 1)
          generalize markedTo ns cs p 5 = mk at *
          k_steps
          unfold Stop
          refine sub_py (Fr.lst (by assumption) hb) hj (by omega) (by omega) (by omega) ?_
          intro tw
          generalize pyAt lo ((mk.length : Int) + cs.length - 1) = wo at *
          k_steps
          · unfold Stop
            refine For_invV s.heap (hx := rfl) (hp := rfl) (hE := PassesOwn.never) ?_
            k_steps
            unfold Stop
            rename (Fr s.heap L' _ _) => F10
            rename (News s.heap L' _ _) => N10
            rename_i _ hwc D ws _ hws _ _ l1D
            obtain ⟨sl, hsl⟩ : ∃ sl, sl = cs.take ((cs.length : Int) - wo).toNat := ⟨_, rfl⟩
            rw [← hsl] at hws
            have hslm : ∀ j ∈ sl, 0 ≤ j ∧ j < 5 := fun j hj => hcsm j (List.mem_of_mem_take (hsl ▸ hj))
            refine iter_list (fun i m nw => m (Str.ofString "after") = some (.ref aa) ∧ m (Str.ofString "cut") = some (.ref ca) ∧ m (Str.ofString "lone") = some (.ref b) ∧ ∃ ua, nw = (ma, LCg.lst ym) :: (ca, listOf uc.toArray kc) :: (aa, listOf ua.toArray ka) :: (wa, listOf yw.toArray kw) :: (dn, listOf (strValues ln).toArray 0) :: (L' + 1 + 1, ow2) :: (L' + 1, on) :: (L' + 1 + 1 + 1, o) :: (fr ++ own) ∧ IntsAre ua (putOn p as (sl.take i)))
              [aa] rfl rfl (News.isList N10 (.head _)) F10 (fun q hq => N10 q (.tail _ hq)) (N10 _ (.head _)).2.1 ?_ ⟨by walk_at "m look", by walk_at "m look", by walk_at "m look", ua, rfl, hia⟩ ?_ ?_
            · intro b' hb'
              rw [List.mem_singleton.mp hb']
              exact ⟨Nat.ne_of_lt l1D.2.2.1, Heap.lt_size (N10 _ (.tail _ (.tail _ (.tail _ (.head _))))).1⟩
            · rintro I3 i3 v m₃ news₃ h10 tk10 own3 hi3 hv3 ⟨m4, m5, m6, ua3, rfl, hua3⟩ hwI hsep hown3 F11 N11
              obtain ⟨hi3', t3, rfl⟩ := ints_at hws hv3 hi3
              have hjb := hslm _ (List.getElem_mem hi3')
              have hpl5 : (putOn p as (sl.take i3)).length = 5 := by rw [putOn_length]; exact has5
              have hoffU : OwnOff (fr ++ own ++ own3) [aa] := by
                intro q hq b' hb'
                rw [List.mem_singleton.mp hb']
                rcases List.mem_append.mp hq with hq | hq
                · exact hoffT q hq aa (.tail _ (.head _))
                · exact hsep q hq aa (.head _)
              simp only [List.cons_append] at N11
              k_steps
              rename (IntsAre (List.set _ _ _) _) => iY
              refine Turn.nextI (news₂ := (ma, LCg.lst ym) :: (ca, listOf uc.toArray kc) :: (aa, listOf (List.set _ _ _).toArray ka) :: (wa, listOf yw.toArray kw) :: (dn, listOf (strValues ln).toArray 0) :: (L' + 1 + 1, ow2) :: (L' + 1, on) :: (L' + 1 + 1 + 1, o) :: (fr ++ own)) (by assumption) (by assumption) (ne_map hwI rfl) ⟨by walk_at "m look", by walk_at "m look", by walk_at "m look", _, rfl, ?_⟩
              rw [putOn_step hi3']
              exact iY
            · rintro m₃ news₃ h10 tk10 ⟨m4, m5, m6, ua3, rfl, hua3⟩ F11 N11
              rw [show ws.length = sl.length from hws.length, List.take_length] at hua3
              have hstn : stn = (putOn p as sl, cs) := by rw [hnext, hpl, if_pos hwc, hsl]
              subst hstn
              k_steps
              refine Turn.next (news₂ := (ca, listOf uc.toArray kc) :: (aa, listOf ua3.toArray ka) :: (wa, listOf yw.toArray kw) :: (dn, listOf (strValues ln).toArray 0) :: (L' + 1 + 1, ow2) :: (L' + 1, on) :: fr) F11 ?_ ?_ ⟨m4, m5, m6, uc, kc, ua3, ka, yw, kw, fr, rfl, hua3, hic, hW, hoff2⟩
              · intro q hq
                refine N11 q (List.mem_cons_of_mem _ ?_)
                simp only [List.mem_cons, List.mem_append, List.cons_append] at hq ⊢
                rcases hq with q | q | q | q | q | q | q | q | q
                · exact .inl q
                · exact .inr (.inl q)
                · exact .inr (.inr (.inl q))
                · exact .inr (.inr (.inr (.inl q)))
                · exact .inr (.inr (.inr (.inr (.inl q))))
                · exact .inr (.inr (.inr (.inr (.inr (.inl q)))))
                · exact .inr (.inr (.inr (.inr (.inr (.inr (.inr (.inl q)))))))
                · exact .inr (.inr (.inr (.inr (.inr (.inr (.inl q))))))
                · exact .inr (.inr (.inr (.inr (.inr (.inr (.inr (.inr q)))))))
              · intro q hq hm
                have hq' : ∃ x ∈ (ca, listOf uc.toArray kc) :: (aa, listOf ua.toArray ka) :: (wa, listOf yw.toArray kw) :: (dn, listOf (strValues ln).toArray 0) :: (L' + 1 + 1, ow2) :: (L' + 1, on) :: fr, x.1 = q.1 := by
                  simp only [List.mem_cons] at hq
                  rcases hq with rfl | rfl | hq
                  · exact ⟨_, .head _, rfl⟩
                  · exact ⟨_, .tail _ (.head _), rfl⟩
                  · exact ⟨q, List.mem_cons_of_mem _ (List.mem_cons_of_mem _ (by simp only [List.mem_cons]; exact hq)), rfl⟩
                obtain ⟨x, hx, e⟩ := hq'
                have := hnw x hx
                rw [e] at this
                simp only [List.mem_cons, List.not_mem_nil, or_false] at hm
                rcases hm with h1 | h1 | h1
                · exact this.1 h1
                · exact this.2.1 h1
                · exact this.2.2 h1
          · unfold Stop
            obtain ⟨oI9, hoI9⟩ := hownI
            obtain ⟨oT9, hoT9⟩ := hownT hT0
            refine For_invV s.heap (hx := rfl) (hp := rfl) (hE := PassesOwn.never) ?_
            k_steps
            unfold Stop
            rename (Fr s.heap L' _ _) => F10
            rename (News s.heap L' _ _) => N10
            rename_i _ hwc D ws _ hws _ _ l1D
            obtain ⟨sl, hsl⟩ : ∃ sl, sl = mk.take (wo - cs.length).toNat := ⟨_, rfl⟩
            rw [← hsl] at hws
            have hslm : ∀ j ∈ sl, 0 ≤ j ∧ j < 5 := fun j hj => have := hmkm j (List.mem_of_mem_take (hsl ▸ hj)); ⟨this.1, this.2.1⟩
            have hsl5 : sl.length ≤ 2 := by rw [hsl, List.length_take]; omega
            refine iter_list (fun i m nw => m (Str.ofString "after") = some (.ref aa) ∧ m (Str.ofString "cut") = some (.ref ca) ∧ m (Str.ofString "lone") = some (.ref b) ∧ ∃ ua uc kc yw fn, nw = (ma, LCg.lst ym) :: (ca, listOf uc.toArray kc) :: (aa, listOf ua.toArray ka) :: (wa, listOf yw.toArray kw) :: (dn, listOf (strValues ln).toArray 0) :: (L' + 1 + 1, ow2) :: (L' + 1, on) :: (L' + 1 + 1 + 1, o) :: (fn ++ (fr ++ own)) ∧ IntsAre ua (takeOff p as (sl.take i)) ∧ IntsAre uc (cs ++ sl.take i) ∧ WordsIn (fn ++ fr) yw (rsOf ns (cs ++ sl.take i)) ∧ ∀ q ∈ fn, ∀ b ∈ [ca, aa, wa, dn, L' + 1 + 1, L' + 1, L' + 1 + 1 + 1, I, T], @Ne Nat q.1 b)
              [aa, wa, ca] rfl rfl (News.isList N10 (.head _)) F10 (fun q hq => N10 q (.tail _ hq)) (N10 _ (.head _)).2.1 ?_ ⟨by walk_at "m look", by walk_at "m look", by walk_at "m look", ua, uc, kc, yw, [], rfl, hia, by rw [List.take_zero, List.append_nil]; exact hic, by rw [List.take_zero, List.append_nil]; exact hW, fun _ q => nomatch q⟩ ?_ ?_
            · intro b' hb'
              simp only [List.mem_cons, List.not_mem_nil, or_false] at hb'
              rcases hb' with rfl | rfl | rfl
              · exact ⟨Nat.ne_of_lt l1D.2.2.1, Heap.lt_size (N10 _ (.tail _ (.tail _ (.tail _ (.head _))))).1⟩
              · exact ⟨Nat.ne_of_lt l1D.2.2.2.1, Heap.lt_size (N10 _ (.tail _ (.tail _ (.tail _ (.tail _ (.head _)))))).1⟩
              · exact ⟨Nat.ne_of_lt l1D.2.1, Heap.lt_size (N10 _ (.tail _ (.tail _ (.head _)))).1⟩
            · rintro I3 i3 v m₃ news₃ h10 tk10 own3 hi3 hv3 ⟨m4, m5, m6, ua3, uc3, kc3, yw3, fn, rfl, hua3, huc3, hW3, hfn⟩ hwI hsep hown3 F11 N11
              obtain ⟨hi3', t3, rfl⟩ := ints_at hws hv3 hi3
              have hjb := hslm _ (List.getElem_mem hi3')
              have hpl5 : (takeOff p as (sl.take i3)).length = 5 := by rw [takeOff_length]; exact has5
              have hyw5 : yw3.length = 5 := by rw [hW3.length, rs_length]
              have huc5 : uc3.length ≤ 4 := by rw [huc3.length, List.length_append, List.length_take]; omega
              have hoffU : OwnOff (fn ++ (fr ++ own) ++ own3) [aa, wa, ca] := by
                intro q hq b' hb'
                rcases List.mem_append.mp hq with hq | hq
                · simp only [List.mem_cons, List.not_mem_nil, or_false] at hb'
                  rcases List.mem_append.mp hq with hq | hq
                  · rcases hb' with rfl | rfl | rfl
                    · exact hfn q hq _ (by simp)
                    · exact hfn q hq _ (by simp)
                    · exact hfn q hq _ (by simp)
                  · rcases hb' with rfl | rfl | rfl
                    · exact hoffT q hq _ (by simp)
                    · exact hoffT q hq _ (by simp)
                    · exact hoffT q hq _ (by simp)
                · exact hsep q hq _ hb'
              have hwm : @Ne Nat wa ma := off1_mem O9 _ (.tail _ (.tail _ (.head _)))
              have hwca : @LT.lt Nat _ wa ca := l1c.2.1
              have hdca : @LT.lt Nat _ dn ca := l1c.2.2.1
              have hcell3 : @LT.lt Nat _ (L' + 1 + 1 + 1) ca := l1c.2.2.2.1
              have hwdn : @Ne Nat wa dn := Ne.symm hw0
              simp only [List.cons_append] at N11
              k_steps
              unfold Stop
              refine ksa_sub N11 (.tail _ (.tail _ (.head _))) hua3 (by omega) (by omega) (by omega) ?_ rfl
              intro t4
              k_steps
              unfold Stop
              rename_i lw _ _ _ l1w
              rename (IntsAre (List.set _ _ _) _) => iY
              refine set_any (vs := yw3) (n := kw) (by assumption) (by assumption) (by k_upd) (by omega) (by omega) (by omega) ?_
              intro h12 F12 N12
              k_steps
              rename (News s.heap _ _ _) => N13
              simp only [List.push_toArray] at N13
              obtain ⟨ua4, iY, N13⟩ : ∃ ua4, IntsAre ua4 _ ∧ News s.heap L' _ ((lw, listOf [].toArray 0) :: (ma, LCg.lst ym) :: (ca, listOf (uc3 ++ [Value.int sl[i3] t3]).toArray (kc3 + 1)) :: (aa, listOf ua4.toArray ka) :: (wa, listOf (List.set yw3 sl[i3].toNat (.ref lw)).toArray kw) :: (dn, listOf (strValues ln).toArray 0) :: (L' + 1 + 1, ow2) :: (L' + 1, on) :: (L' + 1 + 1 + 1, o) :: (fn ++ (fr ++ own) ++ own3)) := ⟨_, iY, N13⟩
              obtain ⟨oI3, hoI3⟩ := hown3
              have lwt := allLt_mem l1w.2.2.2.2.2.2.2.2
              have lwI : @LT.lt Nat _ I lw := lwt _ (List.mem_append.mpr (.inl (List.mem_append.mpr (.inr (List.mem_append.mpr (.inr hoI9))))))
              have lwT : @LT.lt Nat _ T lw := lwt _ (List.mem_append.mpr (.inl (List.mem_append.mpr (.inr (List.mem_append.mpr (.inr hoT9))))))
              have lwI3 : @LT.lt Nat _ I3 lw := lwt _ (List.mem_append.mpr (.inr hoI3))
              have htk2 : cs ++ sl.take (i3 + 1) = (cs ++ sl.take i3) ++ [((sl[i3].toNat : Nat) : Int)] := by
                rw [List.take_add_one, List.getElem?_eq_getElem hi3', Option.toList_some, List.append_assoc, Int.toNat_of_nonneg hjb.1]
              refine Turn.nextI (news₂ := (ma, LCg.lst ym) :: (ca, listOf (uc3 ++ [Value.int sl[i3] t3]).toArray (kc3 + 1)) :: (aa, listOf ua4.toArray ka) :: (wa, listOf (List.set yw3 sl[i3].toNat (.ref lw)).toArray kw) :: (dn, listOf (strValues ln).toArray 0) :: (L' + 1 + 1, ow2) :: (L' + 1, on) :: (L' + 1 + 1 + 1, o) :: (((lw, listOf [].toArray 0) :: fn) ++ (fr ++ own))) (by assumption) ?_ ?_ ⟨by walk_at "m look", by walk_at "m look", by walk_at "m look", _, _, _, _, (lw, listOf [].toArray 0) :: fn, rfl, ?_, ?_, ?_, ?_⟩
              · intro q hq
                refine N13 q ?_
                simp only [List.mem_cons, List.mem_append, List.cons_append] at hq ⊢
                rcases hq with q | q | q | q | q | q | q | q | q | q
                · exact .inr (.inl q)
                · exact .inr (.inr (.inl q))
                · exact .inr (.inr (.inr (.inl q)))
                · exact .inr (.inr (.inr (.inr (.inl q))))
                · exact .inr (.inr (.inr (.inr (.inr (.inl q)))))
                · exact .inr (.inr (.inr (.inr (.inr (.inr (.inl q))))))
                · exact .inr (.inr (.inr (.inr (.inr (.inr (.inr (.inl q)))))))
                · exact .inr (.inr (.inr (.inr (.inr (.inr (.inr (.inr (.inl q))))))))
                · exact .inl q
                · exact .inr (.inr (.inr (.inr (.inr (.inr (.inr (.inr (.inr q))))))))
              · intro q hq
                simp only [List.mem_cons, List.mem_append, List.cons_append] at hq
                have hwI' : ∀ a', (∃ x ∈ (ma, LCg.lst ym) :: (ca, listOf uc3.toArray kc3) :: (aa, listOf ua3.toArray ka) :: (wa, listOf yw3.toArray kw) :: (dn, listOf (strValues ln).toArray 0) :: (L' + 1 + 1, ow2) :: (L' + 1, on) :: (L' + 1 + 1 + 1, o) :: (fn ++ (fr ++ own)), x.1 = a') → a' ≠ I3 := by
                  rintro a' ⟨x, hx, rfl⟩
                  exact hwI x hx
                rcases hq with rfl | rfl | rfl | rfl | rfl | rfl | rfl | rfl | rfl | hq
                · exact hwI' _ ⟨_, by simp, rfl⟩
                · exact hwI' _ ⟨(ca, listOf uc3.toArray kc3), by simp, rfl⟩
                · exact hwI' _ ⟨(aa, listOf ua3.toArray ka), by simp, rfl⟩
                · exact hwI' _ ⟨(wa, listOf yw3.toArray kw), by simp, rfl⟩
                · exact hwI' _ ⟨(dn, listOf (strValues ln).toArray 0), by simp, rfl⟩
                · exact hwI' _ ⟨(L' + 1 + 1, ow2), by simp, rfl⟩
                · exact hwI' _ ⟨(L' + 1, on), by simp, rfl⟩
                · exact hwI' _ ⟨(L' + 1 + 1 + 1, o), by simp, rfl⟩
                · exact Nat.ne_of_gt lwI3
                · exact hwI' _ ⟨q, by simp only [List.mem_cons, List.mem_append]; simp only [hq, or_true], rfl⟩
              · rw [takeOff_step hi3']
                rw [show (((p : Nat) : Int) + 1).toNat = p + 1 by omega, Int.fmod_eq_emod_of_nonneg _ (Int.le_of_lt (Int.pow_pos (by decide)))] at iY
                exact iY
              · rw [List.take_add_one, List.getElem?_eq_getElem hi3', Option.toList_some, ← List.append_assoc]
                exact ints_snoc huc3 _ _
              · rw [htk2, ← rs_set]
                exact (hW3.mono fun _ q => .tail _ q).set (.head _) _
              · intro q hq b' hb'
                rcases List.mem_cons.mp hq with rfl | hq
                · simp only [List.mem_cons, List.not_mem_nil, or_false] at hb'
                  show @Ne Nat lw b'
                  have q1 := l1w.1
                  have q2 := l1w.2.1
                  have q3 := l1w.2.2.1
                  have q4 := l1w.2.2.2.1
                  have q5 := l1w.2.2.2.2.1
                  have q6 := l1w.2.2.2.2.2.1
                  have q7 := l1w.2.2.2.2.2.2.1
                  have q8 := l1w.2.2.2.2.2.2.2.1
                  rcases hb' with rfl | rfl | rfl | rfl | rfl | rfl | rfl | rfl | rfl <;> omega
                · exact hfn q hq b' hb'
            · rintro m₃ news₃ h10 tk10 ⟨m4, m5, m6, ua3, uc3, kc3, yw3, fn, rfl, hua3, huc3, hW3, hfn⟩ F11 N11
              rw [show ws.length = sl.length from hws.length, List.take_length] at hua3 huc3 hW3
              have hstn : stn = (takeOff p as sl, cs ++ sl) := by rw [hnext, hpl, if_neg hwc, hsl]
              subst hstn
              k_steps
              refine Turn.next (news₂ := (ca, listOf uc3.toArray kc3) :: (aa, listOf ua3.toArray ka) :: (wa, listOf yw3.toArray kw) :: (dn, listOf (strValues ln).toArray 0) :: (L' + 1 + 1, ow2) :: (L' + 1, on) :: (fn ++ fr)) F11 ?_ ?_ ⟨m4, m5, m6, uc3, kc3, ua3, ka, yw3, kw, fn ++ fr, rfl, hua3, huc3, hW3, ?_⟩
              · intro q hq
                refine N11 q (List.mem_cons_of_mem _ ?_)
                simp only [List.mem_cons, List.mem_append, List.cons_append] at hq ⊢
                rcases hq with q | q | q | q | q | q | (q | q) | q | q
                · exact .inl q
                · exact .inr (.inl q)
                · exact .inr (.inr (.inl q))
                · exact .inr (.inr (.inr (.inl q)))
                · exact .inr (.inr (.inr (.inr (.inl q))))
                · exact .inr (.inr (.inr (.inr (.inr (.inl q)))))
                · exact .inr (.inr (.inr (.inr (.inr (.inr (.inr (.inl q)))))))
                · exact .inr (.inr (.inr (.inr (.inr (.inr (.inr (.inr (.inl q))))))))
                · exact .inr (.inr (.inr (.inr (.inr (.inr (.inl q))))))
                · exact .inr (.inr (.inr (.inr (.inr (.inr (.inr (.inr (.inr q))))))))
              · intro q hq hm
                by_cases hqf : q ∈ fn
                · simp only [List.mem_cons, List.not_mem_nil, or_false] at hm
                  rcases hm with h1 | h1 | h1
                  · exact hfn q hqf I (by simp) h1
                  · exact hfn q hqf T (by simp) h1
                  · exact hfn q hqf (L' + 1 + 1 + 1) (by simp) h1
                · have hq' : ∃ x ∈ (ca, listOf uc.toArray kc) :: (aa, listOf ua.toArray ka) :: (wa, listOf yw.toArray kw) :: (dn, listOf (strValues ln).toArray 0) :: (L' + 1 + 1, ow2) :: (L' + 1, on) :: fr, x.1 = q.1 := by
                    simp only [List.mem_cons, List.mem_append] at hq
                    rcases hq with rfl | rfl | rfl | hq | hq | hq | hq | hq
                    · exact ⟨_, .head _, rfl⟩
                    · exact ⟨_, .tail _ (.head _), rfl⟩
                    · exact ⟨_, .tail _ (.tail _ (.head _)), rfl⟩
                    · exact ⟨q, by simp [hq], rfl⟩
                    · exact ⟨q, by simp [hq], rfl⟩
                    · exact ⟨q, by simp [hq], rfl⟩
                    · exact absurd hq hqf
                    · exact ⟨q, by simp [hq], rfl⟩
                  obtain ⟨x, hx, e⟩ := hq'
                  have := hnw x hx
                  rw [e] at this
                  simp only [List.mem_cons, List.not_mem_nil, or_false] at hm
                  rcases hm with h1 | h1 | h1
                  · exact this.1 h1
                  · exact this.2.1 h1
                  · exact this.2.2 h1
              · intro q hq b' hb'
                rcases List.mem_append.mp hq with hq | hq
                · refine hfn q hq b' ?_
                  simp only [List.mem_cons, List.not_mem_nil, or_false] at hb' ⊢
                  rcases hb' with h1 | h1 | h1 | h1 | h1 | h1 <;> simp only [h1, true_or, or_true]
                · exact hoff2 q hq b' hb'
      · rintro m₁ news₁ h tk ⟨m1, m2, m3, uc, kc, ua, ka, yw, kw, fr, rfl, ia, ic, hW, hoff2⟩ F8 N8
        k_steps
        show Q (.ref aa) _
        exact ret aa h _ ua ka F8.keep (N8 _ (.tail _ (.head _))).2.2 (N8 _ (.tail _ (.head _))).1 ia
end

/-! Law -/
section
/-! the plain law -/
def loneOf (mo : Int) : List Int := if mo = 2 then [1, 2, 0, 1, 2, 0] else [1, 0, 1, 0, 1, 0]
theorem lone_len (mo : Int) : (loneOf mo).length = 6 := by unfold loneOf; split <;> rfl
theorem lone_rng (mo : Int) : ∀ v ∈ loneOf mo, 0 ≤ v ∧ v ≤ 2 := by unfold loneOf; split <;> decide
theorem sum_nn {l : List Int} (h : ∀ n ∈ l, 0 ≤ n) : 0 ≤ l.sum := by
  induction l with
  | nil => exact Int.le_refl _
  | cons x r ih => rw [List.sum_cons]; have := h x (.head _); have := ih fun n q => h n (.tail _ q); omega
theorem sum_perm {l l' : List Int} (h : l.Perm l') : l.sum = l'.sum := by
  induction h with
  | nil => rfl
  | cons x _ ih => rw [List.sum_cons, List.sum_cons, ih]
  | swap x y l => simp only [List.sum_cons]; omega
  | trans _ _ h1 h2 => rw [h1, h2]
theorem ones_perm {l l' : List Int} (h : l.Perm l') (p : Nat) : onesAt l p = onesAt l' p := sum_perm (h.map _)
theorem even_perm {l l' : List Int} (h : l.Perm l') (m : Int) : evenB l m = evenB l' m := by
  unfold evenB
  congr 1
  funext p
  rw [ones_perm h p]
theorem list5 {l : List Int} (h : l.length = 5) : l = [l.getD 0 0, l.getD 1 0, l.getD 2 0, l.getD 3 0, l.getD 4 0] := by
  match l, h with
  | [a, b, c, d, e], _ => rfl
theorem sum5 {l : List Int} (h : l.length = 5) : l.sum = l.getD 0 0 + l.getD 1 0 + l.getD 2 0 + l.getD 3 0 + l.getD 4 0 := by
  match l, h with
  | [a, b, c, d, e], _ => simp only [List.sum_cons, List.sum_nil, List.getD_cons_zero, List.getD_cons_succ]; omega
theorem zero5 {l : List Int} (h : l.length = 5) (hn : ∀ n ∈ l, 0 ≤ n) (hs : l.sum = 0) : l = [0, 0, 0, 0, 0] := by
  match l, h, hn, hs with
  | [a, b, c, d, e], _, hn, hs =>
    simp only [List.sum_cons, List.sum_nil] at hs
    have h1 := hn a (by simp)
    have h2 := hn b (by simp)
    have h3 := hn c (by simp)
    have h4 := hn d (by simp)
    have h5 := hn e (by simp)
    rw [show a = 0 by omega, show b = 0 by omega, show c = 0 by omega, show d = 0 by omega, show e = 0 by omega]
theorem top_pos {l : List Int} (h : l.length = 5) (hn : ∀ n ∈ l, 0 ≤ n) (hs : l.Pairwise (· ≤ ·)) (hp : l.sum ≠ 0) : 0 < l.getD 4 0 := by
  match l, h, hn, hs, hp with
  | [a, b, c, d, e], _, hn, hs, hp =>
    simp only [List.sum_cons, List.sum_nil] at hp
    have h1 := hn a (by simp)
    have h2 := hn b (by simp)
    have h3 := hn c (by simp)
    have h4 := hn d (by simp)
    have h5 := hn e (by simp)
    simp only [List.pairwise_cons, List.mem_cons, List.not_mem_nil, or_false] at hs
    have a1 := hs.1 e (by simp)
    have b1 := hs.2.1 e (by simp)
    have c1 := hs.2.2.1 e (by simp)
    have d1 := hs.2.2.2.1 e (by simp)
    simp only [List.getD_cons_zero, List.getD_cons_succ]
    omega
theorem moved_sum {ns as : List Int} {mo : Int} (hl : ns.length = 5) (h : Moved ns as mo) : as.sum < ns.sum := by
  obtain ⟨h1, h2, one, two, ho, ht, hlt, _, _⟩ := h
  rw [sum5 hl, sum5 (h1.trans hl)]
  have q0 := (h2 0).2
  have q1 := (h2 1).2
  have q2 := (h2 2).2
  have q3 := (h2 3).2
  have q4 := (h2 4).2
  obtain rfl | rfl | rfl | rfl | rfl : one = 0 ∨ one = 1 ∨ one = 2 ∨ one = 3 ∨ one = 4 := by omega
  all_goals omega
theorem moved_rng {ns as : List Int} {mo : Int} (hr : ∀ n ∈ ns, 0 ≤ n ∧ n ≤ 15) (h : Moved ns as mo) : ∀ n ∈ as, 0 ≤ n ∧ n ≤ 15 := by
  intro n hn
  obtain ⟨j, hj, rfl⟩ := List.getElem_of_mem hn
  have q := h.2.1 j
  have hj' : j < ns.length := h.1 ▸ hj
  rw [show as.getD j 0 = as[j] by simp [List.getD, hj], show ns.getD j 0 = ns[j] by simp [List.getD, hj']] at q
  have := hr _ (List.getElem_mem hj')
  omega
/-- the greatest heap, or the greatest two, whole -/
theorem moved_top {ns : List Int} {mo : Int} (hl : ns.length = 5) (hn : ∀ n ∈ ns, 0 ≤ n) (hm : 1 ≤ mo ∧ mo ≤ 2) (hp : 0 < ns.getD 4 0) : Moved ns (ns.take (5 - mo).toNat ++ List.replicate mo.toNat 0) mo := by
  match ns, hl, hn, hp with
  | [a, b, c, d, e], _, hn, hp =>
    have h1 := hn a (by simp)
    have h2 := hn b (by simp)
    have h3 := hn c (by simp)
    have h4 := hn d (by simp)
    simp only [List.getD_cons_zero, List.getD_cons_succ] at hp
    obtain rfl | rfl : mo = 1 ∨ mo = 2 := by omega
    · refine ⟨rfl, fun j => ?_, 4, 4, by decide, by decide, hp, fun _ => rfl, fun j hj _ => ?_⟩
      · match j with
        | 0 => exact ⟨h1, Int.le_refl _⟩
        | 1 => exact ⟨h2, Int.le_refl _⟩
        | 2 => exact ⟨h3, Int.le_refl _⟩
        | 3 => exact ⟨h4, Int.le_refl _⟩
        | 4 => exact ⟨Int.le_refl _, Int.le_of_lt hp⟩
        | j + 5 => exact ⟨Int.le_refl _, Int.le_refl _⟩
      · match j, hj with
        | 0, _ => rfl
        | 1, _ => rfl
        | 2, _ => rfl
        | 3, _ => rfl
        | 4, hj => exact absurd rfl hj
        | j + 5, _ => rfl
    · refine ⟨rfl, fun j => ?_, 4, 3, by decide, by decide, hp, fun h => by omega, fun j hj hk => ?_⟩
      · match j with
        | 0 => exact ⟨h1, Int.le_refl _⟩
        | 1 => exact ⟨h2, Int.le_refl _⟩
        | 2 => exact ⟨h3, Int.le_refl _⟩
        | 3 => exact ⟨Int.le_refl _, h4⟩
        | 4 => exact ⟨Int.le_refl _, Int.le_of_lt hp⟩
        | j + 5 => exact ⟨Int.le_refl _, Int.le_refl _⟩
      · match j, hj, hk with
        | 0, _, _ => rfl
        | 1, _, _ => rfl
        | 2, _, _ => rfl
        | 3, _, hk => exact absurd rfl hk
        | 4, hj, _ => exact absurd rfl hj
        | j + 5, _, _ => rfl
theorem right_sum {ns as : List Int} {mo : Int} (hl : ns.length = 5) (ha : as.length = 5) (h : rightB ns as mo = true) : as.sum ≤ ns.sum := by
  unfold rightB at h
  simp only [Bool.and_eq_true] at h
  have h1 := h.1.1
  rw [List.all_eq_true] at h1
  have q : ∀ j, j < 5 → as.getD j 0 ≤ ns.getD j 0 := fun j hj => by simpa using h1 j (List.mem_range.mpr hj)
  rw [sum5 hl, sum5 ha]
  have q0 := q 0 (by decide)
  have q1 := q 1 (by decide)
  have q2 := q 2 (by decide)
  have q3 := q 3 (by decide)
  have q4 := q 4 (by decide)
  omega
theorem right_even {ns as : List Int} {mo : Int} (h : rightB ns as mo = true) : evenB as mo = true := by
  unfold rightB at h
  simp only [Bool.and_eq_true] at h
  exact h.2
end

/-! Nim -/
section
/-! the answer is right and even -/
def cnt (f : Nat → Int) : Int := f 0 + f 1 + f 2 + f 3 + f 4
def ind (P : Prop) [Decidable P] : Int := if P then 1 else 0
theorem cnt_congr {f g : Nat → Int} (h : ∀ k, k < 5 → f k = g k) : cnt f = cnt g := by
  unfold cnt
  rw [h 0 (by decide), h 1 (by decide), h 2 (by decide), h 3 (by decide), h 4 (by decide)]
theorem cnt_add (f g : Nat → Int) : cnt (fun k => f k + g k) = cnt f + cnt g := by
  unfold cnt; dsimp only; omega
theorem cnt_sub (f g : Nat → Int) : cnt (fun k => f k - g k) = cnt f - cnt g := by
  unfold cnt; dsimp only; omega
theorem cnt_le {f : Nat → Int} {n : Int} (h : ∀ k, k < 5 → f k ≤ n) : cnt f ≤ 5 * n := by
  have h0 := h 0 (by decide)
  have h1 := h 1 (by decide)
  have h2 := h 2 (by decide)
  have h3 := h 3 (by decide)
  have h4 := h 4 (by decide)
  unfold cnt; omega
theorem cnt_one {j : Int} (h0 : 0 ≤ j) (h1 : j < 5) : cnt (fun k => ind ((k : Int) = j)) = 1 := by
  obtain rfl | rfl | rfl | rfl | rfl : j = 0 ∨ j = 1 ∨ j = 2 ∨ j = 3 ∨ j = 4 := by omega
  all_goals decide
theorem cnt_mem {js : List Int} (hn : js.Nodup) (h : ∀ j ∈ js, 0 ≤ j ∧ j < 5) : cnt (fun k => ind ((k : Int) ∈ js)) = js.length := by
  induction js with
  | nil => rfl
  | cons j r ih =>
    have hn' := List.nodup_cons.mp hn
    have hj := h j (.head _)
    rw [cnt_congr (g := fun k => ind ((k : Int) = j) + ind ((k : Int) ∈ r)) fun k hk => ?_, cnt_add, cnt_one hj.1 hj.2, ih hn'.2 fun x q => h x (.tail _ q), List.length_cons]
    · omega
    · by_cases e : (k : Int) = j
      · have : (k : Int) ∉ r := by rw [e]; exact hn'.1
        simp only [ind, List.mem_cons, e, true_or, if_true, hn'.1, if_false]; rfl
      · simp only [ind, List.mem_cons, e, false_or, if_false]; omega
theorem ones5 {l : List Int} (h : l.length = 5) (p : Nat) : onesAt l p = cnt fun k => l.getD k 0 / 2 ^ p % 2 := by
  match l, h with
  | [a, b, c, d, e], _ =>
    simp only [onesAt, cnt, List.map_cons, List.map_nil, List.sum_cons, List.sum_nil, List.getD_cons_zero, List.getD_cons_succ]; omega
theorem marked_iff {ns cs : List Int} {p k : Nat} (hk : k < 5) : (k : Int) ∈ markedTo ns cs p 5 ↔ ((k : Int) ∉ cs ∧ ns.getD k 0 / 2 ^ p % 2 = 1) := by
  unfold markedTo
  rw [List.mem_map]
  constructor
  · rintro ⟨i, hi, e⟩
    have e' : i = k := Int.ofNat.inj e
    subst e'
    have := (List.mem_filter.mp hi).2
    simpa [hasBit, List.contains_eq_mem] using this
  · rintro ⟨h1, h2⟩
    exact ⟨k, List.mem_filter.mpr ⟨List.mem_range.mpr hk, by simpa [hasBit, List.contains_eq_mem] using ⟨h1, h2⟩⟩, rfl⟩
theorem marked_nodup {ns cs : List Int} {p : Nat} : (markedTo ns cs p 5).Nodup := by
  unfold markedTo
  exact List.Pairwise.map _ (fun a b h e => h (Int.ofNat.inj e)) (List.Pairwise.filter _ List.nodup_range)
theorem putOn_get {p : Nat} {js : List Int} : ∀ {as : List Int}, as.length = 5 → js.Nodup → (∀ j ∈ js, 0 ≤ j ∧ j < 5) → ∀ k, k < 5 → (putOn p as js).getD k 0 = as.getD k 0 + 2 ^ p * ind ((k : Int) ∈ js) := by
  unfold putOn
  induction js with
  | nil => intro as _ _ _ k _; simp [ind]
  | cons j r ih =>
    intro as hl hn h k hk
    have hn' := List.nodup_cons.mp hn
    have hj := h j (.head _)
    rw [List.foldl_cons, ih (by rw [List.length_set]; exact hl) hn'.2 (fun x q => h x (.tail _ q)) k hk]
    by_cases e : k = j.toNat
    · subst e
      have e2 : ((j.toNat : Nat) : Int) = j := by omega
      rw [getD_set_eq (by omega), e2]
      simp only [ind, List.mem_cons, true_or, if_true, hn'.1, if_false]; omega
    · have e2 : ¬ (k : Int) = j := fun q => e (by omega)
      rw [getD_set_ne e]
      simp only [ind, List.mem_cons, e2, false_or]
theorem takeOff_get {p : Nat} {js : List Int} : ∀ {as : List Int}, as.length = 5 → js.Nodup → (∀ j ∈ js, 0 ≤ j ∧ j < 5) → ∀ k, k < 5 → (takeOff p as js).getD k 0 = if (k : Int) ∈ js then as.getD k 0 - as.getD k 0 % 2 ^ (p + 1) else as.getD k 0 := by
  unfold takeOff
  induction js with
  | nil => intro as _ _ _ k _; simp
  | cons j r ih =>
    intro as hl hn h k hk
    have hn' := List.nodup_cons.mp hn
    have hj := h j (.head _)
    rw [List.foldl_cons, ih (by rw [List.length_set]; exact hl) hn'.2 (fun x q => h x (.tail _ q)) k hk]
    by_cases e : k = j.toNat
    · subst e
      have e2 : ((j.toNat : Nat) : Int) = j := by omega
      rw [getD_set_eq (by omega), e2]
      simp only [List.mem_cons, true_or, if_true, hn'.1, if_false]
    · have e2 : ¬ (k : Int) = j := fun q => e (by omega)
      rw [getD_set_ne e]
      simp only [List.mem_cons, e2, false_or]
theorem lone_mod {mo : Int} (hm : 1 ≤ mo ∧ mo ≤ 2) {m : Nat} (h : m ≤ 5) : pyAt (loneOf mo) ((m : Int) - 1) = (m : Int) % (mo + 1) := by
  obtain rfl | rfl : mo = 1 ∨ mo = 2 := by omega
  · obtain rfl | rfl | rfl | rfl | rfl | rfl : m = 0 ∨ m = 1 ∨ m = 2 ∨ m = 3 ∨ m = 4 ∨ m = 5 := by omega
    all_goals decide +kernel
  · obtain rfl | rfl | rfl | rfl | rfl | rfl : m = 0 ∨ m = 1 ∨ m = 2 ∨ m = 3 ∨ m = 4 ∨ m = 5 := by omega
    all_goals decide +kernel
theorem upto16 {P : Int → Prop} (h : ∀ n : Fin 16, P ((n : Nat) : Int)) : ∀ x, 0 ≤ x → x ≤ 15 → P x := by
  intro x h0 h1
  have := h ⟨x.toNat, by omega⟩
  simp only at this
  rwa [show ((x.toNat : Nat) : Int) = x by omega] at this
/-- a cut heap gets the place -/
theorem bit_put : ∀ x : Int, 0 ≤ x → x ≤ 15 → ∀ p : Fin 4, x % 2 ^ ((p : Nat) + 1) = 0 → (x + 2 ^ (p : Nat)) % 2 ^ (p : Nat) = 0 ∧ x % 2 ^ (p : Nat) = 0 ∧ (x + 2 ^ (p : Nat)) / 2 ^ (p : Nat) % 2 = 1 ∧ x / 2 ^ (p : Nat) % 2 = 0 ∧
    ∀ q : Fin 4, (p : Nat) < q → (x + 2 ^ (p : Nat)) / 2 ^ (q : Nat) % 2 = x / 2 ^ (q : Nat) % 2 := upto16 (by decide +kernel)
/-- a heap that has the place is cut -/
theorem bit_take : ∀ x : Int, 0 ≤ x → x ≤ 15 → ∀ p : Fin 4, x / 2 ^ (p : Nat) % 2 = 1 → 0 ≤ x - x % 2 ^ ((p : Nat) + 1) ∧ (x - x % 2 ^ ((p : Nat) + 1)) % 2 ^ (p : Nat) = 0 ∧ (x - x % 2 ^ ((p : Nat) + 1)) + 2 ^ (p : Nat) ≤ x ∧ (x - x % 2 ^ ((p : Nat) + 1)) / 2 ^ (p : Nat) % 2 = 0 ∧
    ∀ q : Fin 4, (p : Nat) < q → (x - x % 2 ^ ((p : Nat) + 1)) / 2 ^ (q : Nat) % 2 = x / 2 ^ (q : Nat) % 2 := upto16 (by decide +kernel)
theorem bit_01 (x : Int) (p : Nat) : x / 2 ^ p % 2 = 0 ∨ x / 2 ^ p % 2 = 1 := by omega
structure NimInv (ns : List Int) (mo : Int) (e : Nat) (st : List Int × List Int) : Prop where
  len : st.1.length = 5
  nd : st.2.Nodup
  inn : ∀ j ∈ st.2, 0 ≤ j ∧ j < 5
  two : (st.2.length : Int) ≤ mo
  out : ∀ k : Nat, k < 5 → (k : Int) ∉ st.2 → st.1.getD k 0 = ns.getD k 0
  cut : ∀ k : Nat, k < 5 → (k : Int) ∈ st.2 → 0 ≤ st.1.getD k 0 ∧ st.1.getD k 0 % 2 ^ e = 0 ∧ st.1.getD k 0 + 2 ^ e ≤ ns.getD k 0
  evn : ∀ q, e ≤ q → q < 4 → (cnt fun k => st.1.getD k 0 / 2 ^ q % 2) % (mo + 1) = 0
theorem nim_step {ns : List Int} {mo : Int} (hl : ns.length = 5) (hr : ∀ k : Nat, 0 ≤ ns.getD k 0 ∧ ns.getD k 0 ≤ 15) (hm : 1 ≤ mo ∧ mo ≤ 2) {p : Nat} (hp : p < 4) {st : List Int × List Int} (I : NimInv ns mo (p + 1) st) :
    NimInv ns mo p (placeAt ns (loneOf mo) p st) := by
  obtain ⟨as, cs⟩ := st
  obtain ⟨len, nd, inn, two, out, cut, evn⟩ := I
  dsimp only at *
  have mkn := marked_nodup (ns := ns) (cs := cs) (p := p)
  have mki : ∀ j ∈ markedTo ns cs p 5, 0 ≤ j ∧ j < 5 := fun j hj => by have := markedTo_mem hj; omega
  have mkc := fun k (hk : k < 5) => marked_iff (ns := ns) (cs := cs) (p := p) hk
  have cmk := cnt_mem mkn mki
  have ccs := cnt_mem nd inn
  have tot : (markedTo ns cs p 5).length + cs.length ≤ 5 := by
    have : cnt (fun k => ind ((k : Int) ∈ markedTo ns cs p 5) + ind ((k : Int) ∈ cs)) ≤ 5 * 1 := cnt_le fun k hk => by
      have := mkc k hk
      by_cases q : (k : Int) ∈ cs
      · have : ¬ (k : Int) ∈ markedTo ns cs p 5 := fun z => (this.mp z).1 q
        simp only [ind, q, this, if_true, if_false]; decide
      · simp only [ind, q, if_false]; split <;> decide
    rw [cnt_add, cmk, ccs] at this
    omega
  have hwo := lone_mod hm (m := (markedTo ns cs p 5).length + cs.length) tot
  rw [Int.natCast_add] at hwo
  unfold placeAt
  dsimp only
  rw [hwo]
  generalize markedTo ns cs p 5 = mk at mkn mki mkc cmk tot hwo ⊢
  have hw0 : 0 ≤ ((mk.length : Int) + cs.length) % (mo + 1) := Int.emod_nonneg _ (by omega)
  have hw1 : ((mk.length : Int) + cs.length) % (mo + 1) < mo + 1 := Int.emod_lt_of_pos _ (by omega)
  have hw2 : ((mk.length : Int) + cs.length) % (mo + 1) ≤ (mk.length : Int) + cs.length := by
    obtain rfl | rfl : mo = 1 ∨ mo = 2 := by omega
    all_goals omega
  have hw3 : ((mk.length : Int) + cs.length - ((mk.length : Int) + cs.length) % (mo + 1)) % (mo + 1) = 0 := by
    obtain rfl | rfl : mo = 1 ∨ mo = 2 := by omega
    all_goals omega
  generalize ((mk.length : Int) + cs.length) % (mo + 1) = wo at *
  have rng : ∀ k : Nat, k < 5 → 0 ≤ as.getD k 0 ∧ as.getD k 0 ≤ 15 := fun k hk => by
    by_cases q : (k : Int) ∈ cs
    · have := cut k hk q
      have := hr k
      have : (0 : Int) < 2 ^ (p + 1) := Int.pow_pos (by decide)
      omega
    · rw [out k hk q]; exact hr k
  have hcb : ∀ k : Nat, k < 5 → (k : Int) ∈ cs → as.getD k 0 % 2 ^ (p + 1) = 0 := fun k hk q => (cut k hk q).2.1
  split
  · rename_i hlt
    have tn : (cs.take ((cs.length : Int) - wo).toNat).Nodup := nd.sublist (List.take_sublist _ _)
    have ti : ∀ j ∈ cs.take ((cs.length : Int) - wo).toNat, 0 ≤ j ∧ j < 5 := fun j hj => inn j (List.mem_of_mem_take hj)
    have ct := cnt_mem tn ti
    rw [List.length_take] at ct
    generalize hts : cs.take ((cs.length : Int) - wo).toNat = ts at *
    have tsub : ∀ j ∈ ts, j ∈ cs := fun j hj => List.mem_of_mem_take (hts ▸ hj)
    have gt := putOn_get (p := p) len tn ti
    refine ⟨by rw [putOn_length]; exact len, nd, inn, two, fun k hk q => ?_, fun k hk q => ?_, fun q hq hq4 => ?_⟩
    · have : ¬ (k : Int) ∈ ts := fun z => q (tsub _ z)
      rw [gt k hk]
      simp only [ind, this, if_false]
      rw [Int.mul_zero, Int.add_zero]
      exact out k hk q
    · have c := cut k hk q
      have b := bit_put _ (rng k hk).1 (rng k hk).2 ⟨p, hp⟩ c.2.1
      have e2 : (2 : Int) ^ (p + 1) = 2 ^ p * 2 := Int.pow_succ _ _
      have pos : (0 : Int) < 2 ^ p := Int.pow_pos (by decide)
      rw [gt k hk]
      by_cases z : (k : Int) ∈ ts
      · simp only [ind, z, if_true, Int.mul_one]
        exact ⟨by omega, b.1, by omega⟩
      · simp only [ind, z, if_false, Int.mul_zero, Int.add_zero]
        exact ⟨c.1, b.2.1, by omega⟩
    · rcases Nat.lt_or_eq_of_le hq with hlt' | rfl
      · rw [cnt_congr (g := fun k => as.getD k 0 / 2 ^ q % 2) fun k hk => ?_]
        · exact evn q hlt' hq4
        · dsimp only
          rw [gt k hk]
          by_cases z : (k : Int) ∈ ts
          · have b := bit_put _ (rng k hk).1 (rng k hk).2 ⟨p, hp⟩ (hcb k hk (tsub _ z))
            simp only [ind, z, if_true, Int.mul_one]
            exact b.2.2.2.2 ⟨q, hq4⟩ hlt'
          · simp only [ind, z, if_false, Int.mul_zero, Int.add_zero]
      · rw [cnt_congr (g := fun k => ind ((k : Int) ∈ mk) + ind ((k : Int) ∈ ts)) fun k hk => ?_]
        · rw [cnt_add, cmk, ct]
          have : (mk.length : Int) + (min ((cs.length : Int) - wo).toNat cs.length : Nat) = (mk.length : Int) + cs.length - wo := by omega
          rw [this]; exact hw3
        · dsimp only
          rw [gt k hk]
          by_cases c : (k : Int) ∈ cs
          · have nm : ¬ (k : Int) ∈ mk := fun z => ((mkc k hk).mp z).1 c
            have b := bit_put _ (rng k hk).1 (rng k hk).2 ⟨p, hp⟩ (hcb k hk c)
            by_cases z : (k : Int) ∈ ts
            · simp only [ind, z, nm, if_true, if_false, Int.mul_one]
              exact b.2.2.1.trans (by decide)
            · simp only [ind, z, nm, if_false, Int.mul_zero, Int.add_zero]
              exact b.2.2.2.1
          · have z : ¬ (k : Int) ∈ ts := fun z => c (tsub _ z)
            simp only [ind, z, if_false, Int.mul_zero, Int.add_zero]
            rw [out k hk c]
            rcases bit_01 (ns.getD k 0) p with h | h
            · have nm : ¬ (k : Int) ∈ mk := fun z => by have := ((mkc k hk).mp z).2; omega
              simp only [nm, if_false]; exact h
            · have m := (mkc k hk).mpr ⟨c, h⟩
              simp only [m, if_true]; exact h
  · rename_i hge
    have tn : (mk.take (wo - cs.length).toNat).Nodup := mkn.sublist (List.take_sublist _ _)
    have ti : ∀ j ∈ mk.take (wo - cs.length).toNat, 0 ≤ j ∧ j < 5 := fun j hj => mki j (List.mem_of_mem_take hj)
    have ct := cnt_mem tn ti
    rw [List.length_take] at ct
    have hlen : (mk.take (wo - cs.length).toNat).length = (wo - cs.length).toNat := by rw [List.length_take]; omega
    generalize hts : mk.take (wo - cs.length).toNat = ts at *
    have tsub : ∀ j ∈ ts, j ∈ mk := fun j hj => List.mem_of_mem_take (hts ▸ hj)
    have gt := takeOff_get (p := p) len tn ti
    have tnc : ∀ k : Nat, k < 5 → (k : Int) ∈ ts → (k : Int) ∉ cs ∧ ns.getD k 0 / 2 ^ p % 2 = 1 := fun k hk z => (mkc k hk).mp (tsub _ z)
    refine ⟨by rw [takeOff_length]; exact len, ?_, fun j hj => ?_, ?_, fun k hk q => ?_, fun k hk q => ?_, fun q hq hq4 => ?_⟩
    · refine List.nodup_append.mpr ⟨nd, tn, fun a ha b hb e => ?_⟩
      subst e
      have hb5 := ti a hb
      have := tnc a.toNat (by omega)
      rw [show ((a.toNat : Nat) : Int) = a by omega] at this
      exact (this hb).1 ha
    · rcases List.mem_append.mp hj with h | h
      · exact inn j h
      · exact ti j h
    · rw [List.length_append, hlen]; omega
    · have c : (k : Int) ∉ cs := fun z => q (List.mem_append.mpr (.inl z))
      have z : ¬ (k : Int) ∈ ts := fun z => q (List.mem_append.mpr (.inr z))
      rw [gt k hk, if_neg z]
      exact out k hk c
    · by_cases z : (k : Int) ∈ ts
      · have t := tnc k hk z
        rw [gt k hk, if_pos z, out k hk t.1]
        have b := bit_take _ (hr k).1 (hr k).2 ⟨p, hp⟩ t.2
        exact ⟨b.1, b.2.1, b.2.2.1⟩
      · have c : (k : Int) ∈ cs := (List.mem_append.mp q).resolve_right z
        rw [gt k hk, if_neg z]
        have c' := cut k hk c
        have b := bit_put _ (rng k hk).1 (rng k hk).2 ⟨p, hp⟩ c'.2.1
        have e2 : (2 : Int) ^ (p + 1) = 2 ^ p * 2 := Int.pow_succ _ _
        have pos : (0 : Int) < 2 ^ p := Int.pow_pos (by decide)
        exact ⟨c'.1, b.2.1, by omega⟩
    · rcases Nat.lt_or_eq_of_le hq with hlt' | rfl
      · rw [cnt_congr (g := fun k => as.getD k 0 / 2 ^ q % 2) fun k hk => ?_]
        · exact evn q hlt' hq4
        · dsimp only
          rw [gt k hk]
          by_cases z : (k : Int) ∈ ts
          · have t := tnc k hk z
            rw [if_pos z, out k hk t.1]
            exact (bit_take _ (hr k).1 (hr k).2 ⟨p, hp⟩ t.2).2.2.2.2 ⟨q, hq4⟩ hlt'
          · rw [if_neg z]
      · rw [cnt_congr (g := fun k => ind ((k : Int) ∈ mk) - ind ((k : Int) ∈ ts)) fun k hk => ?_]
        · rw [cnt_sub, cmk, ct]
          have : (mk.length : Int) - (min (wo - cs.length).toNat mk.length : Nat) = (mk.length : Int) + cs.length - wo := by omega
          rw [this]; exact hw3
        · dsimp only
          rw [gt k hk]
          by_cases z : (k : Int) ∈ ts
          · have t := tnc k hk z
            rw [if_pos z, out k hk t.1]
            have m := tsub _ z
            simp only [ind, z, m, if_true]
            exact (bit_take _ (hr k).1 (hr k).2 ⟨p, hp⟩ t.2).2.2.2.1
          · rw [if_neg z]
            by_cases c : (k : Int) ∈ cs
            · have nm : ¬ (k : Int) ∈ mk := fun z => ((mkc k hk).mp z).1 c
              simp only [ind, z, nm, if_false]
              exact (bit_put _ (rng k hk).1 (rng k hk).2 ⟨p, hp⟩ (hcb k hk c)).2.2.2.1
            · rw [out k hk c]
              rcases bit_01 (ns.getD k 0) p with h | h
              · have nm : ¬ (k : Int) ∈ mk := fun z => by have := ((mkc k hk).mp z).2; omega
                simp only [ind, z, nm, if_false]; exact h
              · have m := (mkc k hk).mpr ⟨c, h⟩
                simp only [ind, z, m, if_true, if_false]; exact h
theorem getD_rng {ns : List Int} (hr : ∀ n ∈ ns, 0 ≤ n ∧ n ≤ 15) (k : Nat) : 0 ≤ ns.getD k 0 ∧ ns.getD k 0 ≤ 15 := by
  rw [List.getD_eq_getElem?_getD]
  cases q : ns[k]? with
  | none => decide
  | some v => exact hr v (List.mem_of_getElem? q)
theorem nim_all {ns : List Int} {mo : Int} (hl : ns.length = 5) (hr : ∀ n ∈ ns, 0 ≤ n ∧ n ≤ 15) (hm : 1 ≤ mo ∧ mo ≤ 2) : NimInv ns mo 0 (placesTo ns (loneOf mo) 4) := by
  have h := getD_rng hr
  have s0 : NimInv ns mo 4 (placesTo ns (loneOf mo) 0) := ⟨hl, List.nodup_nil, fun _ q => (nomatch q), by show (0 : Int) ≤ mo; omega, fun _ _ _ => rfl, fun _ _ q => (nomatch q), fun q h1 h2 => by omega⟩
  exact nim_step hl h hm (by decide) (nim_step hl h hm (by decide) (nim_step hl h hm (by decide) (nim_step hl h hm (by decide) s0)))
theorem answer_good {ns : List Int} {mo : Int} (hl : ns.length = 5) (hr : ∀ n ∈ ns, 0 ≤ n ∧ n ≤ 15) (hm : 1 ≤ mo ∧ mo ≤ 2) :
    rightB ns (answerOf ns (loneOf mo)) mo = true ∧ (answerOf ns (loneOf mo)).length = 5 ∧ ∀ n ∈ answerOf ns (loneOf mo), 0 ≤ n ∧ n ≤ 15 := by
  obtain ⟨len, nd, inn, two, out, cut, evn⟩ := nim_all hl hr hm
  unfold answerOf
  generalize placesTo ns (loneOf mo) 4 = st at *
  obtain ⟨as, cs⟩ := st
  dsimp only at *
  have hb := getD_rng hr
  have le : ∀ k : Nat, k < 5 → 0 ≤ as.getD k 0 ∧ as.getD k 0 ≤ ns.getD k 0 ∧ ((k : Int) ∈ cs ↔ as.getD k 0 < ns.getD k 0) := fun k hk => by
    by_cases q : (k : Int) ∈ cs
    · have := cut k hk q
      have e : (2 : Int) ^ 0 = 1 := rfl
      rw [e] at this
      exact ⟨this.1, by omega, fun _ => by omega, fun _ => q⟩
    · rw [out k hk q]
      exact ⟨(hb k).1, Int.le_refl _, fun z => absurd z q, fun z => absurd z (Int.lt_irrefl _)⟩
  refine ⟨?_, len, fun n hn => ?_⟩
  · rw [right_yes fun k hk => (le k hk).2.1]
    have e1 : lowd ns as 5 = cs.length := by
      rw [← cnt_mem nd inn]
      rw [lowd_step, lowd_step, lowd_step, lowd_step, lowd_step]
      rw [cnt_congr (g := fun k => ind (as.getD k 0 < ns.getD k 0)) fun k hk => by
        by_cases z : (k : Int) ∈ cs
        · simp only [ind, z, (le k hk).2.2.mp z, if_true]
        · have : ¬ as.getD k 0 < ns.getD k 0 := fun y => z ((le k hk).2.2.mpr y)
          simp only [ind, z, this, if_false]]
      unfold cnt ind
      have : lowd ns as 0 = 0 := rfl
      rw [this]
      dsimp only
      (repeat' split) <;> omega
    rw [e1, decide_eq_true two, Bool.true_and]
    refine even_yes fun p hp => ?_
    rw [ones5 len]
    exact evn p (Nat.zero_le _) hp
  · obtain ⟨j, hj, rfl⟩ := List.getElem_of_mem hn
    have q := le j (by omega)
    rw [show as.getD j 0 = as[j] by simp [List.getD, hj]] at q
    have := hb j
    omega
/-- where two heaps part, at the top -/
theorem top_bit : ∀ y : Int, 0 ≤ y → y ≤ 15 → ∀ x : Int, 0 ≤ x → x ≤ 15 → x < y → ∃ p : Fin 4, y / 2 ^ (p : Nat) % 2 = 1 ∧ x / 2 ^ (p : Nat) % 2 = 0 ∧ ∀ q : Fin 4, p < q → x / 2 ^ (q : Nat) % 2 = y / 2 ^ (q : Nat) % 2 := by
  refine upto16 (P := fun y => ∀ x : Int, 0 ≤ x → x ≤ 15 → x < y → ∃ p : Fin 4, y / 2 ^ (p : Nat) % 2 = 1 ∧ x / 2 ^ (p : Nat) % 2 = 0 ∧ ∀ q : Fin 4, p < q → x / 2 ^ (q : Nat) % 2 = y / 2 ^ (q : Nat) % 2) fun n => ?_
  refine upto16 ?_
  revert n
  decide +kernel
theorem even_at {ns : List Int} {m : Int} (h : evenB ns m = true) {p : Nat} (hp : p < 4) : onesAt ns p % (m + 1) = 0 := by
  unfold evenB at h
  rw [List.all_eq_true] at h
  simpa using h p (List.mem_range.mpr hp)
theorem even_moved {ns as : List Int} {mo : Int} (hl : ns.length = 5) (hr : ∀ n ∈ ns, 0 ≤ n ∧ n ≤ 15) (hm : 1 ≤ mo ∧ mo ≤ 2) (he : evenB ns mo = true) (h : Moved ns as mo) : evenB as mo = false := by
  obtain ⟨h1, h2, one, two, ho, ht, hlt, h12, hsame⟩ := h
  have hb := getD_rng hr
  have ha : ∀ k, 0 ≤ as.getD k 0 ∧ as.getD k 0 ≤ 15 := fun k => by have := h2 k; have := hb k; omega
  have la : as.length = 5 := h1.trans hl
  obtain ⟨p1, t1, t2, t3⟩ := top_bit _ (hb one).1 (hb one).2 _ (ha one).1 (ha one).2 hlt
  -- a place at which the bits fall by one or two
  have key : ∃ p : Fin 4, ∃ d : Int, 1 ≤ d ∧ d ≤ mo ∧ (cnt fun k => as.getD k 0 / 2 ^ (p : Nat) % 2) = (cnt fun k => ns.getD k 0 / 2 ^ (p : Nat) % 2) - d := by
    have step : ∀ p : Fin 4, (cnt fun k => as.getD k 0 / 2 ^ (p : Nat) % 2) = (cnt fun k => ns.getD k 0 / 2 ^ (p : Nat) % 2) - ((ns.getD one 0 / 2 ^ (p : Nat) % 2 - as.getD one 0 / 2 ^ (p : Nat) % 2) + if two = one then 0 else (ns.getD two 0 / 2 ^ (p : Nat) % 2 - as.getD two 0 / 2 ^ (p : Nat) % 2)) := by
      intro p
      have e : ∀ k, k ≠ one → k ≠ two → as.getD k 0 / 2 ^ (p : Nat) % 2 = ns.getD k 0 / 2 ^ (p : Nat) % 2 := fun k a b => by rw [hsame k a b]
      generalize hfa : (fun k => as.getD k 0 / 2 ^ (p : Nat) % 2) = fa
      generalize hfn : (fun k => ns.getD k 0 / 2 ^ (p : Nat) % 2) = fn
      have e' : ∀ k, k ≠ one → k ≠ two → fa k = fn k := fun k a b => by rw [← hfa, ← hfn]; exact e k a b
      have g1 : as.getD one 0 / 2 ^ (p : Nat) % 2 = fa one := by rw [← hfa]
      have g2 : as.getD two 0 / 2 ^ (p : Nat) % 2 = fa two := by rw [← hfa]
      have g3 : ns.getD one 0 / 2 ^ (p : Nat) % 2 = fn one := by rw [← hfn]
      have g4 : ns.getD two 0 / 2 ^ (p : Nat) % 2 = fn two := by rw [← hfn]
      rw [g1, g2, g3, g4]
      have e0 := e' 0
      have e1 := e' 1
      have e2 := e' 2
      have e3 := e' 3
      have e4 := e' 4
      unfold cnt
      clear e e' g1 g2 g3 g4 hfa hfn t1 t2 t3 hsame h12
      obtain rfl | rfl | rfl | rfl | rfl : one = 0 ∨ one = 1 ∨ one = 2 ∨ one = 3 ∨ one = 4 := by omega
      all_goals (obtain rfl | rfl | rfl | rfl | rfl : two = 0 ∨ two = 1 ∨ two = 2 ∨ two = 3 ∨ two = 4 := by omega)
      all_goals (simp only [ne_eq, not_true_eq_false, false_implies, implies_true, not_false_eq_true, true_implies, reduceCtorEq, Nat.reduceEqDiff, if_true, if_false] at *; omega)
    by_cases e12 : two = one
    · refine ⟨p1, 1, by omega, hm.1, ?_⟩
      rw [step p1, if_pos e12, t1, t2]; omega
    · have hmo : mo = 2 := by
        rcases (show mo = 1 ∨ mo = 2 by omega) with q | q
        · exact absurd (h12 q) e12
        · exact q
      by_cases hlt2 : as.getD two 0 < ns.getD two 0
      · obtain ⟨p2, u1, u2, u3⟩ := top_bit _ (hb two).1 (hb two).2 _ (ha two).1 (ha two).2 hlt2
        rcases Nat.lt_trichotomy p1.1 p2.1 with q | q | q
        · refine ⟨p2, 1, by omega, by omega, ?_⟩
          rw [step p2, if_neg e12, u1, u2, t3 p2 q]; omega
        · have : p1 = p2 := Fin.ext q
          subst this
          refine ⟨p1, 2, by omega, by omega, ?_⟩
          rw [step p1, if_neg e12, u1, u2, t1, t2]; omega
        · refine ⟨p1, 1, by omega, by omega, ?_⟩
          rw [step p1, if_neg e12, t1, t2, u3 p1 q]; omega
      · have e : as.getD two 0 = ns.getD two 0 := by have := (h2 two).2; omega
        refine ⟨p1, 1, by omega, by omega, ?_⟩
        rw [step p1, if_neg e12, t1, t2, e]; omega
  obtain ⟨p, d, d1, d2, hd⟩ := key
  refine even_no p.2 ?_
  have hn := even_at he p.2
  rw [ones5 hl] at hn
  rw [ones5 la, hd]
  generalize (cnt fun k => ns.getD k 0 / 2 ^ (p : Nat) % 2) = c at hn ⊢
  obtain rfl | rfl : mo = 1 ∨ mo = 2 := by omega
  all_goals omega
end

/-! Match -/
section
theorem iseof_ok : (PySem.Challenge.rw_us0007_01.Holds → True) → ∀ {w : World} {s : Shared} {dp un : Nat} {fr : Option (List Env)} {gd : Option (List Code)} {mean : ExcName → Option Value} {mg mb : VMap} (_X : (hp w.params).In s.heap) (_T : Top vw lz mean mg mb s.heap)
   (_hdp : dp ≤ 920) {x : Int} {t : Tok}
   {Q E : Value → Shared → Prop} (_ret : ∀ h' tk, s.heap.StaysIn h' → Q (.bool (decide (x = 0))) { s with heap := h', toks := tk }),
   wpAny (model prg w) (Ar dp un fr gd) (call (.ref 84) [.int x t] []) Q E s := by
  k_fill
  intro _h w s dp un fr gd mean mg mb X T hdp x t Q E ret
  walk_at "m enter"
  intro L' h₁ F N
  (try dsimp only)
  k_fold
  k_steps
  show Q (.bool _) _
  exact ret _ _ (Fr.keep (by assumption))
section
local macro_rules | `(tactic| walk_at "compareOp Eq ref ref") => `(tactic| refine Stop.mk' ?_)
theorem match_ok : (PySem.Challenge.rw_us0007_01.Holds → True) → ∀ {w : World} {s : Shared} {dp un : Nat} {fr : Option (List Env)} {gd : Option (List Code)} {mean : ExcName → Option Value} {mg mb : VMap} (_X : (hp w.params).In s.heap) (_T : Top vw lz mean mg mb s.heap)
   (_hdp : dp ≤ 910) {l c b : Addr} {vs ms us : List Value} {ns mv lo : List Int} {mo : Int} {tm : Tok} (_hl : s.heap.IsList l vs.toArray) (_hi : IntsAre vs ns) (_hlen : ns.length = 5) (_hc : s.heap.IsList c ms.toArray) (_hmv : IntsAre ms mv) (_hmvl : mv.length = 2) (_hmvr : ∀ v ∈ mv, 0 ≤ v ∧ v ≤ 2 ^ 40)
   (_hb : s.heap.IsList b us.toArray) (_hj : IntsAre us lo) (_hlo : lo = loneOf mo) (_hm : 1 ≤ mo ∧ mo ≤ 2) (_hr : ∀ n ∈ ns, 0 ≤ n ∧ n ≤ 15)
   (_hun : un + 640 < cLine) {Q E : Value → Shared → Prop} (_ret : ∀ h' tk, s.heap.StaysIn h' → Q (.bool true) { s with heap := h', toks := tk }),
   wpAny (model prg w) (Ar dp un fr gd) (call (.ref 143) [.ref l, .ref c, .int mo tm, .ref b] []) Q E s := by
  k_fill
  intro _h w s dp un fr gd mean mg mb X T hdp l c b vs ms us ns mv lo mo tm hl hi hlen hc hmv hmvl hmvr hb hj hlo hm hr hun Q E ret
  walk_at "m enter"
  intro L' h₁ F N
  (try dsimp only)
  k_fold
  k_steps
  have hll : lo.length = 6 := by rw [hlo]; exact lone_len mo
  have hlr : ∀ v ∈ lo, 0 ≤ v ∧ v ≤ 2 := by rw [hlo]; exact lone_rng mo
  obtain ⟨g1, g2, g3⟩ := answer_good hlen hr hm
  rw [← hlo] at g1 g2 g3
  refine answer_ok (fun _ => trivial) (X.keeps F.keep) (T.keeps F.keep) (by show dp + 1 ≤ 919; omega) (Fr.lst F hl) hi hlen (Fr.lst F hb) hj hll hr hlr ?_
  intro aa h' tk' ws kw hk hfresh hget hW
  have F2 := Fr_stays F hk
  have N2 := News_add F N hk hfresh hget
  k_steps
  rename (Fr s.heap L' _ _) => F3
  rename (News s.heap L' _ _) => N3
  refine right_ok (fun _ => trivial) (X.keeps F3.keep) (T.keeps F3.keep) (by show dp + 1 ≤ 919; omega) (Fr.lst F3 hl) hi hlen (News.isList N3 (.head _)) hW g2 (fun n hn => by have := g3 n hn; omega) hm ?_
  rw [g1]
  intro h3 tk3 hk3
  have F4 := Fr_stays F3 hk3
  have N4 := News_stays N3 hk3
  k_steps
  refine line_ok (fun _ => trivial) (X.keeps F4.keep) (T.keeps F4.keep) (by show dp + 1 ≤ 918; omega) (News.isList N4 (.head _)) hW (by omega) ?_
  intro la h5 tk5 ls ys kl hk5 hfresh5 hget5 hL hP hS
  have F5 := Fr_stays F4 hk5
  have N5 := News_add F4 N4 hk5 hfresh5 hget5
  k_steps
  unfold Stop
  rename (Fr s.heap L' _ _) => F6
  rename (News s.heap L' _ _) => N6
  have i0 : ys.length = 5 := hP.length_eq.trans g2
  have i1 : ∀ n ∈ ys, 0 ≤ n ∧ n ≤ 15 := fun n hn => g3 n (hP.mem_iff.mp hn)
  have i2 : evenB ys mo = true := (even_perm hP mo).trans (right_even g1)
  refine while_any (fun k s' => ∃ h tk m la ls, ∃ (ys : List Int), ∃ kl, ∃ (r : Int), ∃ tr, s' = { s with heap := h, toks := tk } ∧ Fr s.heap L' h m ∧ m (Str.ofString "line") = some (.ref la) ∧ m (Str.ofString "rounds") = some (.int r tr) ∧ m (Str.ofString "moves") = some (.ref c) ∧ m (Str.ofString "most") = some (.int mo tm) ∧ m (Str.ofString "lone") = some (.ref b)
     ∧ News s.heap L' h [(la, listOf ls.toArray kl)] ∧ IntsAre ls ys ∧ ys.Pairwise (· ≤ ·) ∧ ys.length = 5 ∧ (∀ n ∈ ys, 0 ≤ n ∧ n ≤ 15) ∧ evenB ys mo = true ∧ 0 ≤ r ∧ k = ys.sum.toNat) ?_ ys.sum.toNat ?_
  · clear hL hS hP i0 i1 i2 hget5 F6 N6
    rintro k _ ⟨h, tk, m, la, ls, ys, kl, r, tr, rfl, F, m1, m2, m3, m4, m5, N, hL, hS, i0, i1, i2, r0, rfl⟩
    k_steps
    rename (Fr s.heap L' _ _) => F1
    refine iseof_ok (fun _ => trivial) (X.keeps F1.keep) (T.keeps F1.keep) (by show dp + 1 ≤ 920; omega) ?_
    intro h2 tk2 hk2
    have F2 := Fr_stays F1 hk2
    have N2 : News s.heap L' h2 [(la, listOf ls.toArray kl)] := News_stays (by assumption) hk2
    k_steps
    · unfold Stop
      rename (Fr s.heap L' _ _) => F3
      rename (News s.heap L' _ _) => N3
      refine eq_intsK (News.isList N3 (.tail _ (.head _))) hL (News.isList N3 (.head _)) (by l_intsC) (by simp only [Around.deeper]; omega) ?_
      have e := zero5 i0 (fun n hn => (i1 n hn).1) (by assumption)
      rw [e]
      show Q (.bool true) _
      exact ret _ _ F3.keep
    · rename (Fr s.heap L' _ _) => F3
      rename (News s.heap L' _ _) => N3
      have tp := top_pos i0 (fun n hn => (i1 n hn).1) hS (by assumption)
      refine move_ok (fun _ => trivial) (X.keeps F3.keep) (T.keeps F3.keep) (by show dp + 1 ≤ 919; omega) (News.isList N3 (.head _)) hL i0 (fun n hn => by have := i1 n hn; omega) hS tp (hmvr _ ?mem) hm ?_
      case mem =>
        rw [List.getD_eq_getElem?_getD, List.getElem?_eq_getElem (by omega)]
        exact List.getElem_mem _
      intro ma h4 tk4 zv zs kz hk4 hf4 hg4 hZ hM
      have F4 := Fr_stays F3 hk4
      have N4 := News_add F3 N3 hk4 hf4 hg4
      k_steps
      rename (Fr s.heap L' _ _) => F5
      rename (News s.heap L' _ _) => N5
      have z0 : zs.length = 5 := hM.1.trans i0
      have z1 := moved_rng i1 hM
      obtain ⟨g1, g2, g3⟩ := answer_good z0 z1 hm
      rw [← hlo] at g1 g2 g3
      refine answer_ok (fun _ => trivial) (X.keeps F5.keep) (T.keeps F5.keep) (by show dp + 1 ≤ 919; omega) (News.isList N5 (.head _)) hZ z0 (Fr.lst F5 hb) hj hll z1 hlr ?_
      intro a2 h6 tk6 w2 k2 hk6 hf6 hg6 hW2
      have F6 := Fr_stays F5 hk6
      have N6 := News_add F5 N5 hk6 hf6 hg6
      k_steps
      rename (Fr s.heap L' _ _) => F7
      rename (News s.heap L' _ _) => N7
      refine even_ok (fun _ => trivial) (X.keeps F7.keep) (T.keeps F7.keep) (by show dp + 1 ≤ 920; omega) (News.isList N7 (.tail _ (.head _))) hZ (by omega) (fun n hn => by have := z1 n hn; omega) hm ?_
      rw [even_moved i0 i1 hm i2 hM]
      intro h8 tk8 hk8
      have F8 := Fr_stays F7 hk8
      have N8 := News_stays N7 hk8
      k_steps
      rename (Fr s.heap L' _ _) => F9
      rename (News s.heap L' _ _) => N9
      refine right_ok (fun _ => trivial) (X.keeps F9.keep) (T.keeps F9.keep) (by show dp + 1 ≤ 919; omega) (News.isList N9 (.tail _ (.head _))) hZ z0 (News.isList N9 (.head _)) hW2 g2 (fun n hn => by have := g3 n hn; omega) hm ?_
      rw [g1]
      intro h10 tk10 hk10
      have F10 := Fr_stays F9 hk10
      have N10 := News_stays N9 hk10
      k_steps
      rename (Fr s.heap L' _ _) => F11
      rename (News s.heap L' _ _) => N11
      refine line_ok (fun _ => trivial) (X.keeps F11.keep) (T.keeps F11.keep) (by show dp + 1 ≤ 918; omega) (News.isList N11 (.head _)) hW2 (by omega) ?_
      intro lb h12 tk12 lv ly lk hk12 hf12 hg12 hLv hLP hLS
      have F12 := Fr_stays F11 hk12
      have N12 := News_add F11 N11 hk12 hf12 hg12
      k_steps
      rename (Fr s.heap L' _ _) => F13
      rename (News s.heap L' _ _) => N13
      unfold Stop
      have s1 := moved_sum i0 hM
      have s2 := right_sum z0 g2 g1
      have s3 := sum_perm hLP
      have s4 := sum_nn fun n hn => (g3 n hn).1
      exact ⟨ly.sum.toNat, by omega, _, _, _, lb, _, ly, _, r + 1, _, rfl, F13, by walk_at "m look", by walk_at "m look", by walk_at "m look", by walk_at "m look", by walk_at "m look", fun p hp => N13 p (by rw [List.mem_singleton.mp hp]; exact .head _), hLv, hLS, hLP.length_eq.trans g2, fun n hn => g3 n (hLP.mem_iff.mp hn), (even_perm hLP mo).trans (right_even g1), by omega, rfl⟩
    · rename (Fr s.heap L' _ _) => F3
      rename (News s.heap L' _ _) => N3
      have tp := top_pos i0 (fun n hn => (i1 n hn).1) hS (by assumption)
      rename (IntsAre _ (_ ++ _)) => hZ
      have hM := moved_top i0 (fun n hn => (i1 n hn).1) hm tp
      rw [List.flatten_replicate_singleton] at hZ
      have F5 := F3
      have N5 := N3
      have z0 : (ys.take (5 - mo).toNat ++ List.replicate mo.toNat 0).length = 5 := hM.1.trans i0
      have z1 := moved_rng i1 hM
      obtain ⟨g1, g2, g3⟩ := answer_good z0 z1 hm
      rw [← hlo] at g1 g2 g3
      refine answer_ok (fun _ => trivial) (X.keeps F5.keep) (T.keeps F5.keep) (by show dp + 1 ≤ 919; omega) (News.isList N5 (.head _)) hZ z0 (Fr.lst F5 hb) hj hll z1 hlr ?_
      intro a2 h6 tk6 w2 k2 hk6 hf6 hg6 hW2
      have F6 := Fr_stays F5 hk6
      have N6 := News_add F5 N5 hk6 hf6 hg6
      k_steps
      rename (Fr s.heap L' _ _) => F7
      rename (News s.heap L' _ _) => N7
      refine even_ok (fun _ => trivial) (X.keeps F7.keep) (T.keeps F7.keep) (by show dp + 1 ≤ 920; omega) (News.isList N7 (.tail _ (.head _))) hZ (by omega) (fun n hn => by have := z1 n hn; omega) hm ?_
      rw [even_moved i0 i1 hm i2 hM]
      intro h8 tk8 hk8
      have F8 := Fr_stays F7 hk8
      have N8 := News_stays N7 hk8
      k_steps
      rename (Fr s.heap L' _ _) => F9
      rename (News s.heap L' _ _) => N9
      refine right_ok (fun _ => trivial) (X.keeps F9.keep) (T.keeps F9.keep) (by show dp + 1 ≤ 919; omega) (News.isList N9 (.tail _ (.head _))) hZ z0 (News.isList N9 (.head _)) hW2 g2 (fun n hn => by have := g3 n hn; omega) hm ?_
      rw [g1]
      intro h10 tk10 hk10
      have F10 := Fr_stays F9 hk10
      have N10 := News_stays N9 hk10
      k_steps
      rename (Fr s.heap L' _ _) => F11
      rename (News s.heap L' _ _) => N11
      refine line_ok (fun _ => trivial) (X.keeps F11.keep) (T.keeps F11.keep) (by show dp + 1 ≤ 918; omega) (News.isList N11 (.head _)) hW2 (by omega) ?_
      intro lb h12 tk12 lv ly lk hk12 hf12 hg12 hLv hLP hLS
      have F12 := Fr_stays F11 hk12
      have N12 := News_add F11 N11 hk12 hf12 hg12
      k_steps
      rename (Fr s.heap L' _ _) => F13
      rename (News s.heap L' _ _) => N13
      unfold Stop
      have s1 := moved_sum i0 hM
      have s2 := right_sum z0 g2 g1
      have s3 := sum_perm hLP
      have s4 := sum_nn fun n hn => (g3 n hn).1
      exact ⟨ly.sum.toNat, by omega, _, _, _, lb, _, ly, _, r + 1, _, rfl, F13, by walk_at "m look", by walk_at "m look", by walk_at "m look", by walk_at "m look", by walk_at "m look", fun p hp => N13 p (by rw [List.mem_singleton.mp hp]; exact .head _), hLv, hLS, hLP.length_eq.trans g2, fun n hn => g3 n (hLP.mem_iff.mp hn), (even_perm hLP mo).trans (right_even g1), by omega, rfl⟩
  · exact ⟨_, _, _, la, ls, ys, kl, 0, _, rfl, by assumption, by walk_at "m look", by walk_at "m look", by walk_at "m look", by walk_at "m look", by walk_at "m look", fun p hp => N6 p (by rw [List.mem_singleton.mp hp]; exact .head _), hL, hS, i0, i1, i2, Int.le_refl _, rfl⟩
end
end

/-! Draw -/
section
theorem drawn_ok : (PySem.Challenge.rw_us0007_01.Holds → True) → ∀ {w : World} {s : Shared} {dp un : Nat} {fr : Option (List Env)} {gd : Option (List Code)} {mean : ExcName → Option Value} {mg mb : VMap} (_X : (hp w.params).In s.heap) (_T : Top vw lz mean mg mb s.heap)
   (_hdp : dp ≤ 920) {l : Addr} {vs : List Value} {ns : List Int} (_hl : s.heap.IsList l vs.toArray) (_hi : IntsAre vs ns) (_hz : ns.length ≤ sizeLine)
   {Q E : Value → Shared → Prop} (_ret : ∀ a h' tk ws ds k, s.heap.StaysIn h' → s.heap.get? a = none → h'.get? a = some (listOf ws.toArray k) → IntsAre ws ds → ds.length = 4 → (∀ d ∈ ds, 0 ≤ d ∧ d ≤ 2 ^ 40) → Q (.ref a) { s with heap := h', toks := tk }),
   wpAny (model prg w) (Ar dp un fr gd) (call (.ref 91) [.ref l] []) Q E s := by
  k_fill
  intro _h w s dp un fr gd mean mg mb X T hdp l vs ns hl hi hz Q E ret
  walk_at "m enter"
  intro L' h₁ F N
  (try dsimp only)
  k_fold
  rw [sizeLine_eq] at hz
  k_steps
  unfold Stop
  refine For_invV s.heap (hx := rfl) (hp := rfl) (hE := PassesOwn.never) ?_
  k_steps
  unfold Stop
  rename (Fr s.heap L' _ _) => F10
  rename (News s.heap L' _ _) => N10
  rename (IntsAre _ (List.take 63 ns)) => hT
  rename (_ < _) => l1D
  rename_i da0 _ _ _ _ D0 ws0 _ _ _
  refine iter_list (fun i m nw => m (Str.ofString "drawn") = some (.ref da0) ∧ (∃ t, m (Str.ofString "turn") = some (.int (i : Nat) t)) ∧ ∃ ua ds, nw = [(da0, listOf (List.toArray ua) 0)] ∧ IntsAre ua ds ∧ ds.length = 4 ∧ ∀ d ∈ ds, 0 ≤ d ∧ d ≤ 615473 + (i : Int) * 1000003)
    [da0] rfl rfl (News.isList N10 (.head _)) F10 (fun q hq => N10 q (.tail _ hq)) (N10 _ (.head _)).2.1 ?_ ⟨by walk_at "m look", ⟨_, by walk_at "m look"⟩, [_, _, _, _], [1, 615473, 1523, 14], rfl, .cons _ _ (.cons _ _ (.cons _ _ (.cons _ _ .nil))), rfl, by decide⟩ ?_ ?_
  · intro b' hb'
    rw [List.mem_singleton.mp hb']
    exact ⟨Nat.ne_of_lt l1D, Heap.lt_size (N10 _ (.tail _ (.head _))).1⟩
  · rintro I i v m₃ news₃ h10 tk10 own3 hi3 hv3 ⟨m4, ⟨t5, m5⟩, ua, ds, rfl, hua, hd4, hdr⟩ hwI hsep hown3 F11 N11
    obtain ⟨hi3', t3, rfl⟩ := ints_at hT hv3 hi3
    have hoffU : OwnOff own3 [da0] := by
      intro q hq b' hb'
      rw [List.mem_singleton.mp hb']
      exact hsep q hq _ (.head _)
    simp only [List.cons_append, List.nil_append] at N11
    k_steps
    rename (IntsAre (List.set _ _ _) _) => iY
    refine Turn.nextI (news₂ := [(da0, listOf (List.set _ _ _).toArray 0)]) (by assumption) (by assumption) (ne_map hwI rfl) ⟨by walk_at "m look", ⟨_, by walk_at "m look"⟩, _, _, rfl, iY, ?_, ?_⟩
    · simpa using hd4
    · intro d hd
      have q0 := Int.fmod_nonneg_of_pos ((List.take 63 ns)[i]) (show (0 : Int) < 1000003 by decide)
      have q1 := Int.fmod_lt_of_pos ((List.take 63 ns)[i]) (show (0 : Int) < 1000003 by decide)
      have q2 : ((i + 1 : Nat) : Int) = i + 1 := by omega
      rcases List.mem_or_eq_of_mem_set hd with h | rfl
      · have := hdr d h; omega
      · have q4 := Int.fmod_nonneg_of_pos ((i : Nat) : Int) (show (0 : Int) < 4 by decide)
        have q5 := Int.fmod_lt_of_pos ((i : Nat) : Int) (show (0 : Int) < 4 by decide)
        have q6 : ds.getD (((i : Nat) : Int).fmod 4).toNat 0 ∈ ds := by
          rw [List.getD_eq_getElem?_getD, List.getElem?_eq_getElem (by omega)]
          exact List.getElem_mem _
        have := hdr _ q6
        omega
  · rintro m₃ news₃ h10 tk10 ⟨m4, ⟨t5, m5⟩, ua, ds, rfl, hua, hd4, hdr⟩ F11 N11
    k_steps
    show Q (.ref _) _
    refine ret _ _ _ _ _ _ F11.keep (News.fresh N11 (.head _)) (News.get N11 (.head _)) hua hd4 fun d hd => ⟨(hdr d hd).1, ?_⟩
    have := (hdr d hd).2
    have : ws0.length ≤ 63 := by rw [hT.length, List.length_take]; omega
    omega
end

/-! Lett -/
section
def nlOf (k : Int) : Str := if k = 0 then Str.ofString "\n" else if k = 1 then Str.ofString "\r\n" else Str.ofString "\r"
theorem sub_nl {prog : Program} {w : World} {A : Around} {E : Value → Shared → Prop} {s : Shared} {D : Addr} {a b c : Tok} {k : Int} {u : Tok} {Q : Value → Shared → Prop} {value slice : PySem.Expr}
    (hT : IsTup s.heap D #[.str (Str.ofString "\n") a, .str (Str.ofString "\r\n") b, .str (Str.ofString "\r") c]) (h0 : 0 ≤ k) (h1 : k < 3) (h : ∀ t, Q (.str (nlOf k) t) s)
    (hs : subscripted slice false (.ref D) (.int k u) = operate [.ref D, .int k u] (getItem (.ref D) (.int k u))) :
    wpAny (model prog w) A (subscriptTail value slice (.ref D) (.int k u)) Q E s := by
  have q : k = 0 ∨ k = 1 ∨ k = 2 := by omega
  rcases q with rfl | rfl | rfl
  · exact tail_any hT.typeIs slot_tuple_getitem.lookup (getItem_tuple hT (by omega) (by omega) (j := 0) rfl rfl (h _)) hs
  · exact tail_any hT.typeIs slot_tuple_getitem.lookup (getItem_tuple hT (by omega) (by omega) (j := 1) rfl rfl (h _)) hs
  · exact tail_any hT.typeIs slot_tuple_getitem.lookup (getItem_tuple hT (by omega) (by omega) (j := 2) rfl rfl (h _)) hs
noncomputable def letterTo (sg : Str) (st : Int) : Nat → Str
  | 0 => Str.ofString ""
  | i + 1 => letterTo sg st i ++ (Txt.mul sg (3 + (i : Int)) ++ nlOf (((i : Int) + st).fmod 3))
theorem nl_len (k : Int) : (nlOf k).length ≤ 2 := by unfold nlOf; split; decide; split; decide; decide
theorem row_len {sg : Str} (h : sg.length = 1) {i : Nat} (hi : i < 5) : (Txt.mul sg (3 + (i : Int))).length ≤ 7 := by
  have := len_mul_leN (x := sg) (n := 3 + (i : Int)) (L := 1) (N := 7) (by omega) (by omega)
  omega
section
local macro_rules | `(tactic| walk_at "binaryOp Add str str") => `(tactic| refine Stop.mk' ?_)
local macro_rules | `(tactic| walk_at "inplaceOp Add str str") => `(tactic| refine Stop.mk' ?_)
local macro_rules | `(tactic| walk_at "subscriptTail Tuple BinOp ref int") => `(tactic| refine Stop.mk' ?_)
theorem letter_ok : (PySem.Challenge.rw_us0007_01.Holds → True) → ∀ {w : World} {s : Shared} {dp un : Nat} {fr : Option (List Env)} {gd : Option (List Code)} {mean : ExcName → Option Value} {mg mb : VMap} (_X : (hp w.params).In s.heap) (_T : Top vw lz mean mg mb s.heap)
   (_hdp : dp ≤ 920) {sg : Str} {st : Int} {ts t2 : Tok} (_hs : sg.length = 1) (_h0 : 0 ≤ st) (_h2 : st ≤ 2)
   {Q E : Value → Shared → Prop} (_ret : ∀ h' tk tt, s.heap.StaysIn h' → Q (.str (letterTo sg st 5) tt) { s with heap := h', toks := tk }),
   wpAny (model prg w) (Ar dp un fr gd) (call (.ref 105) [.str sg ts, .int st t2] []) Q E s := by
  k_fill
  intro _h w s dp un fr gd mean mg mb X T hdp sg st ts t2 hs h0 h2 Q E ret
  walk_at "m enter"
  intro L' h₁ F N
  (try dsimp only)
  k_fold
  k_steps
  unfold Stop
  refine For_invV s.heap (hx := rfl) (hp := rfl) (hE := PassesOwn.never) ?_
  k_steps
  refine iter_range (n := 5) (fun i m nw => nw = [] ∧ m (Str.ofString "sign") = some (.str sg ts) ∧ m (Str.ofString "style") = some (.int st t2) ∧ (letterTo sg st i).length ≤ 9 * i ∧ ∃ t, m (Str.ofString "text") = some (.str (letterTo sg st i) t)) rfl rfl (by assumption) (by decide) (by decide) (by assumption) (by assumption) ⟨rfl, by walk_at "m look", by walk_at "m look", Nat.le_refl _, ⟨_, by walk_at "m look"⟩⟩ ?_ ?_
  · rintro I i tv m₃ news₃ h10 tk10 own hi3 ⟨rfl, m1, m2, hx5, t5, m5⟩ hwI hsep hown F11 N11
    simp only [List.nil_append] at N11
    simp only [Int.zero_add] at F11
    k_steps
    rename (News _ _ _ ((_, { cls := Value.type "tuple", data := _ }) :: _)) => N12
    have f0 := Int.fmod_nonneg_of_pos ((i : Int) + st) (show (0 : Int) < 3 by decide)
    have f1 := Int.fmod_lt_of_pos ((i : Int) + st) (show (0 : Int) < 3 by decide)
    generalize hk : ((i : Int) + st).fmod 3 = k at f0 f1 ⊢
    refine sub_nl ⟨_, (N12 _ (.head _)).1, rfl, _, rfl⟩ f0 f1 (fun tn => ?_) (by with_unfolding_all rfl)
    k_steps
    unfold Stop
    have w1 := row_len hs hi3
    have w2 := nl_len k
    refine PyProof.Rows.add_str (fun t' tk => ?_) (by rw [sizeLine_eq]; omega)
    k_steps
    unfold Stop
    refine PyProof.Rows.iadd_str (fun t' tk => ?_) (by rw [PySem.Str.length_append]; rw [sizeLine_eq]; omega)
    k_steps
    rename (News s.heap _ _ _) => N20
    refine Turn.nextI (news₂ := []) (by assumption) (fun q hq => N20 q (by first | exact hq | exact .tail _ hq | exact .tail _ (.tail _ hq))) hwI ⟨rfl, by walk_at "m look", by walk_at "m look", ?_, ?_⟩
    · show (letterTo sg st i ++ (Txt.mul sg (3 + (i : Int)) ++ nlOf (((i : Int) + st).fmod 3))).length ≤ _
      rw [PySem.Str.length_append, PySem.Str.length_append, hk]
      omega
    · show ∃ t, _ = some (Value.str (letterTo sg st i ++ (Txt.mul sg (3 + (i : Int)) ++ nlOf (((i : Int) + st).fmod 3))) t)
      rw [hk]
      exact ⟨_, by walk_at "m look"⟩
  · rintro m₃ news₃ h10 tk10 ⟨rfl, m1, m2, hx5, t5, m5⟩ F11 N11
    k_steps
    show Q (.str _ _) _
    exact ret _ _ _ F11.keep
end
end

/-! Re -/
section
theorem plainAttrs_pat : PlainAttrs "re.Pattern" :=
  ⟨⟨"object.__getattribute__", by rw [typeLookup_type, builtinLookup_eq_fast]; kernel_rfl, by decide +kernel⟩, by rw [typeLookup_type, builtinLookup_eq_fast]; kernel_rfl⟩
theorem slot_pat_sub : Slot "re.Pattern" "sub" "re.Pattern.sub" :=
  .of (owner := "re.Pattern") (n := "sub") (by rw [typeLookup_type, builtinLookup_eq_fast]; kernel_rfl) (by decide +kernel) (by decide +kernel) (by decide +kernel)
    (by first | exact .inl (by decide +kernel) | exact .inr (by decide +kernel)) (by rw [isSubtype_type]; kernel_rfl)
theorem type_pat_sub : typeOf (.builtin "re.Pattern.sub") = pure (.type "method_descriptor") := by show builtinType _ = _; rw [builtinType_eq_fast]; kernel_rfl
theorem entry_pat_sub : entryFor table "re.Pattern.sub" = some Builtin.«re.Pattern.sub» := entryFor_of_tree (by kernel_rfl)
theorem entry_pat_loop : entryFor table "re.Pattern.sub.loop" = some Builtin.«re.Pattern.sub.loop» := entryFor_of_tree (by kernel_rfl)
theorem owner_pat : Manifest.owners.lookup (String.ofList ['n', 'r', 'e', 't', 't', 'a', 'P', '.', 'e', 'r'].reverse) = some Manifest.sig_re_Pattern := by kernel_rfl
theorem args_pat_sub (a b c : Value) : argsOk "re.Pattern.sub" ⟨[a, b, c], []⟩ := by
  unfold argsOk; rw [signature?_of (id := "re.Pattern.sub") (n := ['b', 'u', 's']) (o := ['n', 'r', 'e', 't', 't', 'a', 'P', '.', 'e', 'r']) (by kernel_rfl) owner_pat]; kernel_rfl
theorem quiet_loop (args : Args) : (Code.builtin "re.Pattern.sub.loop" args).quiet = true := by kernel_rfl
theorem plain_loop : plainId "re.Pattern.sub.loop" = true := by decide +kernel
theorem plain_sub : plainId "re.Pattern.sub" = true := by decide +kernel
theorem nocall_str : typeLookup (.type "str") "__call__" = pure none := by rw [typeLookup_type, builtinLookup_eq_fast]; kernel_rfl
noncomputable def driveN : Nat → Sre.M → Option Sre.M
  | 0, _ => none
  | k + 1, m => if (m.runFor 4).outcome.isSome then some (m.runFor 4) else driveN k (m.runFor 4)
section
variable {w : World} {A : Around} {s : Shared} {E : Value → Shared → Prop}
theorem drive_ok {Q : Sre.M → Shared → Prop} : ∀ {k turns : Nat} {m m' : Sre.M}, driveN k m = some m' → k ≤ turns → Q m' s → wpAny (model prg w) A (Builtin.Re.reDrive turns m) Q E s := by
  intro k
  induction k with
  | zero => intro turns m m' h; exact absurd h (by simp [driveN])
  | succ k ih =>
    intro turns m m' h hk hQ
    obtain ⟨t, rfl⟩ : ∃ t, turns = t + 1 := ⟨turns - 1, by omega⟩
    unfold driveN at h
    unfold Builtin.Re.reDrive
    show wpAny _ _ (if (m.runFor 4).outcome.isSome = true then _ else _) _ _ _
    by_cases q : (m.runFor 4).outcome.isSome = true
    · rw [if_pos q] at h ⊢
      cases h
      exact wpAny_pure hQ
    · rw [if_neg q] at h ⊢
      exact wpAny_bind (wpAny_rule (ih h (by omega) hQ))
theorem forRules {Q : PUnit → Shared → Prop} (f : Nat → PUnit → Sem (ForInStep PUnit)) (hf : ∀ i (Q : ForInStep PUnit → Shared → Prop), Q (.yield ⟨⟩) s → wpAny (model prg w) A (f i ⟨⟩) Q E s) (h : Q ⟨⟩ s) :
    ∀ l : List Nat, wpAny (model prg w) A (forIn l PUnit.unit f) Q E s
  | [] => by rw [List.forIn_nil]; exact wpAny_pure h
  | a :: r => by
    rw [List.forIn_cons]
    exact wpAny_bind (hf _ _ (forRules f hf h r))
theorem run_any {m m' : Sre.M} {k : Nat} {Q : Option Sre.M → Shared → Prop} (h : driveN k m = some m') (hk : k ≤ 2 ^ 64) (hm : m'.outcome = some .matched ∧ Q (some m') s ∨ m'.outcome = some .failed ∧ Q none s) :
    wpAny (model prg w) A (Builtin.Re.reRunToEnd m) Q E s := by
  unfold Builtin.Re.reRunToEnd
  refine wpAny_bind (drive_ok h hk ?_)
  refine wpAny_bind (forRules _ (fun i Q hQ => ?_) ?_ _)
  · split
    · exact wpAny_bind (wpAny_rule (wpAny_pure hQ))
    · exact wpAny_pure hQ
  · rcases hm with ⟨hm, hQ⟩ | ⟨hm, hQ⟩
    · simp only [hm]; exact wpAny_pure hQ
    · simp only [hm]; exact wpAny_pure hQ
end



/-- the pattern at P with its code at C -/
structure PatAt (h : Heap) (P C : Addr) (o oc : Obj) (fs its : Array Value) (n : Nat) : Prop where
  p : h.get? P = some o
  c : h.get? C = some oc
  cls : o.cls = .type "re.Pattern"
  dict : o.dict = none
  pd : o.data = .fields fs
  cd : oc.data = .seq its n
  f5 : fs.getD 5 .none = .ref C
  f6 : Builtin.Re.reRawNat (fs.getD 6 .none) = 0
theorem PatAt.keep {h h' : Heap} {P C : Addr} {o oc : Obj} {fs its : Array Value} {n : Nat} (x : PatAt h P C o oc fs its n) (k : h.StaysIn h') : PatAt h' P C o oc fs its n :=
  ⟨k _ _ x.p, k _ _ x.c, x.cls, x.dict, x.pd, x.cd, x.f5, x.f6⟩
def codeOf (its : Array Value) : Array Nat := (its.map Builtin.Re.reRawOf).map (·.toNat)
def targetOf (P : Addr) (fs its : Array Value) (x : Str) (t : Tok) : Builtin.Re.ReTarget :=
  { pattern := .ref P, string := .str x t, code := codeOf its, text := x.cps, kind := 0, groups := Builtin.Re.reRawNat (fs.getD 2 .none), pos := 0, lim := x.cps.size }
section
variable {w : World} {A : Around} {s : Shared} {E : Value → Shared → Prop}
theorem whole_ok {P C : Addr} {o oc : Obj} {fs its : Array Value} {n : Nat} {x : Str} {t : Tok} {Q : Builtin.Re.ReTarget → Shared → Prop} (X : PatAt s.heap P C o oc fs its n) (h : Q (targetOf P fs its x t) s) :
    wpAny (model prg w) A (Builtin.Re.reWholeTarget (.ref P) (.str x t)) Q E s := by
  unfold Builtin.Re.reWholeTarget
  refine wpAny_bind (wpAny_fieldsOf X.p X.pd ?_)
  refine wpAny_bind (wpAny_bind (wpAny_pure ?_))
  refine wpAny_pure ?_
  simp only [X.f6, X.f5]
  rw [if_neg (by decide), if_neg (by decide)]
  refine wpAny_bind ?_
  unfold Builtin.Re.reNoCollectionInside
  rw [if_neg (by decide)]
  refine wpAny_pure (wpAny_bind ?_)
  unfold Builtin.Re.reRawItems
  exact wpAny_bind (wpAny_seqItems X.c X.cd (wpAny_pure (wpAny_pure h)))
theorem next_ok {P : Addr} {fs its : Array Value} {x : Str} {t : Tok} {st : Nat} {must : Bool} {k : Nat} {m' : Sre.M} {Q : Option Sre.M → Shared → Prop}
    (h : driveN k (Sre.forSearch (codeOf its) x.cps (Builtin.Re.reRawNat (fs.getD 2 .none)) st x.cps.size must) = some m') (hk : k ≤ 2 ^ 64) (hm : m'.outcome = some .matched ∧ Q (some m') s ∨ m'.outcome = some .failed ∧ Q none s) :
    wpAny (model prg w) A (Builtin.Re.reNextFound (targetOf P fs its x t) st must) Q E s := run_any h hk hm
end
/-- what sub puts together -/
noncomputable def subTo (code : Array Nat) (x repl : Str) : (fuel done start : Nat) → Bool → Option (List Str)
  | 0, _, _, _ => none
  | n + 1, done, start, must => match driveN 4000 (Sre.forSearch code x.cps 0 start x.cps.size must) with
    | none => none
    | some m => match m.outcome with
      | some .matched => (subTo code x repl n m.handed m.handed (m.handed == m.start)).map fun r => (if done < m.start then [⟨x.cps.extract done m.start⟩] else []) ++ (repl :: r)
      | some .failed => some (if done < x.cps.size then [⟨x.cps.extract done x.cps.size⟩] else [])
      | _ => none
section
variable {w : World} {A : Around} {s : Shared} {E : Value → Shared → Prop}
theorem wpAny_yes {α : Type} {c : Prop} {i : Decidable c} {a b : Sem α} {Q : α → Shared → Prop} (hc : c) (h : wpAny (model prg w) A a Q E s) : wpAny (model prg w) A (@ite _ c i a b) Q E s := by rw [if_pos hc]; exact h
theorem wpAny_no {α : Type} {c : Prop} {i : Decidable c} {a b : Sem α} {Q : α → Shared → Prop} (hc : ¬ c) (h : wpAny (model prg w) A b Q E s) : wpAny (model prg w) A (@ite _ c i a b) Q E s := by rw [if_neg hc]; exact h
theorem push_ok {D : Addr} {h₀ : Heap} {vs : List Value} {k : Nat} {v : Value} {Q : Unit → Shared → Prop} (hk : h₀.StaysIn s.heap) (hD : h₀.get? D = none) (hl : s.heap.get? D = some (listOf vs.toArray k)) (hz : vs.length ≤ 2000)
    (h : ∀ h' k', h₀.StaysIn h' → h'.get? D = some (listOf (vs ++ [v]).toArray k') → Q () { s with heap := h' }) : wpAny (model prg w) A (updateSeq D (·.push v)) Q E s := by
  refine wpAny_updateSeq hl rfl (h _ (k + 1) ?_ ?_) (by rw [sizeLine_eq]; simp; omega) (by rw [sizeLine_eq]; simp; omega)
  · intro b o hb
    rw [Heap.get?_update_other _ _ (fun e => by rw [e, hb] at hD; cases hD)]
    exact hk b o hb
  · rw [Heap.get?_update_self _ hl rfl]
    simp [W.listOf, Obj.mapSeq]
end
theorem ext0 (x : Str) : (⟨x.cps.extract 0 0⟩ : Str) = Str.ofString "" := by
  show Str.mk _ = Str.mk _
  congr 1
  apply Array.eq_empty_of_size_eq_zero
  rw [Array.size_extract]; omega
theorem sum_le {ys : List Str} (h : ∀ y ∈ ys, y.length ≤ 200) : (ys.map (·.length)).sum ≤ 200 * ys.length := by
  induction ys with
  | nil => simp
  | cons a r ih =>
    have := h a (.head _)
    have := ih fun y hy => h y (.tail _ hy)
    simp only [List.map_cons, List.sum_cons, List.length_cons]
    omega
theorem strs_snocR {vs : List Value} {ys : List Str} (h : StrsAre vs ys) (y : Str) (t : Tok) : StrsAre (vs ++ [.str y t]) (ys ++ [y]) := by
  induction h with
  | nil => exact .cons _ _ .nil
  | cons a b _ ih => exact .cons a b ih
section
variable {w : World} {A : Around} {R : Result → Shared → Prop}
theorem loop_ok {P C D : Addr} {o oc : Obj} {fs its : Array Value} {n : Nat} {x repl : Str} {t tr : Tok} {h₀ : Heap} (X : PatAt h₀ P C o oc fs its n) (hg : Builtin.Re.reRawNat (fs.getD 2 .none) = 0) (hD : h₀.get? D = none) (hx : x.length ≤ 200) (hr : repl.length ≤ 10) :
    ∀ fuel done start must out (pre : List Str) (vs : List Value) (k : Nat) (n0 : Int) (s : Shared), subTo (codeOf its) x repl fuel done start must = some out → h₀.StaysIn s.heap → s.heap.get? D = some (listOf vs.toArray k) → StrsAre vs pre → pre.length + 2 * fuel ≤ 1000 → (∀ y ∈ pre, y.length ≤ 200) →
      (∀ h' tk tt, h₀.StaysIn h' → R (.ok (.ret (.str (Txt.join (Str.ofString "") (pre ++ out)) tt))) { s with heap := h', toks := tk }) →
      codeAny (model prg w) A (.builtin "re.Pattern.sub.loop" ⟨[.ref P, .str x t, .str repl tr, rawInt 0, rawInt 0, rawInt n0, rawInt done, rawInt start, .bool must, .ref D, .bool false], []⟩) R s := by
  intro fuel
  induction fuel with
  | zero => intro done start must out pre vs k n0 s h; exact absurd h (by simp [subTo])
  | succ fuel ih =>
    intro done start must out pre vs k n0 s h hk hl hv hlen hpre ret
    refine codeAny_builtin entry_pat_loop ?_
    unfold Builtin.«re.Pattern.sub.loop»
    refine wpAny_bind (whole_ok (X.keep hk) ?_)
    dsimp only
    rw [if_pos (by decide)]
    refine wpAny_bind ?_
    unfold Builtin.Re.reLiteralCannotBeTurned
    refine wpAny_bind (wpAny_pure ?_)
    rw [if_neg (by simp)]
    refine wpAny_pure ?_
    unfold subTo at h
    rw [if_neg (by simp)]
    generalize hq : driveN 4000 (Sre.forSearch (codeOf its) x.cps 0 start x.cps.size must) = q at h
    cases q with
    | none => exact absurd h (by simp)
    | some m =>
      have hq' : driveN 4000 (Sre.forSearch (codeOf its) x.cps (Builtin.Re.reRawNat (fs.getD 2 .none)) start x.cps.size must) = some m := by rw [hg]; exact hq
      dsimp only at h
      generalize ho : m.outcome = oq at h
      rcases oq with _ | _ | _ | _
      · exact absurd h (by simp)
      · -- matched
        obtain ⟨r, hrr, rfl⟩ := Option.map_eq_some_iff.mp h
        refine wpAny_bind (next_ok hq' (by decide) (.inl ⟨ho, ?_⟩))
        dsimp only
        simp only [Int.toNat_natCast]
        have hsl : ∀ a b : Nat, (⟨x.cps.extract a b⟩ : Str).length ≤ 200 := fun a b => by
          have : x.cps.size ≤ 200 := hx
          show (x.cps.extract a b).size ≤ 200
          rw [Array.size_extract]; omega
        by_cases hd : done < m.start
        · rw [if_pos hd] at ret ⊢
          refine wpAny_bind (wpAny_mkStr ?_ (by have := hsl done m.start; rw [sizeLine_eq]; show (x.cps.extract done m.start).size ≤ _; exact Nat.le_trans this (by decide)))
          refine wpAny_bind (push_ok hk hD hl (by rw [hv.length]; omega) fun h2 k2 hk2 hl2 => ?_)
          rw [if_pos (by decide)]
          refine wpAny_bind (wpAny_pure ?_)
          rw [if_pos (by rfl)]
          refine wpAny_bind (push_ok hk2 hD hl2 (by rw [List.length_append, hv.length, List.length_singleton]; omega) fun h3 k3 hk3 hl3 => ?_)
          refine wpAny_pure ⟨quiet_loop _, ?_⟩
          refine ih _ _ _ _ (pre ++ [⟨x.cps.extract done m.start⟩] ++ [repl]) _ _ _ _ hrr hk3 hl3 ?_ ?_ ?_ ?_
          · exact strs_snocR (strs_snocR hv _ _) _ _
          · simp only [List.length_append, List.length_singleton]; omega
          · intro y hy
            rcases List.mem_append.mp hy with hy | hy
            · rcases List.mem_append.mp hy with hy | hy
              · exact hpre y hy
              · rw [List.mem_singleton.mp hy]; exact hsl _ _
            · rw [List.mem_singleton.mp hy]; omega
          · intro h' tk tt hk'
            have := ret h' tk tt hk'
            simpa only [List.append_assoc, List.singleton_append, List.cons_append, List.nil_append] using this
        · rw [if_neg hd] at ret ⊢
          rw [if_pos (by decide)]
          refine wpAny_bind (wpAny_pure ?_)
          rw [if_pos (by rfl)]
          refine wpAny_bind (push_ok hk hD hl (by rw [hv.length]; omega) fun h3 k3 hk3 hl3 => ?_)
          refine wpAny_pure ⟨quiet_loop _, ?_⟩
          refine ih _ _ _ _ (pre ++ [repl]) _ _ _ _ hrr hk3 hl3 ?_ ?_ ?_ ?_
          · exact strs_snocR hv _ _
          · simp only [List.length_append, List.length_singleton]; omega
          · intro y hy
            rcases List.mem_append.mp hy with hy | hy
            · exact hpre y hy
            · rw [List.mem_singleton.mp hy]; omega
          · intro h' tk tt hk'
            have := ret h' tk tt hk'
            simpa only [List.append_assoc, List.singleton_append, List.cons_append, List.nil_append] using this
      · refine wpAny_bind (next_ok hq' (by decide) (.inr ⟨ho, ?_⟩))
        dsimp only [targetOf]
        simp only [Int.toNat_natCast]
        have hsl : ∀ a b : Nat, (⟨x.cps.extract a b⟩ : Str).length ≤ 200 := fun a b => by
          have : x.cps.size ≤ 200 := hx
          show (x.cps.extract a b).size ≤ 200
          rw [Array.size_extract]; omega
        obtain rfl := Option.some.inj h
        by_cases hd : done < x.cps.size
        · rw [if_pos hd] at ret
          refine wpAny_yes hd ?_
          refine wpAny_bind (wpAny_mkStr ?_ (by have := hsl done x.cps.size; rw [sizeLine_eq]; exact Nat.le_trans this (by decide)))
          refine wpAny_bind (push_ok hk hD hl (by rw [hv.length]; omega) fun h2 k2 hk2 hl2 => ?_)
          have hp2 : ∀ y ∈ pre ++ [⟨x.cps.extract done x.cps.size⟩], y.length ≤ 200 := fun y hy => by
            rcases List.mem_append.mp hy with hy | hy
            · exact hpre y hy
            · rw [List.mem_singleton.mp hy]; exact hsl _ _
          refine wpAny_bind (wpAny_mkStr ?_ (by show (x.cps.extract 0 0).size ≤ _; rw [Array.size_extract]; omega))
          refine wpAny_bind (wpAny_seqItems hl2 rfl ?_)
          by_cases he : ((some (vs ++ [Value.str ⟨x.cps.extract done x.cps.size⟩ s.toks]).toArray).getD #[]).isEmpty = true
          · rw [if_pos he]
            refine wpAny_bind (wpAny_pure ?_)
            rw [if_neg (by decide)]
            refine wpAny_pure ?_
            have e1 : (vs ++ [Value.str ⟨x.cps.extract done x.cps.size⟩ s.toks]) = [] := by simpa using he
            have e2 := (strs_snocR hv ⟨x.cps.extract done x.cps.size⟩ s.toks)
            rw [e1] at e2
            have e3 : (pre ++ [⟨x.cps.extract done x.cps.size⟩]) = [] := by cases e2' : (pre ++ [⟨x.cps.extract done x.cps.size⟩]) with
              | nil => rfl
              | cons a b => rw [e2'] at e2; cases e2
            have := ret _ ((s.toks + 1) + 1) (s.toks + 1) hk2
            rw [e3] at this
            rw [show (x.cps.extract 0 0) = (Str.ofString "").cps from congrArg Str.cps (ext0 x)]
            exact this
          · rw [if_neg he]
            refine wpAny_bind ?_
            show wpAny _ _ (call (.builtin "str.join") [.str ⟨x.cps.extract 0 0⟩ _, .ref D]) _ _ _
            rw [ext0 x]
            refine join_list ⟨_, hl2, rfl, _, rfl⟩ (strs_snocR hv ⟨x.cps.extract done x.cps.size⟩ s.toks) (by have := sum_le (ys := (pre ++ [⟨x.cps.extract done x.cps.size⟩])) (fun y hy => hp2 y hy); have e : (Str.ofString "").length = 0 := rfl; rw [e]; (try simp only [List.length_append, List.length_singleton] at this ⊢); omega) fun t' k => ?_
            rw [if_neg (by decide)]
            exact wpAny_pure (ret _ _ _ hk2)
        · rw [if_neg hd, List.append_nil] at ret
          refine wpAny_no hd ?_
          refine wpAny_bind (wpAny_mkStr ?_ (by show (x.cps.extract 0 0).size ≤ _; rw [Array.size_extract]; omega))
          refine wpAny_bind (wpAny_seqItems hl rfl ?_)
          by_cases he : ((some vs.toArray).getD #[]).isEmpty = true
          · rw [if_pos he]
            refine wpAny_bind (wpAny_pure ?_)
            rw [if_neg (by decide)]
            refine wpAny_pure ?_
            have e1 : vs = [] := by simpa using he
            have e2 := hv
            rw [e1] at e2
            have e3 : pre = [] := by cases e2' : pre with
              | nil => rfl
              | cons a b => rw [e2'] at e2; cases e2
            have := ret _ (s.toks + 1) s.toks hk
            rw [e3] at this
            rw [show (x.cps.extract 0 0) = (Str.ofString "").cps from congrArg Str.cps (ext0 x)]
            exact this
          · rw [if_neg he]
            refine wpAny_bind ?_
            show wpAny _ _ (call (.builtin "str.join") [.str ⟨x.cps.extract 0 0⟩ _, .ref D]) _ _ _
            rw [ext0 x]
            refine join_list ⟨_, hl, rfl, _, rfl⟩ hv (by have := sum_le (ys := pre) (fun y hy => hpre y hy); have e : (Str.ofString "").length = 0 := rfl; rw [e]; (try simp only [List.length_append, List.length_singleton] at this ⊢); omega) fun t' k => ?_
            rw [if_neg (by decide)]
            exact wpAny_pure (ret _ _ _ hk)
      · exact absurd h (by simp)
end



section
variable {w : World} {A : Around} {s : Shared} {E : Value → Shared → Prop}
theorem sub_ok {P C : Addr} {o oc : Obj} {fs its : Array Value} {n : Nat} {x repl : Str} {t tr : Tok} {Q : Value → Shared → Prop} {out : List Str} (X : PatAt s.heap P C o oc fs its n) (hg : Builtin.Re.reRawNat (fs.getD 2 .none) = 0) (hx : x.length ≤ 200) (hr : repl.length ≤ 10)
    (h92 : repl.cps.contains 92 = false) (h : subTo (codeOf its) x repl 400 0 0 false = some out) (ret : ∀ h' tk tt, s.heap.StaysIn h' → Q (.str (Txt.join (Str.ofString "") out) tt) { s with heap := h', toks := tk }) :
    wpAny (model prg w) A (call (.builtin "re.Pattern.sub") [.ref P, .str repl tr, .str x t]) Q E s := by
  have hT : s.TypeIs (.ref P) "re.Pattern" := ⟨o, X.p, X.cls⟩
  refine wpAny_call (codeAny_call_builtin plain_sub entry_pat_sub (slot_pat_sub.check _ _ _ _ _ _ _ _ hT (args_pat_sub _ _ _) ?_))
  unfold Builtin.«re.Pattern.sub» Builtin.Re.reSubstitute
  dsimp only
  have hn : Builtin.Re.reNamed "re.Pattern.sub" "sub" ["repl", "string", "count"] 2 [.str repl tr, .str x t] [] = pure [some (.str repl tr), some (.str x t), none] := by
    rfl
  rw [hn]
  refine wpAny_bind (wpAny_pure ?_)
  dsimp only
  refine wpAny_bind (wpAny_pure ?_)
  refine wpAny_bind (wpAny_specialOf (typeIs_str _ _ _) nocall_str ?_)
  refine wpAny_no (by simp) ?_
  refine wpAny_bind (wpAny_pure ?_)
  dsimp only
  rw [h92]
  refine wpAny_bind (wpAny_pure ?_)
  refine wpAny_no (by simp) ?_
  refine wpAny_yes (by rfl) ?_
  refine wpAny_bind (wpAny_pure ?_)
  refine wpAny_bind (wpAny_holding (whole_ok X ?_))
  refine wpAny_no (by show ¬ ((0 : Nat) == 1) = true; decide) ?_
  refine wpAny_bind (wpAny_newList ?_ (by decide))
  refine wpAny_pure ⟨quiet_loop _, ?_⟩
  have up : s.heap.StaysIn (s.heap.push { cls := .type "list", data := .seq #[] }) := fun b o e => Heap.get?_push_of_some _ e
  refine loop_ok X hg (Heap.StaysIn.fresh (base := s.heap) (h := s.heap) fun _ _ e => e) hx hr 400 0 0 false out [] [] 0 0 { s with heap := s.heap.push { cls := .type "list", data := .seq #[] } } h up (Heap.get?_push_size _ rfl) .nil (by decide) (fun _ q => nomatch q) fun h' tk tt hk => ?_
  exact ret h' tk tt hk
end
end

/-! Reval -/
section
def nlCode : Array Nat := #[14, 9, 4, 1, 2, 16, 10, 16, 13, 0, 7, 7, 16, 13, 16, 10, 15, 18, 5, 16, 10, 15, 13, 11, 16, 13, 5, 5, 0, 16, 10, 1, 15, 2, 0, 1]
def dotCode : Array Nat := #[14, 4, 0, 1, 1, 6, 1, 16, 46, 1]
def signs6 : List Str := [Str.ofString ".", Str.ofString "=", Str.ofString "*", Str.ofString "/", Str.ofString "<", Str.ofString ">"]
def rowOf (sg : Str) (i : Nat) : Str := if sg = Str.ofString "." then Txt.mul sg (4 + (i : Int)) else Txt.mul sg (3 + (i : Int))
def lettC (sg : Str) : Str := Txt.join (Str.ofString "") ((List.range 5).map fun (i : Nat) => Txt.mul sg (3 + (i : Int)) ++ Str.ofString "\r\n")
def quotedOf (sg : Str) : Str := Txt.join (Str.ofString "") ((List.range 5).map fun (i : Nat) => rowOf sg i ++ Str.ofString "\r\n")
theorem crlf_0_0 : (subTo nlCode (letterTo (Str.ofString ".") (((0 : Fin 3) : Nat) : Int) 5) (Str.ofString "\r\n") 400 0 0 false).map (Txt.join (Str.ofString "")) = some (lettC (Str.ofString ".")) := by
  decide +kernel
theorem crlf_0_1 : (subTo nlCode (letterTo (Str.ofString ".") (((1 : Fin 3) : Nat) : Int) 5) (Str.ofString "\r\n") 400 0 0 false).map (Txt.join (Str.ofString "")) = some (lettC (Str.ofString ".")) := by
  decide +kernel
theorem crlf_0_2 : (subTo nlCode (letterTo (Str.ofString ".") (((2 : Fin 3) : Nat) : Int) 5) (Str.ofString "\r\n") 400 0 0 false).map (Txt.join (Str.ofString "")) = some (lettC (Str.ofString ".")) := by
  decide +kernel
theorem dots_0 : (subTo dotCode (lettC (Str.ofString ".")) (Str.ofString "..") 400 0 0 false).map (Txt.join (Str.ofString "")) = some (quotedOf (Str.ofString ".")) := by
  decide +kernel
theorem crlf_1_0 : (subTo nlCode (letterTo (Str.ofString "=") (((0 : Fin 3) : Nat) : Int) 5) (Str.ofString "\r\n") 400 0 0 false).map (Txt.join (Str.ofString "")) = some (lettC (Str.ofString "=")) := by
  decide +kernel
theorem crlf_1_1 : (subTo nlCode (letterTo (Str.ofString "=") (((1 : Fin 3) : Nat) : Int) 5) (Str.ofString "\r\n") 400 0 0 false).map (Txt.join (Str.ofString "")) = some (lettC (Str.ofString "=")) := by
  decide +kernel
theorem crlf_1_2 : (subTo nlCode (letterTo (Str.ofString "=") (((2 : Fin 3) : Nat) : Int) 5) (Str.ofString "\r\n") 400 0 0 false).map (Txt.join (Str.ofString "")) = some (lettC (Str.ofString "=")) := by
  decide +kernel
theorem dots_1 : (subTo dotCode (lettC (Str.ofString "=")) (Str.ofString "..") 400 0 0 false).map (Txt.join (Str.ofString "")) = some (quotedOf (Str.ofString "=")) := by
  decide +kernel
theorem crlf_2_0 : (subTo nlCode (letterTo (Str.ofString "*") (((0 : Fin 3) : Nat) : Int) 5) (Str.ofString "\r\n") 400 0 0 false).map (Txt.join (Str.ofString "")) = some (lettC (Str.ofString "*")) := by
  decide +kernel
theorem crlf_2_1 : (subTo nlCode (letterTo (Str.ofString "*") (((1 : Fin 3) : Nat) : Int) 5) (Str.ofString "\r\n") 400 0 0 false).map (Txt.join (Str.ofString "")) = some (lettC (Str.ofString "*")) := by
  decide +kernel
theorem crlf_2_2 : (subTo nlCode (letterTo (Str.ofString "*") (((2 : Fin 3) : Nat) : Int) 5) (Str.ofString "\r\n") 400 0 0 false).map (Txt.join (Str.ofString "")) = some (lettC (Str.ofString "*")) := by
  decide +kernel
theorem dots_2 : (subTo dotCode (lettC (Str.ofString "*")) (Str.ofString "..") 400 0 0 false).map (Txt.join (Str.ofString "")) = some (quotedOf (Str.ofString "*")) := by
  decide +kernel
theorem crlf_3_0 : (subTo nlCode (letterTo (Str.ofString "/") (((0 : Fin 3) : Nat) : Int) 5) (Str.ofString "\r\n") 400 0 0 false).map (Txt.join (Str.ofString "")) = some (lettC (Str.ofString "/")) := by
  decide +kernel
theorem crlf_3_1 : (subTo nlCode (letterTo (Str.ofString "/") (((1 : Fin 3) : Nat) : Int) 5) (Str.ofString "\r\n") 400 0 0 false).map (Txt.join (Str.ofString "")) = some (lettC (Str.ofString "/")) := by
  decide +kernel
theorem crlf_3_2 : (subTo nlCode (letterTo (Str.ofString "/") (((2 : Fin 3) : Nat) : Int) 5) (Str.ofString "\r\n") 400 0 0 false).map (Txt.join (Str.ofString "")) = some (lettC (Str.ofString "/")) := by
  decide +kernel
theorem dots_3 : (subTo dotCode (lettC (Str.ofString "/")) (Str.ofString "..") 400 0 0 false).map (Txt.join (Str.ofString "")) = some (quotedOf (Str.ofString "/")) := by
  decide +kernel
theorem crlf_4_0 : (subTo nlCode (letterTo (Str.ofString "<") (((0 : Fin 3) : Nat) : Int) 5) (Str.ofString "\r\n") 400 0 0 false).map (Txt.join (Str.ofString "")) = some (lettC (Str.ofString "<")) := by
  decide +kernel
theorem crlf_4_1 : (subTo nlCode (letterTo (Str.ofString "<") (((1 : Fin 3) : Nat) : Int) 5) (Str.ofString "\r\n") 400 0 0 false).map (Txt.join (Str.ofString "")) = some (lettC (Str.ofString "<")) := by
  decide +kernel
theorem crlf_4_2 : (subTo nlCode (letterTo (Str.ofString "<") (((2 : Fin 3) : Nat) : Int) 5) (Str.ofString "\r\n") 400 0 0 false).map (Txt.join (Str.ofString "")) = some (lettC (Str.ofString "<")) := by
  decide +kernel
theorem dots_4 : (subTo dotCode (lettC (Str.ofString "<")) (Str.ofString "..") 400 0 0 false).map (Txt.join (Str.ofString "")) = some (quotedOf (Str.ofString "<")) := by
  decide +kernel
theorem crlf_5_0 : (subTo nlCode (letterTo (Str.ofString ">") (((0 : Fin 3) : Nat) : Int) 5) (Str.ofString "\r\n") 400 0 0 false).map (Txt.join (Str.ofString "")) = some (lettC (Str.ofString ">")) := by
  decide +kernel
theorem crlf_5_1 : (subTo nlCode (letterTo (Str.ofString ">") (((1 : Fin 3) : Nat) : Int) 5) (Str.ofString "\r\n") 400 0 0 false).map (Txt.join (Str.ofString "")) = some (lettC (Str.ofString ">")) := by
  decide +kernel
theorem crlf_5_2 : (subTo nlCode (letterTo (Str.ofString ">") (((2 : Fin 3) : Nat) : Int) 5) (Str.ofString "\r\n") 400 0 0 false).map (Txt.join (Str.ofString "")) = some (lettC (Str.ofString ">")) := by
  decide +kernel
theorem dots_5 : (subTo dotCode (lettC (Str.ofString ">")) (Str.ofString "..") 400 0 0 false).map (Txt.join (Str.ofString "")) = some (quotedOf (Str.ofString ">")) := by
  decide +kernel
theorem crlf_ok : ∀ sg ∈ signs6, ∀ st : Fin 3, (subTo nlCode (letterTo sg (st : Nat) 5) (Str.ofString "\r\n") 400 0 0 false).map (Txt.join (Str.ofString "")) = some (lettC sg) := by
  intro sg hsg st
  simp only [signs6, List.mem_cons, List.not_mem_nil, or_false] at hsg
  rcases hsg with rfl | rfl | rfl | rfl | rfl | rfl
  · exact match st with
      | 0 => crlf_0_0
      | 1 => crlf_0_1
      | 2 => crlf_0_2
  · exact match st with
      | 0 => crlf_1_0
      | 1 => crlf_1_1
      | 2 => crlf_1_2
  · exact match st with
      | 0 => crlf_2_0
      | 1 => crlf_2_1
      | 2 => crlf_2_2
  · exact match st with
      | 0 => crlf_3_0
      | 1 => crlf_3_1
      | 2 => crlf_3_2
  · exact match st with
      | 0 => crlf_4_0
      | 1 => crlf_4_1
      | 2 => crlf_4_2
  · exact match st with
      | 0 => crlf_5_0
      | 1 => crlf_5_1
      | 2 => crlf_5_2
theorem dots_ok : ∀ sg ∈ signs6, (subTo dotCode (lettC sg) (Str.ofString "..") 400 0 0 false).map (Txt.join (Str.ofString "")) = some (quotedOf sg) := by
  intro sg hsg
  simp only [signs6, List.mem_cons, List.not_mem_nil, or_false] at hsg
  rcases hsg with rfl | rfl | rfl | rfl | rfl | rfl
  · exact dots_0
  · exact dots_1
  · exact dots_2
  · exact dots_3
  · exact dots_4
  · exact dots_5
end

/-! Quo -/
section
theorem lett_len : ∀ sg ∈ signs6, ∀ st : Fin 3, (letterTo sg (st : Nat) 5).length ≤ 200 := by decide +kernel
theorem lettC_len : ∀ sg ∈ signs6, (lettC sg).length ≤ 200 := by decide +kernel
theorem pat36 : (PySem.Challenge.rw_us0007_01.Holds → True) → ∀ {w : World}, ∃ o oc fs its n, (hp w.params).lookup 36 = some o ∧ (hp w.params).lookup 35 = some oc ∧ o.cls = .type "re.Pattern" ∧ o.dict = none ∧ o.data = .fields fs ∧ oc.data = .seq its n ∧ fs.getD 5 .none = .ref 35 ∧ Builtin.Re.reRawNat (fs.getD 6 .none) = 0 ∧ Builtin.Re.reRawNat (fs.getD 2 .none) = 0 ∧ codeOf its = dotCode := by
  k_fill
  intro _ w
  refine ⟨_, _, _, _, _, by k_is, by k_is, rfl, rfl, rfl, rfl, rfl, rfl, rfl, ?_⟩
  decide +kernel
theorem pat41 : (PySem.Challenge.rw_us0007_01.Holds → True) → ∀ {w : World}, ∃ o oc fs its n, (hp w.params).lookup 41 = some o ∧ (hp w.params).lookup 40 = some oc ∧ o.cls = .type "re.Pattern" ∧ o.dict = none ∧ o.data = .fields fs ∧ oc.data = .seq its n ∧ fs.getD 5 .none = .ref 40 ∧ Builtin.Re.reRawNat (fs.getD 6 .none) = 0 ∧ Builtin.Re.reRawNat (fs.getD 2 .none) = 0 ∧ codeOf its = nlCode := by
  k_fill
  intro _ w
  refine ⟨_, _, _, _, _, by k_is, by k_is, rfl, rfl, rfl, rfl, rfl, rfl, rfl, ?_⟩
  decide +kernel
section
local macro_rules | `(tactic| walk_at "getMethod ref") => `(tactic| refine Stop.mk' ?_)
local macro_rules | `(tactic| walk_at "call builtin:re.Pattern.sub") => `(tactic| refine Stop.mk' ?_)
theorem quote_ok : (PySem.Challenge.rw_us0007_01.Holds → True) → ∀ {w : World} {s : Shared} {dp un : Nat} {fr : Option (List Env)} {gd : Option (List Code)} {mean : ExcName → Option Value} {mg mb : VMap} (_X : (hp w.params).In s.heap) (_T : Top vw lz mean mg mb s.heap)
   (_hdp : dp ≤ 920) {sg : Str} {st : Int} {t : Tok} (_hs : sg ∈ signs6) (_h0 : 0 ≤ st) (_h2 : st ≤ 2)
   {Q E : Value → Shared → Prop} (_ret : ∀ h' tk tt, s.heap.StaysIn h' → Q (.str (quotedOf sg) tt) { s with heap := h', toks := tk }),
   wpAny (model prg w) (Ar dp un fr gd) (call (.ref 48) [.str (letterTo sg st 5) t] []) Q E s := by
  k_fill
  intro _h w s dp un fr gd mean mg mb X T hdp sg st t hs h0 h2 Q E ret
  walk_at "m enter"
  intro L' h₁ F N
  (try dsimp only)
  k_fold
  k_steps
  unfold Stop
  obtain ⟨o1, oc1, fs1, its1, n1, l36, l35, a1, a2, a3, a4, a5, a6, a7, a8⟩ := pat36 (fun _ => trivial) (w := w)
  obtain ⟨o2, oc2, fs2, its2, n2, l41, l40, b1, b2, b3, b4, b5, b6, b7, b8⟩ := pat41 (fun _ => trivial) (w := w)
  have X1 := X.keeps F.keep
  have P1 : PatAt _ 36 35 o1 oc1 fs1 its1 n1 := ⟨X1 _ _ l36, X1 _ _ l35, a1, a2, a3, a4, a5, a6⟩
  refine getMethod_builtin ⟨o1, P1.p, a1⟩ plainAttrs_pat slot_pat_sub type_pat_sub (fun a e => by cases e; exact ⟨o1, P1.p, a2⟩) ?_
  k_steps
  unfold Stop
  rename (Fr s.heap L' _ _) => F2
  have X2 := X.keeps F2.keep
  have P2 : PatAt _ 41 40 o2 oc2 fs2 its2 n2 := ⟨X2 _ _ l41, X2 _ _ l40, b1, b2, b3, b4, b5, b6⟩
  refine getMethod_builtin ⟨o2, P2.p, b1⟩ plainAttrs_pat slot_pat_sub type_pat_sub (fun a e => by cases e; exact ⟨o2, P2.p, b2⟩) ?_
  k_steps
  unfold Stop
  rename (Fr s.heap L' _ _) => F3
  have X3 := X.keeps F3.keep
  obtain ⟨kk, rfl⟩ : ∃ k : Fin 3, st = ((k : Nat) : Int) := ⟨⟨st.toNat, by omega⟩, by show st = ((st.toNat : Nat) : Int); omega⟩
  obtain ⟨out, hout, hjoin⟩ := Option.map_eq_some_iff.mp (crlf_ok sg hs kk)
  obtain ⟨out2, hout2, hjoin2⟩ := Option.map_eq_some_iff.mp (dots_ok sg hs)
  refine sub_ok ⟨X3 _ _ l41, X3 _ _ l40, b1, b2, b3, b4, b5, b6⟩ b7 (lett_len sg hs kk) (by decide) (by decide +kernel) (by rw [b8]; exact hout) ?_
  rw [hjoin]
  intro h4 tk4 tt4 hk4
  have F4 := Fr_stays F3 hk4
  k_steps
  unfold Stop
  rename (Fr s.heap L' _ _) => F5
  have X5 := X.keeps F5.keep
  refine sub_ok ⟨X5 _ _ l36, X5 _ _ l35, a1, a2, a3, a4, a5, a6⟩ a7 (lettC_len sg hs) (by decide) (by decide +kernel) (by rw [a8]; exact hout2) ?_
  rw [hjoin2]
  intro h6 tk6 tt6 hk6
  have F6 := Fr_stays F5 hk6
  k_steps
  show Q (.str _ _) _
  exact ret _ _ _ F6.keep
end
end

/-! Tab -/
section
def tab12 : List (Str × Int) := [(Str.ofString ".", 23), (Str.ofString "...", 52), (Str.ofString "=", 22), (Str.ofString "==", 27), (Str.ofString "*", 16), (Str.ofString "**", 35), (Str.ofString "/", 17), (Str.ofString "//", 47), (Str.ofString "<", 20), (Str.ofString "<<", 33), (Str.ofString ">", 21), (Str.ofString ">>", 34)]
def tabV (y : Str) : Option Int := tab12.lookup y
def strs18 : List Str := [Str.ofString ".", Str.ofString "..", Str.ofString "...", Str.ofString "=", Str.ofString "==", Str.ofString "===", Str.ofString "*", Str.ofString "**", Str.ofString "***", Str.ofString "/", Str.ofString "//", Str.ofString "///", Str.ofString "<", Str.ofString "<<", Str.ofString "<<<", Str.ofString ">", Str.ofString ">>", Str.ofString ">>>"]
theorem tab_any : (PySem.Challenge.rw_us0007_01.Holds → True) → ∀ {w : World}, ∃ es n, (hp w.params).lookup 75 = some ⟨.type "dict", none, .dict es n, #[]⟩ ∧ KeysLit w.params es.toList ∧
    ∀ y ∈ strs18, ∃ r, nsIn (hp w.params) 75 y = some r ∧ (tabV y = none ∧ r = none ∨ ∃ v t, tabV y = some v ∧ r = some (.int v t)) := by
  k_fill
  intro _ w
  refine ⟨_, _, by k_is, by k_keys, ?_⟩
  intro y hy
  simp only [strs18, List.mem_cons, List.not_mem_nil, or_false] at hy
  rcases hy with rfl | rfl | rfl | rfl | rfl | rfl | rfl | rfl | rfl | rfl | rfl | rfl | rfl | rfl | rfl | rfl | rfl | rfl
  all_goals first
    | exact ⟨_, by k_is, .inr ⟨_, _, by decide +kernel, rfl⟩⟩
    | exact ⟨_, by k_is, .inl ⟨by decide +kernel, rfl⟩⟩
section
variable {w : World} {A : Around} {s : Shared} {E : Value → Shared → Prop} {h₀ : Heap} {L : Addr} {m : VMap}
theorem notin_tab (hh : PySem.Challenge.rw_us0007_01.Holds → True) {y : Str} {t : Tok} {Q : Value → Shared → Prop} (X₀ : (hp w.params).In h₀) (F : Fr h₀ L s.heap m) (hy : y ∈ strs18) (h : Q (.bool (tabV y).isNone) { s with toks := s.toks + 1 }) :
    wpAny (model prg w) A (compareOp .NotIn (.str y t) (.ref 75)) Q E s := by
  obtain ⟨es, n, hl, hk, hall⟩ := tab_any hh (w := w)
  obtain ⟨r, e, hr⟩ := hall y hy
  refine wpAny_notIn_of (strKind_is prg w y t) (by decide) (mapOf_K (prog := prg) (X₀.keeps F.keep) hl hk) ?_
  rw [find_K hl e]
  rcases hr with ⟨h1, rfl⟩ | ⟨v, t', h1, rfl⟩
  · rw [h1] at h; exact h
  · rw [h1] at h; exact h
theorem get_tab (hh : PySem.Challenge.rw_us0007_01.Holds → True) {y : Str} {t : Tok} {v : Int} {Q : Value → Shared → Prop} {value slice : PySem.Expr} (X₀ : (hp w.params).In h₀) (F : Fr h₀ L s.heap m) (hy : y ∈ strs18) (hv : tabV y = some v) (h : ∀ t, Q (.int v t) { s with toks := s.toks + 1 })
    (hs : subscripted slice false (.ref 75) (.str y t) = operate [.ref 75, .str y t] (getItem (.ref 75) (.str y t))) :
    wpAny (model prg w) A (subscriptTail value slice (.ref 75) (.str y t)) Q E s := by
  obtain ⟨es, n, hl, hk, hall⟩ := tab_any hh (w := w)
  obtain ⟨r, e, hr⟩ := hall y hy
  rcases hr with ⟨h1, rfl⟩ | ⟨v', t', h1, rfl⟩
  · rw [hv] at h1; cases h1
  · rw [hv] at h1; cases h1
    exact topItem_K F X₀ hl hk e (h t') hs
end
end

/-! Lone -/
section
def slOf (row : Str) (p q : Int) : Str := Txt.slice row (some p) (some q)
def takeAt (row : Str) (p : Int) : Int := if (tabV (slOf row p (p + 3))).isSome then 3 else if (tabV (slOf row p (p + 2))).isSome then 2 else 1
noncomputable def loneFrom : Nat → Str → Str → Int → Int → Option Int
  | 0, _, _, _, _ => none
  | k + 1, row, sg, p, lo => if p < (row.length : Int) then
      if slOf row p (p + 3) ∈ strs18 ∧ slOf row p (p + 2) ∈ strs18 ∧ slOf row p (p + 1) ∈ strs18 ∧ (tabV (slOf row p (p + takeAt row p))).isSome = true then
        loneFrom k row sg (p + takeAt row p) (if tabV (slOf row p (p + takeAt row p)) = tabV sg then lo + 1 else lo)
      else none
    else some lo
theorem sign_tab : ∀ sg ∈ signs6, sg ∈ strs18 ∧ ∃ v, tabV sg = some v := by
  have h : ∀ sg ∈ signs6, sg ∈ strs18 ∧ (tabV sg).isSome = true := by decide +kernel
  exact fun sg hs => ⟨(h sg hs).1, Option.isSome_iff_exists.mp (h sg hs).2⟩
section
local macro_rules | `(tactic| walk_at "subscriptTail Name Slice str ref") => `(tactic| refine Stop.mk' ?_)
local macro_rules | `(tactic| walk_at "subscriptTail Name Subscript ref str") => `(tactic| refine Stop.mk' ?_)
local macro_rules | `(tactic| walk_at "subscriptTail Name Name ref str") => `(tactic| refine Stop.mk' ?_)
local macro_rules | `(tactic| walk_at "Exists") => `(tactic| refine Stop.mk' ?_)
local macro_rules | `(tactic| walk_at "compareOp NotIn str ref") => `(tactic| refine Stop.mk' ?_)
local macro_rules | `(tactic| walk_at "compareOp In str ref") => `(tactic| refine Stop.mk' ?_)
local macro_rules | `(tactic| walk_at "exec While BoolOp cons cons") => `(tactic| refine Stop.mk' ?_)
theorem lone_ok : (PySem.Challenge.rw_us0007_01.Holds → True) → ∀ {w : World} {s : Shared} {dp un : Nat} {fr : Option (List Env)} {gd : Option (List Code)} {mean : ExcName → Option Value} {mg mb : VMap} (_X : (hp w.params).In s.heap) (_T : Top vw lz mean mg mb s.heap)
   (_hdp : dp ≤ 920) {sg row : Str} {tr t2 : Tok} (_hs : sg ∈ signs6) (_hrl : row.length ≤ 8) {R : Int} (_hR : loneFrom 20 row sg 0 0 = some R)
   {Q E : Value → Shared → Prop} (_ret : ∀ h' tk tt, s.heap.StaysIn h' → Q (.int R tt) { s with heap := h', toks := tk }),
   wpAny (model prg w) (Ar dp un fr gd) (call (.ref 112) [.str row tr, .str sg t2] []) Q E s := by
  k_fill
  intro _h w s dp un fr gd mean mg mb X T hdp sg row tr t2 hs hrl R hR Q E ret
  walk_at "m enter"
  intro L' h₁ F N
  (try dsimp only)
  k_fold
  k_steps
  unfold Stop
  obtain ⟨sgt, sv, hsv⟩ := sign_tab sg hs
  refine while_any (fun k s' => ∃ h tk m, ∃ (p lo : Int), ∃ t1 t3, s' = { s with heap := h, toks := tk } ∧ Fr s.heap L' h m ∧ m (Str.ofString "row") = some (.str row tr) ∧ m (Str.ofString "sign") = some (.str sg t2) ∧ m (Str.ofString "place") = some (.int p t1) ∧ m (Str.ofString "lone") = some (.int lo t3) ∧ 0 ≤ p ∧ loneFrom k row sg p lo = some R) ?_ 20 ?_
  · rintro k _ ⟨h, tk, m, p, lo, t1, t3, rfl, F, m1, m2, m3, m4, h0, hk⟩
    have N : News s.heap L' h [] := News.nil
    obtain ⟨k, rfl⟩ : ∃ k', k = k' + 1 := by
      cases k with
      | zero => exact absurd hk (by simp [loneFrom])
      | succ k => exact ⟨k, rfl⟩
    unfold loneFrom at hk
    k_steps
    · unfold Stop
      rw [if_pos (by assumption)] at hk
      by_cases hok : slOf row p (p + 3) ∈ strs18 ∧ slOf row p (p + 2) ∈ strs18 ∧ slOf row p (p + 1) ∈ strs18 ∧ (tabV (slOf row p (p + takeAt row p))).isSome = true
      · rw [if_pos hok] at hk
        obtain ⟨y3, y2, y1, yt⟩ := hok
        refine while_any (fun k s' => ∃ h tk m, ∃ (tk3 : Int), ∃ t4, s' = { s with heap := h, toks := tk } ∧ Fr s.heap L' h m ∧ m (Str.ofString "row") = some (.str row tr) ∧ m (Str.ofString "sign") = some (.str sg t2) ∧ m (Str.ofString "place") = some (.int p t1) ∧ m (Str.ofString "lone") = some (.int lo t3) ∧ m (Str.ofString "take") = some (.int tk3 t4)
          ∧ (tk3 = 3 ∨ tk3 = 2 ∧ tabV (slOf row p (p + 3)) = none ∨ tk3 = 1 ∧ tabV (slOf row p (p + 3)) = none ∧ tabV (slOf row p (p + 2)) = none) ∧ k = tk3.toNat) ?_ 3 ?_
        · rintro _ _ ⟨h, tk, m, take, t4, rfl, F, m1, m2, m3, m4, m5, hJ, rfl⟩
          have N : News s.heap L' h [] := News.nil
          have yk : slOf row p (p + take) ∈ strs18 := by
            rcases hJ with rfl | ⟨rfl, _⟩ | ⟨rfl, _⟩
            · exact y3
            · exact y2
            · exact y1
          k_steps
          · unfold Stop
            refine slice_strN_ss (by assumption) (by assumption) (fun h5 t5 k5 F5 N5 => ?_) (hsz := by rw [sizeLine_eq]; omega)
            k_steps
            unfold Stop
            refine notin_tab (fun _ => trivial) X (by assumption) yk ?_
            cases hv : tabV (Txt.slice row (some p) (some (p + take))) with
            | none =>
              rw [Option.isNone_none]
              k_steps
              unfold Stop
              refine ⟨(take - 1).toNat, by omega, _, _, _, take - 1, _, rfl, by assumption, by walk_at "m look", by walk_at "m look", by walk_at "m look", by walk_at "m look", by walk_at "m look", ?_, rfl⟩
              rcases hJ with rfl | ⟨rfl, h3⟩ | ⟨rfl, h3, h2⟩
              · exact .inr (.inl ⟨rfl, hv⟩)
              · exact .inr (.inr ⟨rfl, h3, hv⟩)
              · omega
            | some v =>
              rw [Option.isNone_some]
              have hv : tabV (slOf row p (p + take)) = some v := hv
              have ht : takeAt row p = take := by
                unfold takeAt
                rcases hJ with rfl | ⟨rfl, h3⟩ | ⟨rfl, h3, h2⟩
                · rw [hv]; rfl
                · rw [h3, hv]; rfl
                · rw [h3, h2]; rfl
              rw [ht] at hk yt
              k_steps
              unfold Stop
              have hvt := hv
              refine slice_strN_ss (by assumption) (by assumption) (fun h7 t7 k7 F7 N7 => ?_) (hsz := by rw [sizeLine_eq]; omega)
              k_steps
              unfold Stop
              refine get_tab (fun _ => trivial) X (by assumption) yk hvt (fun t8 => ?_) (by with_unfolding_all rfl)
              k_steps
              unfold Stop
              refine get_tab (fun _ => trivial) X (by assumption) sgt hsv (fun t9 => ?_) (by with_unfolding_all rfl)
              rw [hvt, hsv] at hk
              k_steps
              · have e : v = sv := by assumption
                rw [if_pos (congrArg some e)] at hk
                exact Exists.intro k ⟨Nat.lt_succ_self _, _, _, _, p + take, lo + 1, _, _, rfl, by assumption, by walk_at "m look", by walk_at "m look", by walk_at "m look", by walk_at "m look", by omega, hk⟩
              · have e : v ≠ sv := by assumption
                rw [if_neg (fun q => e (Option.some.inj q))] at hk
                exact Exists.intro k ⟨Nat.lt_succ_self _, _, _, _, p + take, lo, _, _, rfl, by assumption, by walk_at "m look", by walk_at "m look", by walk_at "m look", by walk_at "m look", by omega, hk⟩
          · have ht : takeAt row p = take := by
              unfold takeAt
              rcases hJ with rfl | ⟨rfl, h3⟩ | ⟨rfl, h3, h2⟩
              · omega
              · omega
              · rw [h3, h2]; rfl
            rw [ht] at hk yt
            unfold Stop
            obtain ⟨v, hvt⟩ := Option.isSome_iff_exists.mp yt
            refine slice_strN_ss (by assumption) (by assumption) (fun h7 t7 k7 F7 N7 => ?_) (hsz := by rw [sizeLine_eq]; omega)
            k_steps
            unfold Stop
            refine get_tab (fun _ => trivial) X (by assumption) yk hvt (fun t8 => ?_) (by with_unfolding_all rfl)
            k_steps
            unfold Stop
            refine get_tab (fun _ => trivial) X (by assumption) sgt hsv (fun t9 => ?_) (by with_unfolding_all rfl)
            rw [hvt, hsv] at hk
            k_steps
            · have e : v = sv := by assumption
              rw [if_pos (congrArg some e)] at hk
              exact Exists.intro k ⟨Nat.lt_succ_self _, _, _, _, p + take, lo + 1, _, _, rfl, by assumption, by walk_at "m look", by walk_at "m look", by walk_at "m look", by walk_at "m look", by omega, hk⟩
            · have e : v ≠ sv := by assumption
              rw [if_neg (fun q => e (Option.some.inj q))] at hk
              exact Exists.intro k ⟨Nat.lt_succ_self _, _, _, _, p + take, lo, _, _, rfl, by assumption, by walk_at "m look", by walk_at "m look", by walk_at "m look", by walk_at "m look", by omega, hk⟩
        · exact ⟨_, _, _, 3, _, rfl, by assumption, by walk_at "m look", by walk_at "m look", by walk_at "m look", by walk_at "m look", by walk_at "m look", .inl rfl, rfl⟩
      · rw [if_neg hok] at hk; cases hk
    · rw [if_neg (by omega)] at hk
      cases hk
      show Q (.int _ _) _
      exact ret _ _ _ (Fr.keep (by assumption))
  · exact ⟨_, _, _, 0, 0, _, _, rfl, by assumption, by walk_at "m look", by walk_at "m look", by walk_at "m look", by walk_at "m look", Int.le_refl _, hR⟩
end
end

/-! Streq -/
section
section
theorem readsAll_of_strs {h : Heap} : ∀ {vs : List Value} {ys : List Str}, StrsAre vs ys → ReadsAll h vs (ys.map PyData.str) []
  | _, _, .nil => .nil
  | _, _, .cons y t r => by
    have := ReadsAll.cons (Reads.str (h := h) y t) (readsAll_of_strs (h := h) r)
    simpa using this
theorem reads_of_strs {h : Heap} {a : Addr} {vs : List Value} {ys : List Str} (hl : h.IsList a vs.toArray) (hi : StrsAre vs ys) : Reads h (.ref a) (.list (ys.map PyData.str)) [a] := by
  obtain ⟨o, ho, hc, n, hd⟩ := hl
  exact Reads.list ho hc hd (by simpa using readsAll_of_strs hi)
theorem canLayAll0_strs : ∀ ys : List Str, (∀ y ∈ ys, PyData.strOk y = true) → PyData.canLayAll0 (ys.map PyData.str) = true
  | [], _ => by simp [PyData.canLayAll0]
  | n :: r, h => by simp [PyData.canLayAll0, PyData.canLay0, h n (.head _), canLayAll0_strs r fun y hy => h y (.tail _ hy)]
theorem depthAll_strs : ∀ ys : List Str, PyData.depthAll (ys.map PyData.str) ≤ 1
  | [] => by simp [PyData.depthAll]
  | n :: r => by
    have := depthAll_strs r
    simp only [List.map_cons, PyData.depthAll, PyData.depth]
    omega
theorem shaped_strs (ys : List Str) (h : ∀ y ∈ ys, PyData.strOk y = true) : PySem.SeqAt.shaped (.list (ys.map PyData.str)) = true := by
  have h1 := depthAll_strs ys
  have h2 : PyData.depth (.list (ys.map PyData.str)) ≤ 64 := by simp only [PyData.depth]; omega
  show (PyData.canLay0 (.list (ys.map PyData.str)) && decide (PyData.depth (.list (ys.map PyData.str)) ≤ 64)) = true
  rw [Bool.and_eq_true]
  exact ⟨by simp only [PyData.canLay0]; exact canLayAll0_strs ys h, decide_eq_true h2⟩
theorem noMix_strs : ∀ ns ms : List Str, PySem.SeqAt.noMixAll (ns.map PyData.str) (ms.map PyData.str) = true
  | [], [] => by simp [PySem.SeqAt.noMixAll]
  | [], _ :: _ => by simp [PySem.SeqAt.noMixAll]
  | _ :: _, [] => by simp [PySem.SeqAt.noMixAll]
  | _ :: r, _ :: q => by simp [PySem.SeqAt.noMixAll, PySem.SeqAt.noMix, noMix_strs r q]
theorem same_strs : ∀ ns : List Str, PySem.Spec.sameAll (ns.map PyData.str) (ns.map PyData.str) = true
  | [] => by simp [PySem.Spec.sameAll]
  | n :: r => by
    simp only [List.map_cons, PySem.Spec.sameAll, PySem.Spec.same, same_strs r]
    simp
theorem ne_strs {prog : Program} {w : World} {A : Around} {E : Value → Shared → Prop} {s : Shared} {a b : Addr} {vs us : List Value} {ys : List Str} {Q : Value → Shared → Prop} (hl : s.heap.IsList a vs.toArray) (hi : StrsAre vs ys) (hl' : s.heap.IsList b us.toArray) (hi' : StrsAre us ys)
    (hy : ∀ y ∈ ys, PyData.strOk y = true) (hu : A.units + 64 < cLine) (h : Q (.bool false) s) : wpAny (model prog w) A (compareOp .NotEq (.ref a) (.ref b)) Q E s :=
  ne_dataH_same (reads_of_strs hl hi) (reads_of_strs hl' hi') (shaped_strs ys hy) (shaped_strs ys hy) hu (by simp only [PySem.SeqAt.noMix]; exact noMix_strs ys ys) (by simp only [PySem.Spec.same]; rw [same_strs]; exact h)
end
end

/-! Leval -/
section
def rows6 (sg : Str) : List Str := [rowOf sg 0, rowOf sg 1, rowOf sg 2, rowOf sg 3, rowOf sg 4, Str.ofString ""]
def mostOf (sg : Str) : Int := if sg = Str.ofString "." then 2 else 1
theorem lone_all : ∀ sg ∈ signs6, ∀ row ∈ rows6 sg, row.length ≤ 8 ∧ (loneFrom 20 row sg 0 0).isSome = true := by decide +kernel
theorem lone_row : ∀ sg ∈ signs6, (rows6 sg).map (fun row => (loneFrom 20 row sg 0 0).getD 9) = loneOf (mostOf sg) := by decide +kernel
theorem split_row : ∀ sg ∈ signs6, Txt.split (quotedOf sg) (Str.ofString "\r\n") = rows6 sg := by decide +kernel
theorem mul_row : ∀ sg ∈ signs6, (rows6 sg).map (fun row => Txt.mul sg (row.length : Nat)) = rows6 sg := by decide +kernel
theorem rows_ok : ∀ sg ∈ signs6, ∀ row ∈ rows6 sg, PyData.strOk row = true := by decide +kernel
end

/-! Main -/
section
theorem list4 {l : List Int} (h : l.length = 4) : l = [l.getD 0 0, l.getD 1 0, l.getD 2 0, l.getD 3 0] := by
  match l, h with
  | [a, b, c, d], _ => rfl
theorem sign_len : ∀ sg ∈ signs6, sg.length = 1 := by decide +kernel
theorem sign_item : ∀ k : Fin 5, Txt.item (Str.ofString "=*/<>") ((k : Nat) : Int) ∈ signs6 ∧ mostOf (Txt.item (Str.ofString "=*/<>") ((k : Nat) : Int)) = 1 := by decide +kernel
theorem quoted_len : ∀ sg ∈ signs6, (quotedOf sg).length ≤ 100 := by decide +kernel
section
local macro_rules | `(tactic| walk_at "eval Name") => `(tactic| (k_here; (with_reducible show wpAny _ _ (eval (Expr.Name _ _) (compEnvC _ _ _ _)) _ _ _); k_dflt (refine' name_cc ?N ?c ?m ?d ?_ ?k ?x; (case N => k_asm); (case k => exact rfl); (case x => exact rfl); (case c => exact rfl); (case m => k_mem); (case d => k_asm); k_whole)))
local macro_rules | `(tactic| walk_at "call builtin:str.split") => `(tactic| refine Stop.mk' ?_)
local macro_rules | `(tactic| walk_at "CompSrc") => `(tactic| refine Stop.mk' ?_)
local macro_rules | `(tactic| walk_at "CompSrcT") => `(tactic| refine Stop.mk' ?_)
local macro_rules | `(tactic| walk_at "eval ListComp") => `(tactic| refine Stop.mk' ?_)
local macro_rules | `(tactic| walk_at "exec Assign cons ListComp") => `(tactic| refine Stop.mk' ?_)
local macro_rules | `(tactic| walk_at "subscriptTail Name Slice ref ref") => `(tactic| refine Stop.mk' ?_)
local macro_rules | `(tactic| walk_at "compareOp NotEq ref ref") => `(tactic| refine Stop.mk' ?_)
local macro_rules | `(tactic| walk_at "call ref") => `(tactic| refine Stop.mk' ?_)
theorem law_ok : PySem.Challenge.rw_us0007_01.Holds := by
  w_on
  refine holds_law said0 fun said => ?_
  refine holds_open (q := vw) (loose := lsn) (Xt := fun s => xlAt vw [] s && recOk [] s) (XP := XL vw []) (Yf := Hook.obs (kHook hp hpAs hke)) (Ya := Hook.val (kHook hp hpAs hke)) (YP := Hook.says (kHook hp hpAs hke)) (N := 4598) top_left (Hook.of _) (Hook.keeps _) (fun s e => xl_of s (Bool.and_eq_true_iff.mp e).1) XL.keeps (by rfl) (by rfl) (by rfl) (fun s e => recFacts_of (Bool.and_eq_true_iff.mp e).2) (by rfl) said (by decide +kernel) ⟨rfl, rfl, rfl, rfl, rfl, by decide +kernel⟩ ?hw ?hc
  case hw => w_witness2
  clear said
  k_go0; (all_goals try k_fold)
  (try dsimp only)
  rename (Frag.In _ _) => KX
  rename (Top _ _ _ _ _ _) => TT
  rename (IntsAre _ _) => hIs
  rename (Heap.IsList _ _ _) => hLs
  rename (¬ _ < _) => hcnd
  rename (Fr _ _ _ _) => F0
  k_steps
  unfold Stop
  rename (Fr _ _ _ _) => F1
  rename (News _ _ _ _) => N1
  refine drawn_ok (fun _ => trivial) (KX.keeps F1.keep) (TT.keeps F1.keep) (by decide) (Fr.lst F1 hLs) hIs (by rw [sizeLine_eq]; omega) ?_
  intro da h2 tk2 dv ds dk hk2 hf2 hg2 hD hd4 hdr
  have F2 := Fr_stays F1 hk2
  have N2 := News_add F1 N1 hk2 hf2 hg2
  k_steps
  all_goals first
    | (
      rename (1 + Int.fmod _ _ = 2) => hmo
      generalize hd0 : ds.getD (Int.toNat 0) 0 = d0 at *
      have hs6 : Str.ofString "." ∈ signs6 := by decide +kernel
      have hmost : 1 + d0.fmod 2 = mostOf (Str.ofString ".") := hmo.trans (by decide +kernel)
      generalize hsg : Str.ofString "." = sg at *)
    | (
      rename (1 + Int.fmod _ _ ≠ 2) => hmo
      generalize hd0 : ds.getD (Int.toNat 0) 0 = d0 at *
      have f0 := Int.fmod_nonneg_of_pos (d0.fdiv 2) (show (0 : Int) < 5 by decide)
      have f1 := Int.fmod_lt_of_pos (d0.fdiv 2) (show (0 : Int) < 5 by decide)
      have f2 := Int.fmod_nonneg_of_pos d0 (show (0 : Int) < 2 by decide)
      have f3 := Int.fmod_lt_of_pos d0 (show (0 : Int) < 2 by decide)
      have hk5 := sign_item ⟨((d0.fdiv 2).fmod 5).toNat, by omega⟩
      have e5 : ((((d0.fdiv 2).fmod 5).toNat : Nat) : Int) = (d0.fdiv 2).fmod 5 := by omega
      simp only [e5] at hk5
      generalize hsg : Txt.item (Str.ofString "=*/<>") ((d0.fdiv 2).fmod 5) = sg at *
      have hs6 : sg ∈ signs6 := hk5.1
      have hmost : 1 + d0.fmod 2 = mostOf sg := by rw [hk5.2]; omega)
  all_goals unfold Stop
  all_goals (
    rename (Fr _ _ _ _) => F3
    rename (News _ _ _ _) => N3
    have st0 := Int.fmod_nonneg_of_pos (d0.fdiv 10) (show (0 : Int) < 3 by decide)
    have st1 := Int.fmod_lt_of_pos (d0.fdiv 10) (show (0 : Int) < 3 by decide)
    refine letter_ok (fun _ => trivial) (KX.keeps F3.keep) (TT.keeps F3.keep) (by decide) (sign_len sg hs6) st0 (by omega) ?_
    intro h4 tk4 tt4 hk4
    have F4 := Fr_stays F3 hk4
    have N4 := News_stays N3 hk4
    k_steps
    unfold Stop
    rename (Fr _ _ _ _) => F5
    rename (News _ _ _ _) => N5
    refine quote_ok (fun _ => trivial) (KX.keeps F5.keep) (TT.keeps F5.keep) (by decide) hs6 st0 (by omega) ?_
    intro h6 tk6 tt6 hk6
    have F6 := Fr_stays F5 hk6
    have N6 := News_stays N5 hk6
    k_steps
    unfold Stop
    rename (Fr _ _ _ _) => F7
    rename (News _ _ _ _) => N7
    refine KSpl.split1 F7 N7 (by decide) ?_ (by have := quoted_len sg hs6; rw [sizeLine_eq]; omega)
    intro ra rl h8 k8 e8 a8 F8 N8 l8
    rw [split_row sg hs6] at e8
    rw [e8] at a8
    generalize strValues rl = rv at *
    unfold rows6 at a8
    obtain ⟨u0, u1, u2, u3, u4, u5, rfl⟩ : ∃ u0 u1 u2 u3 u4 u5, rv = [.str (rowOf sg 0) u0, .str (rowOf sg 1) u1, .str (rowOf sg 2) u2, .str (rowOf sg 3) u3, .str (rowOf sg 4) u4, .str (Str.ofString "") u5] := by
      rcases a8 with _ | ⟨_, u0, _ | ⟨_, u1, _ | ⟨_, u2, _ | ⟨_, u3, _ | ⟨_, u4, _ | ⟨_, u5, _ | _⟩⟩⟩⟩⟩⟩
      exact ⟨_, _, _, _, _, _, rfl⟩
    have a8c : StrsAre [.str (rowOf sg 0) u0, .str (rowOf sg 1) u1, .str (rowOf sg 2) u2, .str (rowOf sg 3) u3, .str (rowOf sg 4) u4, .str (Str.ofString "") u5] (rows6 sg) := .cons _ _ (.cons _ _ (.cons _ _ (.cons _ _ (.cons _ _ (.cons _ _ .nil)))))
    k_steps
    unfold Stop
    rename (Fr _ _ _ _) => F9
    rename (News _ _ _ _) => N9
    refine kmk_slice_lit F9 N9 (News.isList N9 (.head _)) (IsPart.int _ _) IsPart.none (zs := [.str (Str.ofString "") u5]) (by rw [kmk_pick_nat _ (a := 5) (b := 6) (show sliceBounds (some 5) none none 6 = _ by decide)]; rfl) (fun D h10 F10 N10 l10 => ?_) (by with_unfolding_all rfl) (by intro _; with_unfolding_all rfl) (by show 6 ≤ sizeLine; decide)
    k_steps
    unfold Stop
    rename (Fr _ _ _ _) => F11
    rename (News _ _ _ _) => N11
    refine ne_strs (News.isList N11 (.tail _ (.head _))) (.cons _ _ .nil) (News.isList N11 (.head _)) (.cons _ _ .nil) (by decide +kernel) (by first | units_room | exact Nat.le_of_ble_eq_true rfl) ?_
    k_steps
    unfold Stop
    rename (Fr _ _ _ _) => F12
    rename (News _ _ _ _) => N12
    refine LCg.ListComp_U F12 rfl (by decide) rfl (by decide) rfl ?_
    k_steps
    unfold Stop
    refine LCg.CompSrc.ledger rfl F12 N12 (.tail _ (.tail _ (.head _))) (by show 6 ≤ sizeLine; decide) fun g => ?_
    refine comp_inv (n := 6) (fun i ys nw => nw = _ ∧ StrsAre ys (((rows6 sg).take i).map fun row => Txt.mul sg (row.length : Nat))) ?_ ?_ _ 0 [] _ rfl ⟨rfl, .nil⟩
    · rintro i v I oI C oC D9 m₂ h tk E' ys news hi' ⟨rfl, hW⟩ hP hC hx F4 N4 O ne
      have hrow : ∃ row t, v = .str row t ∧ (rows6 sg)[i]? = some row := by
        rcases (show i = 0 ∨ i = 1 ∨ i = 2 ∨ i = 3 ∨ i = 4 ∨ i = 5 by omega) with rfl | rfl | rfl | rfl | rfl | rfl
        all_goals (cases hP; exact ⟨_, _, rfl, rfl⟩)
      obtain ⟨row, tr, rfl, hrow⟩ := hrow
      have hrm : row ∈ rows6 sg := List.mem_of_getElem? hrow
      have hrl := (lone_all sg hs6 row hrm).1
      have hsl := sign_len sg hs6
      k_steps
      refine LCg.CompEnd.intro (by assumption) (by assumption) _ (fun p hp => hp) O (.inr ⟨_, .tail _ (.tail _ (.head _)), rfl, _, rfl⟩) ⟨rfl, ?_⟩
      rw [List.take_add_one, hrow, Option.toList_some, List.map_append, List.map_singleton]
      exact strs_snoc hW _ _
    · rintro yw nw ⟨rfl, hW⟩ wa h14 tk14 F14 N14 O14
      rw [show (rows6 sg).take 6 = rows6 sg from rfl, mul_row sg hs6] at hW
      refine ne_strs (News.isList N14 (.tail _ (.tail _ (.tail _ (.head _))))) a8c (News.isList N14 (.head _)) hW (rows_ok sg hs6) (by first | units_room | exact Nat.le_of_ble_eq_true rfl) ?_
      k_steps
      unfold Stop
      rename (Fr _ _ _ _) => F15
      rename (News _ _ _ _) => N15
      refine LCg.Assign_ListComp_U F15 rfl rfl rfl (by decide) rfl (by decide) rfl rfl rfl ?_
      k_steps
      unfold Stop
      refine LCg.CompSrc.ledger rfl F15 N15 (.tail _ (.tail _ (.tail _ (.head _)))) (by show 6 ≤ sizeLine; decide) fun g2 => ?_
      refine comp_inv (n := 6) (fun i ys nw => nw = _ ∧ IntsAre ys (((rows6 sg).take i).map fun row => (loneFrom 20 row sg 0 0).getD 9)) ?_ ?_ _ 0 [] _ rfl ⟨rfl, .nil⟩
      · rintro i v I oI C oC D9 m₂ h tk E' ys news hi' ⟨rfl, hW2⟩ hP hC hx F4 N4 O ne
        have hrow : ∃ row t, v = .str row t ∧ (rows6 sg)[i]? = some row := by
          rcases (show i = 0 ∨ i = 1 ∨ i = 2 ∨ i = 3 ∨ i = 4 ∨ i = 5 by omega) with rfl | rfl | rfl | rfl | rfl | rfl
          all_goals (cases hP; exact ⟨_, _, rfl, rfl⟩)
        obtain ⟨row, tr, rfl, hrow⟩ := hrow
        have hrm : row ∈ rows6 sg := List.mem_of_getElem? hrow
        obtain ⟨hrl, hrs⟩ := lone_all sg hs6 row hrm
        obtain ⟨RR, hRR⟩ := Option.isSome_iff_exists.mp hrs
        k_steps
        unfold Stop
        refine lone_ok (fun _ => trivial) (KX.keeps F4.keep) (TT.keeps F4.keep) (by decide) hs6 hrl hRR ?_
        intro h16 tk16 tt16 hk16
        have F16 := Fr_stays F4 hk16
        have N16 := News_stays N4 hk16
        k_steps
        refine LCg.CompEnd.intro F16 N16 _ (fun p hp => hp) O (.inr ⟨_, .tail _ (.tail _ (.tail _ (.head _))), rfl, _, rfl⟩) ⟨rfl, ?_⟩
        rw [List.take_add_one, hrow, Option.toList_some, List.map_append, List.map_singleton, hRR]
        exact ints_snoc hW2 _ _
      · rintro yw2 nw2 ⟨rfl, hW2⟩ wl h17 tk17 F17 N17 O17
        rw [show (rows6 sg).take 6 = rows6 sg from rfl, lone_row sg hs6] at hW2
        k_steps
        unfold Stop
        rename (Fr _ _ _ _) => F18
        rename (News _ _ _ _) => N18
        refine LCg.ListComp_U F18 rfl (by decide) rfl (by decide) rfl ?_
        k_steps
        unfold Stop
        rename (Fr _ _ _ _) => F19
        rename (News _ _ _ _) => N19
        refine LCg.CompSrc.range (n := 5) rfl F19 N19 (by assumption) (by decide) (by decide) (by decide) fun g3 => ?_
        refine comp_inv (n := 5) (fun i ys nw => nw = _ ∧ IntsAre ys ((List.range i).map fun (j : Nat) => ((ds.getD 1 0).fdiv (16 ^ j)).fmod 16)) ?_ ?_ _ 0 [] _ rfl ⟨rfl, .nil⟩
        · rintro i v I oI C oC D9 m₂ h tk E' ys news hi' ⟨rfl, hW3⟩ ⟨tv, rfl⟩ hC hx F4 N4 O ne
          simp only [Int.zero_add] at hx
          have pw : (16 : Int) ^ ((i : Nat) : Int).toNat ≠ 0 := by rw [Int.toNat_natCast]; exact Int.ne_of_gt (Int.pow_pos (by decide))
          k_steps
          all_goals first
            | (exfalso; apply pw; assumption)
            | (refine LCg.CompEnd.intro (by assumption) (by assumption) _ (fun p hp => hp) O trivial ⟨rfl, ?_⟩
               rw [List.range_succ, List.map_append, List.map_singleton]
               exact ints_snoc hW3 _ _)
        · rintro yw3 nw3 ⟨rfl, hW3⟩ wh h20 tk20 F20 N20 O20
          k_steps
          unfold Stop
          rename (Fr _ _ _ _) => F21
          rename (News _ _ _ _) => N21
          refine line_ok (fun _ => trivial) (KX.keeps F21.keep) (TT.keeps F21.keep) (by decide) (News.isList N21 (.head _)) hW3 (by simp) ?_
          intro lh h22 tk22 hv hys hkk hk22 hf22 hg22 hLi hLp hLs
          have F22 := Fr_stays F21 hk22
          have N22 := News_add F21 N21 hk22 hf22 hg22
          k_steps
          unfold Stop
          rename (Fr _ _ _ _) => F23
          rename (News _ _ _ _) => N23
          have hmv : IntsAre (slicePick dv.toArray (some 2) none none).toList (ds.drop 2) := by
            rw [kmk_pick_nat _ (a := 2) (b := 4) (by rw [List.size_toArray, hD.length, hd4]; decide)]
            obtain ⟨a0, a1, a2, a3, rfl⟩ : ∃ a0 a1 a2 a3, ds = [a0, a1, a2, a3] := ⟨_, _, _, _, list4 hd4⟩
            rcases hD with _ | ⟨_, _, _ | ⟨_, _, _ | ⟨_, _, _ | ⟨_, _, _ | _⟩⟩⟩⟩
            exact .cons _ _ (.cons _ _ .nil)
          refine kmk_slice_ints F23 N23 (News.isList N23 (by k_mem)) (IsPart.int _ _) IsPart.none hD hmv (c := 2) (by rw [List.length_drop, hd4]) (fun D24 w24 h24 F24 N24 l24 hI24 hC24 hL24 => ?_) (by with_unfolding_all rfl) (by intro _; with_unfolding_all rfl) (by rw [List.size_toArray, hD.length, hd4, sizeLine_eq]; decide)
          k_steps
          unfold Stop
          rename (Fr _ _ _ _) => F25
          rename (News _ _ _ _) => N25
          refine match_ok (fun _ => trivial) (KX.keeps F25.keep) (TT.keeps F25.keep) (by decide) (News.isList N25 (by k_mem)) hLi (hLp.length_eq.trans (by simp)) (News.isList N25 (by k_mem)) hI24 hC24 (fun v hv => hdr v (List.mem_of_mem_drop hv)) (News.isList N25 (by k_mem)) hW2 (by rw [hmost]) (by rw [hmost]; unfold mostOf; split <;> decide) (fun n hn => ?_) (by first | units_room | exact Nat.le_of_ble_eq_true rfl) ?_
          · obtain ⟨j, _, rfl⟩ := List.mem_map.mp (hLp.mem_iff.mp hn)
            have q0 := Int.fmod_nonneg_of_pos ((ds.getD 1 0).fdiv (16 ^ j)) (show (0 : Int) < 16 by decide)
            have q1 := Int.fmod_lt_of_pos ((ds.getD 1 0).fdiv (16 ^ j)) (show (0 : Int) < 16 by decide)
            exact ⟨q0, by omega⟩
          · intro h26 tk26 hk26
            have F26 := Fr_stays F25 hk26
            k_steps)
end
end

end Mine

theorem PySem.Challenge.cw_us0007_01_holds : PySem.Challenge.rw_us0007_01.Holds :=
  Mine.law_ok
