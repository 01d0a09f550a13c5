import PyProof.Rows.All
import Wide.All
import OpenK.AllK
import Wide.FinOn
import Lean
import PySem.Challenge.RW_il0042_01
open PySem PySem.W PySem.Spec PySem.Calls PyProof.Rows
set_option Elab.async false
set_option compiler.extract_closed false
set_option maxRecDepth 100000
set_option maxHeartbeats 8000000
set_option linter.unusedVariables false
set_option linter.unusedSimpArgs false
namespace Mine
noncomputable def view0 : Program := { PySem.Challenge.rw_il0042_01.prog with main := { PySem.Challenge.rw_il0042_01.prog.main with body := [0, 1, 3, 5, 7, 8, 10, 12, 14, 15, 16, 17, 19, 20, 22, 24, 25, 26, 27, 29, 30, 31, 32, 33].filterMap fun i => PySem.Challenge.rw_il0042_01.prog.main.body[i]? } }
section
local macro_rules | `(tactic| o_head $H) => `(tactic| exact False.elim (by assumption))
theorem hd0 (h : False) : OpenRow.Holds PySem.Challenge.rw_il0042_01.row := by
  k_head
end
noncomputable def as0 : List Addr := [2, 3, 32, 34, 35, 37, 38, 39, 41, 42, 44, 45, 46, 53, 55, 56, 58, 59, 60, 61, 62, 65, 72, 74, 75, 77, 78, 79, 81, 82, 84, 85, 86, 88, 89, 91, 92, 93, 94, 95, 98, 100, 101, 103, 104, 105, 107, 108, 110, 111, 112, 114, 115, 117, 118, 119, 121, 122, 124, 125, 126, 128, 129, 131, 132, 133, 135, 136, 138, 139, 143, 144, 146, 150, 152, 153, 155, 156, 157, 159, 160, 162, 163, 164, 166, 167, 169, 170, 171, 173, 174, 176, 177, 178, 180, 181, 183, 184, 185, 187, 188, 190, 191, 192, 195, 196, 197, 200, 201, 202, 205, 206, 207, 210, 211, 212, 215, 216]
theorem as0_ok : ∀ P, as0 = (hd0.heap_1 P).map (·.1) := fun _ => by kernel_rfl
noncomputable def kO (P : Params) (i : Nat) : Obj := ((hd0.heap_1 P).map (·.2)).getD i default
noncomputable def kC (P : Params) (i : Nat) : Obj := match (kO P i).data with
  | .func f => { cls := .none, data := .func { f with globals := 0, pyModule := .none, code := .none } }
  | _ => default
noncomputable def o1f (P : Params) : Obj := { cls := Value.type "dict", data := Data.dict #[{ hash := PyData.keyHash P (Str.ofString "builtins"), key := Value.str (Str.ofString "builtins") 162, val := Value.ref 4 }, { hash := PyData.keyHash P (Str.ofString "__main__"), key := Value.str (Str.ofString "__main__") 163, val := Value.ref 5 }, { hash := PyData.keyHash P (Str.ofString "_sre"), key := Value.str (Str.ofString "_sre") 244, val := Value.ref 12 }] 3 }
noncomputable def o11f (P : Params) : Obj := { cls := Value.type "dict", data := Data.dict #[{ hash := PyData.keyHash P (Str.ofString "__name__"), key := Value.str (Str.ofString "__name__") 247, val := Value.str (Str.ofString "_sre") 246 }, { hash := PyData.keyHash P (Str.ofString "__doc__"), key := Value.str (Str.ofString "__doc__") 248, val := Value.none }, { hash := PyData.keyHash P (Str.ofString "__package__"), key := Value.str (Str.ofString "__package__") 250, val := Value.str (Str.ofString "") 249 }, { hash := PyData.keyHash P (Str.ofString "__loader__"), key := Value.str (Str.ofString "__loader__") 251, val := Value.builtin "off-the-table:_sre.__loader__:shared#opaque" }, { hash := PyData.keyHash P (Str.ofString "__spec__"), key := Value.str (Str.ofString "__spec__") 252, val := Value.builtin "off-the-table:_sre.__spec__:shared#opaque" }, { hash := PyData.keyHash P (Str.ofString "compile"), key := Value.str (Str.ofString "compile") 253, val := Value.builtin "_sre.compile" }, { hash := PyData.keyHash P (Str.ofString "template"), key := Value.str (Str.ofString "template") 254, val := Value.builtin "off-the-table:_sre.template:shared#opaque" }, { hash := PyData.keyHash P (Str.ofString "getcodesize"), key := Value.str (Str.ofString "getcodesize") 255, val := Value.builtin "off-the-table:_sre.getcodesize:shared#opaque" }, { hash := PyData.keyHash P (Str.ofString "ascii_iscased"), key := Value.str (Str.ofString "ascii_iscased") 256, val := Value.builtin "off-the-table:_sre.ascii_iscased:shared#opaque" }, { hash := PyData.keyHash P (Str.ofString "unicode_iscased"), key := Value.str (Str.ofString "unicode_iscased") 257, val := Value.builtin "off-the-table:_sre.unicode_iscased:shared#opaque" }, { hash := PyData.keyHash P (Str.ofString "ascii_tolower"), key := Value.str (Str.ofString "ascii_tolower") 258, val := Value.builtin "off-the-table:_sre.ascii_tolower:shared#opaque" }, { hash := PyData.keyHash P (Str.ofString "unicode_tolower"), key := Value.str (Str.ofString "unicode_tolower") 259, val := Value.builtin "off-the-table:_sre.unicode_tolower:shared#opaque" }, { hash := PyData.keyHash P (Str.ofString "MAGIC"), key := Value.str (Str.ofString "MAGIC") 261, val := Value.int 20230612 260 }, { hash := PyData.keyHash P (Str.ofString "CODESIZE"), key := Value.str (Str.ofString "CODESIZE") 263, val := Value.int 4 262 }, { hash := PyData.keyHash P (Str.ofString "MAXREPEAT"), key := Value.str (Str.ofString "MAXREPEAT") 265, val := Value.int 4294967295 264 }, { hash := PyData.keyHash P (Str.ofString "MAXGROUPS"), key := Value.str (Str.ofString "MAXGROUPS") 267, val := Value.int 1073741823 266 }, { hash := PyData.keyHash P (Str.ofString "copyright"), key := Value.str (Str.ofString "copyright") 269, val := Value.str (Str.ofString " SRE 2.2.2 Copyright (c) 1997-2002 by Secret Labs AB ") 268 }] 17 }
noncomputable def o12f (P : Params) : Obj := { cls := Value.type "module", dict := some 11 }
noncomputable def o13f (P : Params) : Obj := { cls := Value.type "dict", data := Data.dict #[{ hash := PyData.keyHash P (Str.ofString "__module__"), key := Value.str (Str.ofString "__module__") 189, val := Value.str (Str.ofString "_frozen_importlib") 186 }, { hash := PyData.keyHash P (Str.ofString "__firstlineno__"), key := Value.str (Str.ofString "__firstlineno__") 190, val := Value.int 971 187 }, { hash := PyData.keyHash P (Str.ofString "__doc__"), key := Value.str (Str.ofString "__doc__") 191, val := Value.builtin "_frozen_importlib.BuiltinImporter.__doc__:str#opaque" }, { hash := PyData.keyHash P (Str.ofString "_ORIGIN"), key := Value.str (Str.ofString "_ORIGIN") 192, val := Value.str (Str.ofString "built-in") 188 }, { hash := PyData.keyHash P (Str.ofString "find_spec"), key := Value.str (Str.ofString "find_spec") 193, val := Value.builtin "_frozen_importlib.BuiltinImporter.find_spec#opaque" }, { hash := PyData.keyHash P (Str.ofString "create_module"), key := Value.str (Str.ofString "create_module") 194, val := Value.builtin "_frozen_importlib.BuiltinImporter.create_module#opaque" }, { hash := PyData.keyHash P (Str.ofString "exec_module"), key := Value.str (Str.ofString "exec_module") 195, val := Value.builtin "_frozen_importlib.BuiltinImporter.exec_module#opaque" }, { hash := PyData.keyHash P (Str.ofString "get_code"), key := Value.str (Str.ofString "get_code") 196, val := Value.builtin "_frozen_importlib.BuiltinImporter.get_code#opaque" }, { hash := PyData.keyHash P (Str.ofString "get_source"), key := Value.str (Str.ofString "get_source") 197, val := Value.builtin "_frozen_importlib.BuiltinImporter.get_source#opaque" }, { hash := PyData.keyHash P (Str.ofString "is_package"), key := Value.str (Str.ofString "is_package") 198, val := Value.builtin "_frozen_importlib.BuiltinImporter.is_package#opaque" }, { hash := PyData.keyHash P (Str.ofString "load_module"), key := Value.str (Str.ofString "load_module") 199, val := Value.builtin "_frozen_importlib.BuiltinImporter.load_module#opaque" }, { hash := PyData.keyHash P (Str.ofString "__static_attributes__"), key := Value.str (Str.ofString "__static_attributes__") 200, val := Value.ref 15 }, { hash := PyData.keyHash P (Str.ofString "__dict__"), key := Value.str (Str.ofString "__dict__") 202, val := Value.ref 16 }, { hash := PyData.keyHash P (Str.ofString "__weakref__"), key := Value.str (Str.ofString "__weakref__") 204, val := Value.ref 17 }] 14 }
noncomputable def o14f (P : Params) : Obj := { cls := Value.type "type", data := Data.cls { name := Str.ofString "BuiltinImporter", bases := [Value.type "object"], mro := [Value.ref 14, Value.type "object"], ns := 13, qualname := Str.ofString "BuiltinImporter" } }
noncomputable def o16f (P : Params) : Obj := { cls := Value.type "getset_descriptor", data := Data.fields #[Value.str (Str.ofString "__dict__") 201, Value.ref 14, Value.builtin "function.__dict__", Value.builtin "function.__dict__#set"] }
noncomputable def o17f (P : Params) : Obj := { cls := Value.type "getset_descriptor", data := Data.fields #[Value.str (Str.ofString "__weakref__") 203, Value.ref 14, Value.builtin "ExceptionGroup.__weakref__", Value.none] }
noncomputable def o18f (P : Params) : Obj := { cls := Value.none, data := Data.seq #[Value.int 13 0, Value.str (Str.mk #[6, 189, 10, 95, 95, 109, 111, 100, 117, 108, 101, 95, 95, 6, 186, 17, 95, 102, 114, 111, 122, 101, 110, 95, 105, 109, 112, 111, 114, 116, 108, 105, 98, 6, 190, 15, 95, 95, 102, 105, 114, 115, 116, 108, 105, 110, 101, 110, 111, 95, 95, 4, 187, 0, 971, 6, 191, 7, 95, 95, 100, 111, 99, 95, 95, 9, 52, 95, 102, 114, 111, 122, 101, 110, 95, 105, 109, 112, 111, 114, 116, 108, 105, 98, 46, 66, 117, 105, 108, 116, 105, 110, 73, 109, 112, 111, 114, 116, 101, 114, 46, 95, 95, 100, 111, 99, 95, 95, 58, 115, 116, 114, 35, 111, 112, 97, 113, 117, 101, 6, 192, 7, 95, 79, 82, 73, 71, 73, 78, 6, 188, 8, 98, 117, 105, 108, 116, 45, 105, 110, 6, 193, 9, 102, 105, 110, 100, 95, 115, 112, 101, 99, 9, 50, 95, 102, 114, 111, 122, 101, 110, 95, 105, 109, 112, 111, 114, 116, 108, 105, 98, 46, 66, 117, 105, 108, 116, 105, 110, 73, 109, 112, 111, 114, 116, 101, 114, 46, 102, 105, 110, 100, 95, 115, 112, 101, 99, 35, 111, 112, 97, 113, 117, 101, 6, 194, 13, 99, 114, 101, 97, 116, 101, 95, 109, 111, 100, 117, 108, 101, 9, 54, 95, 102, 114, 111, 122, 101, 110, 95, 105, 109, 112, 111, 114, 116, 108, 105, 98, 46, 66, 117, 105, 108, 116, 105, 110, 73, 109, 112, 111, 114, 116, 101, 114, 46, 99, 114, 101, 97, 116, 101, 95, 109, 111, 100, 117, 108, 101, 35, 111, 112, 97, 113, 117, 101, 6, 195, 11, 101, 120, 101, 99, 95, 109, 111, 100, 117, 108, 101, 9, 52, 95, 102, 114, 111, 122, 101, 110, 95, 105, 109, 112, 111, 114, 116, 108, 105, 98, 46, 66, 117, 105, 108, 116, 105, 110, 73, 109, 112, 111, 114, 116, 101, 114, 46, 101, 120, 101, 99, 95, 109, 111, 100, 117, 108, 101, 35, 111, 112, 97, 113, 117, 101, 6, 196, 8, 103, 101, 116, 95, 99, 111, 100, 101, 9, 49, 95, 102, 114, 111, 122, 101, 110, 95, 105, 109, 112, 111, 114, 116, 108, 105, 98, 46, 66, 117, 105, 108, 116, 105, 110, 73, 109, 112, 111, 114, 116, 101, 114, 46, 103, 101, 116, 95, 99, 111, 100, 101, 35, 111, 112, 97, 113, 117, 101, 6, 197, 10, 103, 101, 116, 95, 115, 111, 117, 114, 99, 101, 9, 51, 95, 102, 114, 111, 122, 101, 110, 95, 105, 109, 112, 111, 114, 116, 108, 105, 98, 46, 66, 117, 105, 108, 116, 105, 110, 73, 109, 112, 111, 114, 116, 101, 114, 46, 103, 101, 116, 95, 115, 111, 117, 114, 99, 101, 35, 111, 112, 97, 113, 117, 101, 6, 198, 10, 105, 115, 95, 112, 97, 99, 107, 97, 103, 101, 9, 51, 95, 102, 114, 111, 122, 101, 110, 95, 105, 109, 112, 111, 114, 116, 108, 105, 98, 46, 66, 117, 105, 108, 116, 105, 110, 73, 109, 112, 111, 114, 116, 101, 114, 46, 105, 115, 95, 112, 97, 99, 107, 97, 103, 101, 35, 111, 112, 97, 113, 117, 101, 6, 199, 11, 108, 111, 97, 100, 95, 109, 111, 100, 117, 108, 101, 9, 52, 95, 102, 114, 111, 122, 101, 110, 95, 105, 109, 112, 111, 114, 116, 108, 105, 98, 46, 66, 117, 105, 108, 116, 105, 110, 73, 109, 112, 111, 114, 116, 101, 114, 46, 108, 111, 97, 100, 95, 109, 111, 100, 117, 108, 101, 35, 111, 112, 97, 113, 117, 101, 6, 200, 21, 95, 95, 115, 116, 97, 116, 105, 99, 95, 97, 116, 116, 114, 105, 98, 117, 116, 101, 115, 95, 95, 4, 0, 0, 15, 6, 202, 8, 95, 95, 100, 105, 99, 116, 95, 95, 4, 0, 0, 16, 6, 204, 11, 95, 95, 119, 101, 97, 107, 114, 101, 102, 95, 95, 4, 0, 0, 17]) 0, Value.bool true, Value.bool true, Value.str (Str.ofString "") 205, Value.int 21 0, Value.str (Str.mk #[6, 227, 10, 95, 95, 109, 111, 100, 117, 108, 101, 95, 95, 6, 217, 17, 95, 102, 114, 111, 122, 101, 110, 95, 105, 109, 112, 111, 114, 116, 108, 105, 98, 6, 228, 15, 95, 95, 102, 105, 114, 115, 116, 108, 105, 110, 101, 110, 111, 95, 95, 4, 218, 0, 562, 6, 229, 7, 95, 95, 100, 111, 99, 95, 95, 9, 47, 95, 102, 114, 111, 122, 101, 110, 95, 105, 109, 112, 111, 114, 116, 108, 105, 98, 46, 77, 111, 100, 117, 108, 101, 83, 112, 101, 99, 46, 95, 95, 100, 111, 99, 95, 95, 58, 115, 116, 114, 35, 111, 112, 97, 113, 117, 101, 6, 230, 8, 95, 95, 105, 110, 105, 116, 95, 95, 9, 44, 95, 102, 114, 111, 122, 101, 110, 95, 105, 109, 112, 111, 114, 116, 108, 105, 98, 46, 77, 111, 100, 117, 108, 101, 83, 112, 101, 99, 46, 95, 95, 105, 110, 105, 116, 95, 95, 35, 111, 112, 97, 113, 117, 101, 6, 231, 8, 95, 95, 114, 101, 112, 114, 95, 95, 9, 44, 95, 102, 114, 111, 122, 101, 110, 95, 105, 109, 112, 111, 114, 116, 108, 105, 98, 46, 77, 111, 100, 117, 108, 101, 83, 112, 101, 99, 46, 95, 95, 114, 101, 112, 114, 95, 95, 35, 111, 112, 97, 113, 117, 101, 6, 232, 6, 95, 95, 101, 113, 95, 95, 9, 42, 95, 102, 114, 111, 122, 101, 110, 95, 105, 109, 112, 111, 114, 116, 108, 105, 98, 46, 77, 111, 100, 117, 108, 101, 83, 112, 101, 99, 46, 95, 95, 101, 113, 95, 95, 35, 111, 112, 97, 113, 117, 101, 6, 233, 6, 99, 97, 99, 104, 101, 100, 9, 42, 95, 102, 114, 111, 122, 101, 110, 95, 105, 109, 112, 111, 114, 116, 108, 105, 98, 46, 77, 111, 100, 117, 108, 101, 83, 112, 101, 99, 46, 99, 97, 99, 104, 101, 100, 35, 111, 112, 97, 113, 117, 101, 6, 234, 6, 112, 97, 114, 101, 110, 116, 9, 42, 95, 102, 114, 111, 122, 101, 110, 95, 105, 109, 112, 111, 114, 116, 108, 105, 98, 46, 77, 111, 100, 117, 108, 101, 83, 112, 101, 99, 46, 112, 97, 114, 101, 110, 116, 35, 111, 112, 97, 113, 117, 101, 6, 235, 12, 104, 97, 115, 95, 108, 111, 99, 97, 116, 105, 111, 110, 9, 48, 95, 102, 114, 111, 122, 101, 110, 95, 105, 109, 112, 111, 114, 116, 108, 105, 98, 46, 77, 111, 100, 117, 108, 101, 83, 112, 101, 99, 46, 104, 97, 115, 95, 108, 111, 99, 97, 116, 105, 111, 110, 35, 111, 112, 97, 113, 117, 101, 6, 236, 21, 95, 95, 115, 116, 97, 116, 105, 99, 95, 97, 116, 116, 114, 105, 98, 117, 116, 101, 115, 95, 95, 4, 0, 0, 23, 6, 238, 8, 95, 95, 100, 105, 99, 116, 95, 95, 4, 0, 0, 24, 6, 240, 11, 95, 95, 119, 101, 97, 107, 114, 101, 102, 95, 95, 4, 0, 0, 25, 6, 241, 8, 95, 95, 104, 97, 115, 104, 95, 95, 0]) 0, Value.bool true, Value.bool true, Value.str (Str.ofString "") 242] 1 }
noncomputable def o19f (P : Params) : Obj := { cls := Value.type "list", data := Data.seq #[] }
noncomputable def o20f (P : Params) : Obj := { cls := Value.type "dict", data := Data.dict #[{ hash := PyData.keyHash P (Str.ofString "name"), key := Value.str (Str.ofString "name") 208, val := Value.str (Str.ofString "_sre") 207 }, { hash := PyData.keyHash P (Str.ofString "loader"), key := Value.str (Str.ofString "loader") 209, val := Value.ref 14 }, { hash := PyData.keyHash P (Str.ofString "origin"), key := Value.str (Str.ofString "origin") 210, val := Value.str (Str.ofString "built-in") 184 }, { hash := PyData.keyHash P (Str.ofString "loader_state"), key := Value.str (Str.ofString "loader_state") 211, val := Value.none }, { hash := PyData.keyHash P (Str.ofString "submodule_search_locations"), key := Value.str (Str.ofString "submodule_search_locations") 212, val := Value.none }, { hash := PyData.keyHash P (Str.ofString "_uninitialized_submodules"), key := Value.str (Str.ofString "_uninitialized_submodules") 213, val := Value.ref 19 }, { hash := PyData.keyHash P (Str.ofString "_set_fileattr"), key := Value.str (Str.ofString "_set_fileattr") 214, val := Value.bool false }, { hash := PyData.keyHash P (Str.ofString "_cached"), key := Value.str (Str.ofString "_cached") 215, val := Value.none }, { hash := PyData.keyHash P (Str.ofString "_initializing"), key := Value.str (Str.ofString "_initializing") 243, val := Value.bool false }] 9 }
noncomputable def o21f (P : Params) : Obj := { cls := Value.type "dict", data := Data.dict #[{ hash := PyData.keyHash P (Str.ofString "__module__"), key := Value.str (Str.ofString "__module__") 227, val := Value.str (Str.ofString "_frozen_importlib") 217 }, { hash := PyData.keyHash P (Str.ofString "__firstlineno__"), key := Value.str (Str.ofString "__firstlineno__") 228, val := Value.int 562 218 }, { hash := PyData.keyHash P (Str.ofString "__doc__"), key := Value.str (Str.ofString "__doc__") 229, val := Value.builtin "_frozen_importlib.ModuleSpec.__doc__:str#opaque" }, { hash := PyData.keyHash P (Str.ofString "__init__"), key := Value.str (Str.ofString "__init__") 230, val := Value.builtin "_frozen_importlib.ModuleSpec.__init__#opaque" }, { hash := PyData.keyHash P (Str.ofString "__repr__"), key := Value.str (Str.ofString "__repr__") 231, val := Value.builtin "_frozen_importlib.ModuleSpec.__repr__#opaque" }, { hash := PyData.keyHash P (Str.ofString "__eq__"), key := Value.str (Str.ofString "__eq__") 232, val := Value.builtin "_frozen_importlib.ModuleSpec.__eq__#opaque" }, { hash := PyData.keyHash P (Str.ofString "cached"), key := Value.str (Str.ofString "cached") 233, val := Value.builtin "_frozen_importlib.ModuleSpec.cached#opaque" }, { hash := PyData.keyHash P (Str.ofString "parent"), key := Value.str (Str.ofString "parent") 234, val := Value.builtin "_frozen_importlib.ModuleSpec.parent#opaque" }, { hash := PyData.keyHash P (Str.ofString "has_location"), key := Value.str (Str.ofString "has_location") 235, val := Value.builtin "_frozen_importlib.ModuleSpec.has_location#opaque" }, { hash := PyData.keyHash P (Str.ofString "__static_attributes__"), key := Value.str (Str.ofString "__static_attributes__") 236, val := Value.ref 23 }, { hash := PyData.keyHash P (Str.ofString "__dict__"), key := Value.str (Str.ofString "__dict__") 238, val := Value.ref 24 }, { hash := PyData.keyHash P (Str.ofString "__weakref__"), key := Value.str (Str.ofString "__weakref__") 240, val := Value.ref 25 }, { hash := PyData.keyHash P (Str.ofString "__hash__"), key := Value.str (Str.ofString "__hash__") 241, val := Value.none }] 13 }
noncomputable def o22f (P : Params) : Obj := { cls := Value.type "type", data := Data.cls { name := Str.ofString "ModuleSpec", bases := [Value.type "object"], mro := [Value.ref 22, Value.type "object"], ns := 21, qualname := Str.ofString "ModuleSpec" } }
noncomputable def o23f (P : Params) : Obj := { cls := Value.type "tuple", data := Data.seq #[Value.str (Str.ofString "_cached") 219, Value.str (Str.ofString "_set_fileattr") 220, Value.str (Str.ofString "_uninitialized_submodules") 221, Value.str (Str.ofString "loader") 222, Value.str (Str.ofString "loader_state") 223, Value.str (Str.ofString "name") 224, Value.str (Str.ofString "origin") 225, Value.str (Str.ofString "submodule_search_locations") 226] }
noncomputable def o24f (P : Params) : Obj := { cls := Value.type "getset_descriptor", data := Data.fields #[Value.str (Str.ofString "__dict__") 237, Value.ref 22, Value.builtin "function.__dict__", Value.builtin "function.__dict__#set"] }
noncomputable def o25f (P : Params) : Obj := { cls := Value.type "getset_descriptor", data := Data.fields #[Value.str (Str.ofString "__weakref__") 239, Value.ref 22, Value.builtin "ExceptionGroup.__weakref__", Value.none] }
noncomputable def o26f (P : Params) : Obj := { cls := Value.ref 22, dict := some 20 }
noncomputable def o27f (P : Params) : Obj := { cls := Value.none, data := Data.seq #[Value.int 11 0, Value.str { cps := #[6, 247, 8, 95, 95, 110, 97, 109, 101, 95, 95, 6, 246, 4, 95, 115, 114, 101, 6, 248, 7, 95, 95, 100, 111, 99, 95, 95, 0, 6, 250, 11, 95, 95, 112, 97, 99, 107, 97, 103, 101, 95, 95, 6, 249, 0, 6, 251, 10, 95, 95, 108, 111, 97, 100, 101, 114, 95, 95, 4, 0, 0, 14, 6, 252, 8, 95, 95, 115, 112, 101, 99, 95, 95, 4, 0, 0, 26, 6, 253, 7, 99, 111, 109, 112, 105, 108, 101, 9, 12, 95, 115, 114, 101, 46, 99, 111, 109, 112, 105, 108, 101, 6, 254, 8, 116, 101, 109, 112, 108, 97, 116, 101, 9, 13, 95, 115, 114, 101, 46, 116, 101, 109, 112, 108, 97, 116, 101, 6, 255, 11, 103, 101, 116, 99, 111, 100, 101, 115, 105, 122, 101, 9, 16, 95, 115, 114, 101, 46, 103, 101, 116, 99, 111, 100, 101, 115, 105, 122, 101, 6, 256, 13, 97, 115, 99, 105, 105, 95, 105, 115, 99, 97, 115, 101, 100, 9, 18, 95, 115, 114, 101, 46, 97, 115, 99, 105, 105, 95, 105, 115, 99, 97, 115, 101, 100, 6, 257, 15, 117, 110, 105, 99, 111, 100, 101, 95, 105, 115, 99, 97, 115, 101, 100, 9, 20, 95, 115, 114, 101, 46, 117, 110, 105, 99, 111, 100, 101, 95, 105, 115, 99, 97, 115, 101, 100, 6, 258, 13, 97, 115, 99, 105, 105, 95, 116, 111, 108, 111, 119, 101, 114, 9, 18, 95, 115, 114, 101, 46, 97, 115, 99, 105, 105, 95, 116, 111, 108, 111, 119, 101, 114, 6, 259, 15, 117, 110, 105, 99, 111, 100, 101, 95, 116, 111, 108, 111, 119, 101, 114, 9, 20, 95, 115, 114, 101, 46, 117, 110, 105, 99, 111, 100, 101, 95, 116, 111, 108, 111, 119, 101, 114, 6, 261, 5, 77, 65, 71, 73, 67, 4, 260, 0, 20230612, 6, 263, 8, 67, 79, 68, 69, 83, 73, 90, 69, 4, 262, 0, 4, 6, 265, 9, 77, 65, 88, 82, 69, 80, 69, 65, 84, 4, 264, 0, 4294967295, 6, 267, 9, 77, 65, 88, 71, 82, 79, 85, 80, 83, 4, 266, 0, 1073741823, 6, 269, 9, 99, 111, 112, 121, 114, 105, 103, 104, 116, 6, 268, 53, 32, 83, 82, 69, 32, 50, 46, 50, 46, 50, 32, 67, 111, 112, 121, 114, 105, 103, 104, 116, 32, 40, 99, 41, 32, 49, 57, 57, 55, 45, 50, 48, 48, 50, 32, 98, 121, 32, 83, 101, 99, 114, 101, 116, 32, 76, 97, 98, 115, 32, 65, 66, 32] } 0, Value.bool true, Value.bool false, Value.str (Str.ofString "_sre") 271] }
noncomputable def o29f (P : Params) : Obj := { cls := Value.none, data := Data.fields #[Value.int 2 0, Value.int 0 0, Value.ref 37, Value.int 6 0, Value.int 0 0, Value.ref 44, Value.int 12 0, Value.int 0 0, Value.ref 51, Value.int 17 0, Value.int 0 0, Value.ref 70, Value.int 32 0, Value.int 0 0, Value.ref 103, Value.int 36 0, Value.int 0 0, Value.ref 110, Value.int 53 0, Value.int 0 0, Value.ref 117, Value.int 65 0, Value.int 0 0, Value.ref 124, Value.int 70 0, Value.int 0 0, Value.ref 131, Value.int 87 0, Value.int 0 0, Value.ref 138, Value.int 98 0, Value.int 0 0, Value.ref 155, Value.int 105 0, Value.int 0 0, Value.ref 162, Value.int 168 0, Value.int 0 0, Value.ref 169, Value.int 171 0, Value.int 0 0, Value.ref 176, Value.int 179 0, Value.int 0 0, Value.ref 183, Value.int 190 0, Value.int 0 0, Value.ref 190, Value.int 205 0, Value.int 0 0, Value.ref 195, Value.int 211 0, Value.int 0 0, Value.ref 200, Value.int 225 0, Value.int 0 0, Value.ref 205, Value.int 231 0, Value.int 0 0, Value.ref 210, Value.int 245 0, Value.int 0 0, Value.ref 215] }
noncomputable def o30f (P : Params) : Obj := { cls := Value.type "code", data := Data.fields #[Value.str (Str.ofString "<module>") 277, Value.str (Str.ofString "<module>") 278, Value.str (Str.ofString "/claim/cut.py") 279, Value.int 1 0, Value.int 0 0, Value.int 0 0, Value.int 0 0, Value.int 0 0, Value.ref 28, Value.bool false, Value.int 276 0, Value.ref 29, Value.none, Value.none, Value.none, Value.none, Value.int 280 0, Value.int 1 0, Value.str (Str.ofString "/claim/cut.py") 281] }
noncomputable def o31f (P : Params) : Obj := { cls := Value.type "frame", slots := #[some (Value.ref 30), some (Value.ref 3), some (Value.ref 3), none, some (Value.str (Str.ofString "__main__") 164), none, some (Value.ref 0)] }
noncomputable def o33f (P : Params) : Obj := { cls := Value.none, data := Data.fields #[] }
noncomputable def o47f (P : Params) : Obj := { cls := Value.type "builtin_function_or_method", data := Data.fields #[Value.builtin "type.__prepare__", Value.type "type"] }
noncomputable def o48f (P : Params) : Obj := { cls := Value.type "dict", data := Data.dict #[{ hash := PyData.keyHash P (Str.ofString "__module__"), key := Value.str (Str.ofString "__module__") 309, val := Value.str (Str.ofString "abc") 300 }, { hash := PyData.keyHash P (Str.ofString "__qualname__"), key := Value.str (Str.ofString "__qualname__") 311, val := Value.str (Str.ofString "ABCMeta") 310 }, { hash := PyData.keyHash P (Str.ofString "__firstlineno__"), key := Value.str (Str.ofString "__firstlineno__") 313, val := Value.int 12 312 }, { hash := PyData.keyHash P (Str.ofString "register"), key := Value.str (Str.ofString "register") 321, val := Value.ref 59 }, { hash := PyData.keyHash P (Str.ofString "__static_attributes__"), key := Value.str (Str.ofString "__static_attributes__") 322, val := Value.ref 60 }] 5 }
noncomputable def o50f (P : Params) : Obj := { cls := Value.none, data := Data.fields #[Value.int 14 0, Value.int 4 0, Value.ref 58] }
noncomputable def o51f (P : Params) : Obj := { cls := Value.type "code", data := Data.fields #[Value.str (Str.ofString "ABCMeta") 304, Value.str (Str.ofString "ABCMeta") 305, Value.str (Str.ofString "/claim/cut.py") 306, Value.int 12 0, Value.int 0 0, Value.int 0 0, Value.int 0 0, Value.int 0 0, Value.ref 49, Value.bool false, Value.int 276 0, Value.ref 50, Value.none, Value.none, Value.none, Value.none, Value.int 307 0, Value.int 12 0, Value.str (Str.ofString "/claim/cut.py") 308] }
noncomputable def o52f (P : Params) : Obj := { cls := Value.type "frame", slots := #[some (Value.ref 51), some (Value.ref 3), some (Value.ref 48), none, some (Value.str (Str.ofString "abc") 300), none, some (Value.ref 0)] }
noncomputable def o63f (P : Params) : Obj := { cls := Value.type "super", data := Data.fields #[Value.ref 62, Value.ref 62, Value.ref 62] }
noncomputable def o64f (P : Params) : Obj := { cls := Value.type "builtin_function_or_method", data := Data.fields #[Value.builtin "object.__init_subclass__", Value.ref 62] }
noncomputable def o67f (P : Params) : Obj := { cls := Value.type "dict", data := Data.dict #[{ hash := PyData.keyHash P (Str.ofString "__module__"), key := Value.str (Str.ofString "__module__") 335, val := Value.str (Str.ofString "collections.abc") 326 }, { hash := PyData.keyHash P (Str.ofString "__qualname__"), key := Value.str (Str.ofString "__qualname__") 337, val := Value.str (Str.ofString "_ABCLike") 336 }, { hash := PyData.keyHash P (Str.ofString "__firstlineno__"), key := Value.str (Str.ofString "__firstlineno__") 339, val := Value.int 17 338 }, { hash := PyData.keyHash P (Str.ofString "__instancecheck__"), key := Value.str (Str.ofString "__instancecheck__") 348, val := Value.ref 78 }, { hash := PyData.keyHash P (Str.ofString "__subclasscheck__"), key := Value.str (Str.ofString "__subclasscheck__") 356, val := Value.ref 85 }, { hash := PyData.keyHash P (Str.ofString "register"), key := Value.str (Str.ofString "register") 364, val := Value.ref 92 }, { hash := PyData.keyHash P (Str.ofString "__static_attributes__"), key := Value.str (Str.ofString "__static_attributes__") 365, val := Value.ref 93 }] 7 }
noncomputable def o69f (P : Params) : Obj := { cls := Value.none, data := Data.fields #[Value.int 19 0, Value.int 4 0, Value.ref 77, Value.int 25 0, Value.int 4 0, Value.ref 84, Value.int 30 0, Value.int 4 0, Value.ref 91] }
noncomputable def o70f (P : Params) : Obj := { cls := Value.type "code", data := Data.fields #[Value.str (Str.ofString "_ABCLike") 330, Value.str (Str.ofString "_ABCLike") 331, Value.str (Str.ofString "/claim/cut.py") 332, Value.int 17 0, Value.int 0 0, Value.int 0 0, Value.int 0 0, Value.int 0 0, Value.ref 68, Value.bool false, Value.int 276 0, Value.ref 69, Value.none, Value.none, Value.none, Value.none, Value.int 333 0, Value.int 17 0, Value.str (Str.ofString "/claim/cut.py") 334] }
noncomputable def o71f (P : Params) : Obj := { cls := Value.type "frame", slots := #[some (Value.ref 70), some (Value.ref 3), some (Value.ref 67), none, some (Value.str (Str.ofString "collections.abc") 326), none, some (Value.ref 0)] }
noncomputable def o96f (P : Params) : Obj := { cls := Value.type "super", data := Data.fields #[Value.ref 95, Value.ref 95, Value.ref 95] }
noncomputable def o97f (P : Params) : Obj := { cls := Value.type "builtin_function_or_method", data := Data.fields #[Value.builtin "object.__init_subclass__", Value.ref 95] }
noncomputable def o140f (P : Params) : Obj := { cls := Value.type "list", data := Data.seq #[Value.int 14 435, Value.int 14 436, Value.int 4 437, Value.int 1 438, Value.int 1 439, Value.int 9 440, Value.int 0 441, Value.int 64 442, Value.int 0 443, Value.int 1342177280 444, Value.int 0 445, Value.int 0 446, Value.int 0 447, Value.int 0 448, Value.int 0 449, Value.int 17 450, Value.int 0 451, Value.int 13 452, Value.int 11 453, Value.int 9 454, Value.int 0 455, Value.int 64 456, Value.int 0 457, Value.int 1342177280 458, Value.int 0 459, Value.int 0 460, Value.int 0 461, Value.int 0 462, Value.int 0 463, Value.int 17 464, Value.int 1 465, Value.int 1 466] }
noncomputable def o141f (P : Params) : Obj := { cls := Value.type "dict", data := Data.dict #[] }
noncomputable def o142f (P : Params) : Obj := { cls := Value.type "tuple", data := Data.seq #[Value.none, Value.none] }
noncomputable def o145f (P : Params) : Obj := { cls := Value.type "bytes_iterator", data := Data.fields #[Value.none, Value.int 24 0] }
noncomputable def o147f (P : Params) : Obj := { cls := Value.type "dict", data := Data.dict #[] 2 }
noncomputable def o149f (P : Params) : Obj := { cls := Value.type "StopIteration", data := Data.fields #[Value.ref 148, Value.none, Value.none, Value.none, Value.bool false, Value.none] }
noncomputable def o3s (P : Params) : Obj := { cls := Value.type "dict", data := Data.dict #[{ hash := PyData.keyHash P (Str.ofString "__name__"), key := Value.str (Str.ofString "__name__") 165, val := Value.str (Str.ofString "__main__") 164 }, { hash := PyData.keyHash P (Str.ofString "__doc__"), key := Value.str (Str.ofString "__doc__") 166, val := Value.none }, { hash := PyData.keyHash P (Str.ofString "__package__"), key := Value.str (Str.ofString "__package__") 167, val := Value.none }, { hash := PyData.keyHash P (Str.ofString "__loader__"), key := Value.str (Str.ofString "__loader__") 168, val := Value.builtin "__main__.__loader__#opaque" }, { hash := PyData.keyHash P (Str.ofString "__spec__"), key := Value.str (Str.ofString "__spec__") 169, val := Value.none }, { hash := PyData.keyHash P (Str.ofString "__annotations__"), key := Value.str (Str.ofString "__annotations__") 170, val := Value.ref 6 }, { hash := PyData.keyHash P (Str.ofString "__builtins__"), key := Value.str (Str.ofString "__builtins__") 171, val := Value.ref 4 }, { hash := PyData.keyHash P (Str.ofString "__file__"), key := Value.str (Str.ofString "__file__") 173, val := Value.str (Str.ofString "/claim/cut.py") 172 }, { hash := PyData.keyHash P (Str.ofString "__cached__"), key := Value.str (Str.ofString "__cached__") 174, val := Value.none }, { hash := PyData.keyHash P (Str.ofString "_sre"), key := Value.str (Str.ofString "_sre") 275, val := Value.ref 12 }] 10 }
noncomputable def o3A (P : Params) : Obj := { cls := Value.type "dict", data := Data.dict #[{ hash := PyData.keyHash P (Str.ofString "__name__"), key := Value.str (Str.ofString "__name__") 165, val := Value.str (Str.ofString "re") 470 }, { hash := PyData.keyHash P (Str.ofString "__doc__"), key := Value.str (Str.ofString "__doc__") 166, val := Value.none }, { hash := PyData.keyHash P (Str.ofString "__package__"), key := Value.str (Str.ofString "__package__") 167, val := Value.none }, { hash := PyData.keyHash P (Str.ofString "__loader__"), key := Value.str (Str.ofString "__loader__") 168, val := Value.builtin "__main__.__loader__#opaque" }, { hash := PyData.keyHash P (Str.ofString "__spec__"), key := Value.str (Str.ofString "__spec__") 169, val := Value.none }, { hash := PyData.keyHash P (Str.ofString "__annotations__"), key := Value.str (Str.ofString "__annotations__") 170, val := Value.ref 6 }, { hash := PyData.keyHash P (Str.ofString "__builtins__"), key := Value.str (Str.ofString "__builtins__") 171, val := Value.ref 4 }, { hash := PyData.keyHash P (Str.ofString "__file__"), key := Value.str (Str.ofString "__file__") 173, val := Value.str (Str.ofString "/claim/cut.py") 172 }, { hash := PyData.keyHash P (Str.ofString "__cached__"), key := Value.str (Str.ofString "__cached__") 174, val := Value.none }, { hash := PyData.keyHash P (Str.ofString "_sre"), key := Value.str (Str.ofString "_sre") 275, val := Value.ref 12 }, { hash := PyData.keyHash P (Str.ofString "_wall"), key := Value.str (Str.ofString "_wall") 288, val := Value.ref 38 }, { hash := PyData.keyHash P (Str.ofString "_plain_name"), key := Value.str (Str.ofString "_plain_name") 299, val := Value.ref 45 }, { hash := PyData.keyHash P (Str.ofString "ABCMeta"), key := Value.str (Str.ofString "ABCMeta") 325, val := Value.ref 62 }, { hash := PyData.keyHash P (Str.ofString "_ABCLike"), key := Value.str (Str.ofString "_ABCLike") 368, val := Value.ref 95 }, { hash := PyData.keyHash P (Str.ofString "_abc_plain_meta"), key := Value.str (Str.ofString "_abc_plain_meta") 375, val := Value.ref 104 }, { hash := PyData.keyHash P (Str.ofString "fspath"), key := Value.str (Str.ofString "fspath") 387, val := Value.ref 111 }, { hash := PyData.keyHash P (Str.ofString "_check_arg_types"), key := Value.str (Str.ofString "_check_arg_types") 400, val := Value.ref 118 }, { hash := PyData.keyHash P (Str.ofString "_get_sep"), key := Value.str (Str.ofString "_get_sep") 409, val := Value.ref 125 }, { hash := PyData.keyHash P (Str.ofString "join"), key := Value.str (Str.ofString "join") 420, val := Value.ref 132 }, { hash := PyData.keyHash P (Str.ofString "split"), key := Value.str (Str.ofString "split") 431, val := Value.ref 139 }, { hash := PyData.keyHash P (Str.ofString "_twin_re_1"), key := Value.str (Str.ofString "_twin_re_1") 469, val := Value.ref 144 }] 21 }
noncomputable def o29A (P : Params) : Obj := { cls := Value.none, data := Data.fields #[Value.int 2 0, Value.int 0 0, Value.ref 37, Value.int 6 0, Value.int 0 0, Value.ref 44, Value.int 12 0, Value.int 0 0, Value.ref 51, Value.int 17 0, Value.int 0 0, Value.ref 70, Value.int 32 0, Value.int 0 0, Value.ref 103, Value.int 36 0, Value.int 0 0, Value.ref 110, Value.int 53 0, Value.int 0 0, Value.ref 117, Value.int 65 0, Value.int 0 0, Value.ref 124, Value.int 70 0, Value.int 0 0, Value.ref 131, Value.int 87 0, Value.int 0 0, Value.ref 138] }
noncomputable def o3B (P : Params) : Obj := { cls := Value.type "dict", data := Data.dict #[{ hash := PyData.keyHash P (Str.ofString "__name__"), key := Value.str (Str.ofString "__name__") 165, val := Value.str (Str.ofString "re") 470 }, { hash := PyData.keyHash P (Str.ofString "__doc__"), key := Value.str (Str.ofString "__doc__") 166, val := Value.none }, { hash := PyData.keyHash P (Str.ofString "__package__"), key := Value.str (Str.ofString "__package__") 167, val := Value.none }, { hash := PyData.keyHash P (Str.ofString "__loader__"), key := Value.str (Str.ofString "__loader__") 168, val := Value.builtin "__main__.__loader__#opaque" }, { hash := PyData.keyHash P (Str.ofString "__spec__"), key := Value.str (Str.ofString "__spec__") 169, val := Value.none }, { hash := PyData.keyHash P (Str.ofString "__annotations__"), key := Value.str (Str.ofString "__annotations__") 170, val := Value.ref 6 }, { hash := PyData.keyHash P (Str.ofString "__builtins__"), key := Value.str (Str.ofString "__builtins__") 171, val := Value.ref 4 }, { hash := PyData.keyHash P (Str.ofString "__file__"), key := Value.str (Str.ofString "__file__") 173, val := Value.str (Str.ofString "/claim/cut.py") 172 }, { hash := PyData.keyHash P (Str.ofString "__cached__"), key := Value.str (Str.ofString "__cached__") 174, val := Value.none }, { hash := PyData.keyHash P (Str.ofString "_sre"), key := Value.str (Str.ofString "_sre") 275, val := Value.ref 12 }, { hash := PyData.keyHash P (Str.ofString "_wall"), key := Value.str (Str.ofString "_wall") 288, val := Value.ref 38 }, { hash := PyData.keyHash P (Str.ofString "_plain_name"), key := Value.str (Str.ofString "_plain_name") 299, val := Value.ref 45 }, { hash := PyData.keyHash P (Str.ofString "ABCMeta"), key := Value.str (Str.ofString "ABCMeta") 325, val := Value.ref 62 }, { hash := PyData.keyHash P (Str.ofString "_ABCLike"), key := Value.str (Str.ofString "_ABCLike") 368, val := Value.ref 95 }, { hash := PyData.keyHash P (Str.ofString "_abc_plain_meta"), key := Value.str (Str.ofString "_abc_plain_meta") 375, val := Value.ref 104 }, { hash := PyData.keyHash P (Str.ofString "fspath"), key := Value.str (Str.ofString "fspath") 387, val := Value.ref 111 }, { hash := PyData.keyHash P (Str.ofString "_check_arg_types"), key := Value.str (Str.ofString "_check_arg_types") 400, val := Value.ref 118 }, { hash := PyData.keyHash P (Str.ofString "_get_sep"), key := Value.str (Str.ofString "_get_sep") 409, val := Value.ref 125 }, { hash := PyData.keyHash P (Str.ofString "join"), key := Value.str (Str.ofString "join") 420, val := Value.ref 132 }, { hash := PyData.keyHash P (Str.ofString "split"), key := Value.str (Str.ofString "split") 431, val := Value.ref 139 }, { hash := PyData.keyHash P (Str.ofString "_twin_re_1"), key := Value.str (Str.ofString "_twin_re_1") 469, val := Value.ref 144 }, { hash := PyData.keyHash P (Str.ofString "_special_chars_map"), key := Value.str (Str.ofString "_special_chars_map") 617, val := Value.ref 146 }] 22 }
noncomputable def o11i (P : Params) : Obj := { cls := Value.type "dict", data := Data.dict #[{ hash := PyData.keyHash P (Str.ofString "__name__"), key := Value.str (Str.ofString "__name__") 247, val := Value.str (Str.ofString "_sre") 246 }, { hash := PyData.keyHash P (Str.ofString "__doc__"), key := Value.str (Str.ofString "__doc__") 248, val := Value.none }, { hash := PyData.keyHash P (Str.ofString "__package__"), key := Value.str (Str.ofString "__package__") 250, val := Value.str (Str.ofString "") 249 }, { hash := PyData.keyHash P (Str.ofString "__loader__"), key := Value.str (Str.ofString "__loader__") 251, val := Value.ref 14 }, { hash := PyData.keyHash P (Str.ofString "__spec__"), key := Value.str (Str.ofString "__spec__") 252, val := Value.ref 26 }, { hash := PyData.keyHash P (Str.ofString "compile"), key := Value.str (Str.ofString "compile") 253, val := Value.builtin "_sre.compile" }, { hash := PyData.keyHash P (Str.ofString "template"), key := Value.str (Str.ofString "template") 254, val := Value.builtin "_sre.template" }, { hash := PyData.keyHash P (Str.ofString "getcodesize"), key := Value.str (Str.ofString "getcodesize") 255, val := Value.builtin "_sre.getcodesize" }, { hash := PyData.keyHash P (Str.ofString "ascii_iscased"), key := Value.str (Str.ofString "ascii_iscased") 256, val := Value.builtin "_sre.ascii_iscased" }, { hash := PyData.keyHash P (Str.ofString "unicode_iscased"), key := Value.str (Str.ofString "unicode_iscased") 257, val := Value.builtin "_sre.unicode_iscased" }, { hash := PyData.keyHash P (Str.ofString "ascii_tolower"), key := Value.str (Str.ofString "ascii_tolower") 258, val := Value.builtin "_sre.ascii_tolower" }, { hash := PyData.keyHash P (Str.ofString "unicode_tolower"), key := Value.str (Str.ofString "unicode_tolower") 259, val := Value.builtin "_sre.unicode_tolower" }, { hash := PyData.keyHash P (Str.ofString "MAGIC"), key := Value.str (Str.ofString "MAGIC") 261, val := Value.int 20230612 260 }, { hash := PyData.keyHash P (Str.ofString "CODESIZE"), key := Value.str (Str.ofString "CODESIZE") 263, val := Value.int 4 262 }, { hash := PyData.keyHash P (Str.ofString "MAXREPEAT"), key := Value.str (Str.ofString "MAXREPEAT") 265, val := Value.int 4294967295 264 }, { hash := PyData.keyHash P (Str.ofString "MAXGROUPS"), key := Value.str (Str.ofString "MAXGROUPS") 267, val := Value.int 1073741823 266 }, { hash := PyData.keyHash P (Str.ofString "copyright"), key := Value.str (Str.ofString "copyright") 269, val := Value.str (Str.ofString " SRE 2.2.2 Copyright (c) 1997-2002 by Secret Labs AB ") 268 }] 17 }
noncomputable def h0 (P : Params) : Heap := ⟨Array.mk [(boot_o_0 P), (o1f P), (kO P 0), (o3s P), (boot_o_4 P), (boot_o_5 P), (boot_o_6 P), (boot_o_7 P), (boot_o_8 P), (boot_o_9 P), (boot_o_10 P), (o11f P), (o12f P), (o13f P), (o14f P), (kO P 2), (o16f P), (o17f P), (o18f P), (o19f P), (o20f P), (o21f P), (o22f P), (o23f P), (o24f P), (o25f P), (o26f P), (o27f P)], {}⟩
noncomputable def t0 (P : Params) : BT := (.node (boot_o_0 P) (.node (o1f P) (.node (o3s P) (.node (boot_o_7 P) (.node (kO P 2) (.node (o31f P) .nil .nil) .nil) (.node (o23f P) .nil .nil)) (.node (o11f P) (.node (o19f P) .nil .nil) (.node (o27f P) .nil .nil))) (.node (boot_o_5 P) (.node (boot_o_9 P) (.node (o17f P) .nil .nil) (.node (o25f P) .nil .nil)) (.node (o13f P) (.node (o21f P) .nil .nil) (.node (o33f P) .nil .nil)))) (.node (kO P 0) (.node (boot_o_4 P) (.node (boot_o_8 P) (.node (o16f P) .nil .nil) (.node (o24f P) .nil .nil)) (.node (o12f P) (.node (o20f P) .nil .nil) (.node (kO P 2) .nil .nil))) (.node (boot_o_6 P) (.node (boot_o_10 P) (.node (o18f P) .nil .nil) (.node (o26f P) .nil .nil)) (.node (o14f P) (.node (o22f P) .nil .nil) (.node (o30f P) .nil .nil)))))
noncomputable def tA (P : Params) : BT := (.node (boot_o_0 P) (.node (o1f P) (.node (o3A P) (.node (boot_o_7 P) (.node (kO P 2) (.node (o31f P) (.node (o63f P) (.node (o33f P) .nil .nil) .nil) (.node (kO P 39) .nil .nil)) (.node (o47f P) (.node (kO P 27) (.node (kO P 70) .nil .nil) .nil) (.node (kO P 49) .nil .nil))) (.node (o23f P) (.node (kO P 7) (.node (o71f P) (.node (kO P 66) .nil .nil) .nil) (.node (kO P 43) .nil .nil)) (.node (kO P 14) (.node (o33f P) .nil .nil) (.node (kO P 55) .nil .nil)))) (.node (o11f P) (.node (o19f P) (.node (kO P 4) (.node (o67f P) (.node (kO P 63) .nil .nil) .nil) (.node (o33f P) .nil .nil)) (.node (o51f P) (.node (kC P 31) .nil .nil) (.node (kO P 52) .nil .nil))) (.node (o27f P) (.node (kC P 11) (.node (kO P 24) (.node (kO P 69) .nil .nil) .nil) (.node (kO P 46) .nil .nil)) (.node (kO P 17) (.node (kO P 35) .nil .nil) (.node (kC P 59) .nil .nil))))) (.node (boot_o_5 P) (.node (boot_o_9 P) (.node (o17f P) (.node (o33f P) (.node (kO P 21) (.node (kO P 62) .nil .nil) .nil) (.node (o97f P) .nil .nil)) (.node (kO P 2) (.node (kO P 28) .nil .nil) (.node (o33f P) .nil .nil))) (.node (o25f P) (.node (kO P 8) (.node (o33f P) (.node (kC P 69) .nil .nil) .nil) (.node (kO P 45) .nil .nil)) (.node (kC P 17) (.node (kO P 34) .nil .nil) (.node (kO P 56) .nil .nil)))) (.node (o13f P) (.node (o21f P) (.node (kO P 5) (.node (o69f P) (.node (kO P 65) .nil .nil) .nil) (.node (kO P 42) .nil .nil)) (.node (kO P 13) (.node (kO P 31) .nil .nil) (.node (kO P 53) .nil .nil))) (.node (o29A P) (.node (kO P 11) (.node (kO P 25) (.node (o141f P) .nil .nil) .nil) (.node (kC P 49) .nil .nil)) (.node (kO P 19) (.node (kO P 37) .nil .nil) (.node (kO P 59) .nil .nil)))))) (.node (kO P 0) (.node (boot_o_4 P) (.node (boot_o_8 P) (.node (o16f P) (.node (kO P 2) (.node (o64f P) (.node (kO P 61) .nil .nil) .nil) (.node (o96f P) .nil .nil)) (.node (o48f P) (.node (o33f P) (.node (kO P 71) .nil .nil) .nil) (.node (kO P 50) .nil .nil))) (.node (o24f P) (.node (o33f P) (.node (kO P 22) (.node (kO P 67) .nil .nil) .nil) (.node (kO P 44) .nil .nil)) (.node (kO P 15) (.node (kO P 33) .nil .nil) (.node (o33f P) .nil .nil)))) (.node (o12f P) (.node (o20f P) (.node (kC P 6) (.node (kO P 2) (.node (kO P 64) .nil .nil) .nil) (.node (kO P 41) .nil .nil)) (.node (o52f P) (.node (kO P 30) .nil .nil) (.node (kC P 54) .nil .nil))) (.node (kO P 2) (.node (kO P 10) (.node (kC P 26) (.node (o140f P) .nil .nil) .nil) (.node (kO P 47) .nil .nil)) (.node (kO P 18) (.node (kO P 36) .nil .nil) (.node (kO P 58) .nil .nil))))) (.node (boot_o_6 P) (.node (boot_o_10 P) (.node (o18f P) (.node (kO P 3) (.node (o47f P) (.node (kC P 64) .nil .nil) .nil) (.node (kO P 40) .nil .nil)) (.node (o50f P) (.node (kO P 29) .nil .nil) (.node (kO P 51) .nil .nil))) (.node (o26f P) (.node (kO P 9) (.node (kO P 23) (.node (kO P 68) .nil .nil) .nil) (.node (o33f P) .nil .nil)) (.node (kO P 16) (.node (kC P 36) .nil .nil) (.node (kO P 57) .nil .nil)))) (.node (o14f P) (.node (o22f P) (.node (kO P 6) (.node (o70f P) (.node (o33f P) .nil .nil) .nil) (.node (kC P 44) .nil .nil)) (.node (o33f P) (.node (kO P 32) .nil .nil) (.node (kO P 54) .nil .nil))) (.node (o30f P) (.node (kO P 12) (.node (kO P 26) (.node (o142f P) .nil .nil) .nil) (.node (kO P 48) .nil .nil)) (.node (kO P 20) (.node (kO P 38) .nil .nil) (.node (kO P 60) .nil .nil)))))))
noncomputable def tB (P : Params) : BT := (.node (boot_o_0 P) (.node (o1f P) (.node (o3B P) (.node (boot_o_7 P) (.node (kO P 2) (.node (o31f P) (.node (o63f P) (.node (o33f P) .nil .nil) .nil) (.node (kO P 39) .nil .nil)) (.node (o47f P) (.node (kO P 27) (.node (kO P 70) .nil .nil) .nil) (.node (kO P 49) .nil .nil))) (.node (o23f P) (.node (kO P 7) (.node (o71f P) (.node (kO P 66) .nil .nil) .nil) (.node (kO P 43) .nil .nil)) (.node (kO P 14) (.node (o33f P) .nil .nil) (.node (kO P 55) .nil .nil)))) (.node (o11f P) (.node (o19f P) (.node (kO P 4) (.node (o67f P) (.node (kO P 63) .nil .nil) .nil) (.node (o33f P) .nil .nil)) (.node (o51f P) (.node (kC P 31) (.node (o147f P) .nil .nil) .nil) (.node (kO P 52) .nil .nil))) (.node (o27f P) (.node (kC P 11) (.node (kO P 24) (.node (kO P 69) .nil .nil) .nil) (.node (kO P 46) .nil .nil)) (.node (kO P 17) (.node (kO P 35) .nil .nil) (.node (kC P 59) .nil .nil))))) (.node (boot_o_5 P) (.node (boot_o_9 P) (.node (o17f P) (.node (o33f P) (.node (kO P 21) (.node (kO P 62) .nil .nil) .nil) (.node (o97f P) .nil .nil)) (.node (kO P 2) (.node (kO P 28) (.node (o145f P) .nil .nil) .nil) (.node (o33f P) .nil .nil))) (.node (o25f P) (.node (kO P 8) (.node (o33f P) (.node (kC P 69) .nil .nil) .nil) (.node (kO P 45) .nil .nil)) (.node (kC P 17) (.node (kO P 34) .nil .nil) (.node (kO P 56) .nil .nil)))) (.node (o13f P) (.node (o21f P) (.node (kO P 5) (.node (o69f P) (.node (kO P 65) .nil .nil) .nil) (.node (kO P 42) .nil .nil)) (.node (kO P 13) (.node (kO P 31) (.node (o149f P) .nil .nil) .nil) (.node (kO P 53) .nil .nil))) (.node (o29A P) (.node (kO P 11) (.node (kO P 25) (.node (o141f P) .nil .nil) .nil) (.node (kC P 49) .nil .nil)) (.node (kO P 19) (.node (kO P 37) .nil .nil) (.node (kO P 59) .nil .nil)))))) (.node (kO P 0) (.node (boot_o_4 P) (.node (boot_o_8 P) (.node (o16f P) (.node (kO P 2) (.node (o64f P) (.node (kO P 61) .nil .nil) .nil) (.node (o96f P) .nil .nil)) (.node (o48f P) (.node (o33f P) (.node (kO P 71) .nil .nil) .nil) (.node (kO P 50) .nil .nil))) (.node (o24f P) (.node (o33f P) (.node (kO P 22) (.node (kO P 67) .nil .nil) .nil) (.node (kO P 44) .nil .nil)) (.node (kO P 15) (.node (kO P 33) .nil .nil) (.node (o33f P) .nil .nil)))) (.node (o12f P) (.node (o20f P) (.node (kC P 6) (.node (kO P 2) (.node (kO P 64) .nil .nil) .nil) (.node (kO P 41) .nil .nil)) (.node (o52f P) (.node (kO P 30) (.node (kO P 2) .nil .nil) .nil) (.node (kC P 54) .nil .nil))) (.node (kO P 2) (.node (kO P 10) (.node (kC P 26) (.node (o140f P) .nil .nil) .nil) (.node (kO P 47) .nil .nil)) (.node (kO P 18) (.node (kO P 36) .nil .nil) (.node (kO P 58) .nil .nil))))) (.node (boot_o_6 P) (.node (boot_o_10 P) (.node (o18f P) (.node (kO P 3) (.node (o47f P) (.node (kC P 64) .nil .nil) .nil) (.node (kO P 40) .nil .nil)) (.node (o50f P) (.node (kO P 29) (.node (kO P 72) .nil .nil) .nil) (.node (kO P 51) .nil .nil))) (.node (o26f P) (.node (kO P 9) (.node (kO P 23) (.node (kO P 68) .nil .nil) .nil) (.node (o33f P) .nil .nil)) (.node (kO P 16) (.node (kC P 36) .nil .nil) (.node (kO P 57) .nil .nil)))) (.node (o14f P) (.node (o22f P) (.node (kO P 6) (.node (o70f P) (.node (o33f P) .nil .nil) .nil) (.node (kC P 44) .nil .nil)) (.node (o33f P) (.node (kO P 32) .nil .nil) (.node (kO P 54) .nil .nil))) (.node (o30f P) (.node (kO P 12) (.node (kO P 26) (.node (o142f P) .nil .nil) .nil) (.node (kO P 48) .nil .nil)) (.node (kO P 20) (.node (kO P 38) .nil .nil) (.node (kO P 60) .nil .nil)))))))
noncomputable def tC (P : Params) : BT := (.node (boot_o_0 P) (.node (o1f P) (.node (kO P 1) (.node (boot_o_7 P) (.node (kO P 2) (.node (o31f P) (.node (o63f P) (.node (o33f P) .nil .nil) (.node (kO P 102) .nil .nil)) (.node (kO P 39) (.node (kO P 79) .nil .nil) .nil)) (.node (o47f P) (.node (kO P 27) (.node (kO P 70) .nil .nil) (.node (kO P 112) .nil .nil)) (.node (kO P 49) (.node (kC P 92) .nil .nil) .nil))) (.node (o23f P) (.node (kO P 7) (.node (o71f P) (.node (kO P 66) .nil .nil) (.node (kC P 108) .nil .nil)) (.node (kO P 43) (.node (kO P 85) .nil .nil) .nil)) (.node (kO P 14) (.node (o33f P) (.node (o33f P) .nil .nil) (.node (kO P 116) .nil .nil)) (.node (kO P 55) (.node (kO P 96) .nil .nil) .nil)))) (.node (o11f P) (.node (o19f P) (.node (kO P 4) (.node (o67f P) (.node (kO P 63) .nil .nil) (.node (kO P 104) .nil .nil)) (.node (o33f P) (.node (kO P 82) .nil .nil) .nil)) (.node (o51f P) (.node (kC P 31) (.node (o147f P) .nil .nil) (.node (kO P 114) .nil .nil)) (.node (kO P 52) (.node (o33f P) .nil .nil) .nil))) (.node (o27f P) (.node (kC P 11) (.node (kO P 24) (.node (kO P 69) .nil .nil) (.node (o33f P) .nil .nil)) (.node (kO P 46) (.node (kO P 88) .nil .nil) .nil)) (.node (kO P 17) (.node (kO P 35) (.node (kO P 76) .nil .nil) .nil) (.node (kC P 59) (.node (kO P 99) .nil .nil) .nil))))) (.node (boot_o_5 P) (.node (boot_o_9 P) (.node (o17f P) (.node (o33f P) (.node (kO P 21) (.node (kO P 62) .nil .nil) (.node (o33f P) .nil .nil)) (.node (o97f P) (.node (kC P 82) .nil .nil) .nil)) (.node (kO P 2) (.node (kO P 28) (.node (o145f P) .nil .nil) (.node (kC P 114) .nil .nil)) (.node (o33f P) (.node (kO P 92) .nil .nil) .nil))) (.node (o25f P) (.node (kO P 8) (.node (o33f P) (.node (kC P 69) .nil .nil) (.node (kO P 108) .nil .nil)) (.node (kO P 45) (.node (kO P 86) .nil .nil) .nil)) (.node (kC P 17) (.node (kO P 34) (.node (kO P 75) .nil .nil) .nil) (.node (kO P 56) (.node (kO P 98) .nil .nil) .nil)))) (.node (o13f P) (.node (o21f P) (.node (kO P 5) (.node (o69f P) (.node (kO P 65) .nil .nil) (.node (kO P 106) .nil .nil)) (.node (kO P 42) (.node (o33f P) .nil .nil) .nil)) (.node (kO P 13) (.node (kO P 31) (.node (o149f P) .nil .nil) (.node (o33f P) .nil .nil)) (.node (kO P 53) (.node (kO P 95) .nil .nil) .nil))) (.node (o29f P) (.node (kO P 11) (.node (kO P 25) (.node (o141f P) .nil .nil) (.node (kO P 110) .nil .nil)) (.node (kC P 49) (.node (kO P 89) .nil .nil) .nil)) (.node (kO P 19) (.node (kO P 37) (.node (kO P 78) .nil .nil) .nil) (.node (kO P 59) (.node (kC P 102) .nil .nil) .nil)))))) (.node (kO P 0) (.node (boot_o_4 P) (.node (boot_o_8 P) (.node (o16f P) (.node (kO P 2) (.node (o64f P) (.node (kO P 61) .nil .nil) (.node (kO P 103) .nil .nil)) (.node (o96f P) (.node (kO P 80) .nil .nil) .nil)) (.node (o48f P) (.node (o33f P) (.node (kO P 71) .nil .nil) (.node (o33f P) .nil .nil)) (.node (kO P 50) (.node (kO P 91) .nil .nil) .nil))) (.node (o24f P) (.node (o33f P) (.node (kO P 22) (.node (kO P 67) .nil .nil) (.node (kO P 107) .nil .nil)) (.node (kO P 44) (.node (kC P 87) .nil .nil) .nil)) (.node (kO P 15) (.node (kO P 33) (.node (kO P 74) .nil .nil) (.node (kO P 117) .nil .nil)) (.node (o33f P) (.node (kO P 97) .nil .nil) .nil)))) (.node (o12f P) (.node (o20f P) (.node (kC P 6) (.node (kO P 2) (.node (kO P 64) .nil .nil) (.node (kO P 105) .nil .nil)) (.node (kO P 41) (.node (kO P 83) .nil .nil) .nil)) (.node (o52f P) (.node (kO P 30) (.node (kO P 2) .nil .nil) (.node (kO P 115) .nil .nil)) (.node (kC P 54) (.node (kO P 94) .nil .nil) .nil))) (.node (kO P 2) (.node (kO P 10) (.node (kC P 26) (.node (o140f P) .nil .nil) (.node (kC P 111) .nil .nil)) (.node (kO P 47) (.node (o33f P) .nil .nil) .nil)) (.node (kO P 18) (.node (kO P 36) (.node (kO P 77) .nil .nil) .nil) (.node (kO P 58) (.node (kO P 100) .nil .nil) .nil))))) (.node (boot_o_6 P) (.node (boot_o_10 P) (.node (o18f P) (.node (kO P 3) (.node (o47f P) (.node (kC P 64) .nil .nil) (.node (kC P 105) .nil .nil)) (.node (kO P 40) (.node (kO P 81) .nil .nil) .nil)) (.node (o50f P) (.node (kO P 29) (.node (kO P 72) .nil .nil) (.node (kO P 113) .nil .nil)) (.node (kO P 51) (.node (kO P 93) .nil .nil) .nil))) (.node (o26f P) (.node (kO P 9) (.node (kO P 23) (.node (kO P 68) .nil .nil) (.node (kO P 109) .nil .nil)) (.node (o33f P) (.node (kO P 87) .nil .nil) .nil)) (.node (kO P 16) (.node (kC P 36) (.node (kC P 77) .nil .nil) .nil) (.node (kO P 57) (.node (o33f P) .nil .nil) .nil)))) (.node (o14f P) (.node (o22f P) (.node (kO P 6) (.node (o70f P) (.node (o33f P) .nil .nil) (.node (o33f P) .nil .nil)) (.node (kC P 44) (.node (kO P 84) .nil .nil) .nil)) (.node (o33f P) (.node (kO P 32) (.node (kO P 73) .nil .nil) (.node (kC P 117) .nil .nil)) (.node (kO P 54) (.node (kC P 97) .nil .nil) .nil))) (.node (o30f P) (.node (kO P 12) (.node (kO P 26) (.node (o142f P) .nil .nil) (.node (kO P 111) .nil .nil)) (.node (kO P 48) (.node (kO P 90) .nil .nil) .nil)) (.node (kO P 20) (.node (kO P 38) (.node (o33f P) .nil .nil) .nil) (.node (kO P 60) (.node (kO P 101) .nil .nil) .nil)))))))
noncomputable def hF (P : Params) : Heap := ⟨Array.mk [(boot_o_0 P), (o1f P), (kO P 0), (kO P 1), (boot_o_4 P), (boot_o_5 P), (boot_o_6 P), (boot_o_7 P), (boot_o_8 P), (boot_o_9 P), (boot_o_10 P), (o11f P), (o12f P), (o13f P), (o14f P), (kO P 2), (o16f P), (o17f P), (o18f P), (o19f P), (o20f P), (o21f P), (o22f P), (o23f P), (o24f P), (o25f P), (o26f P), (o27f P), (kO P 2), (o29f P), (o30f P), (o31f P), (kO P 2), (o33f P), (kO P 3), (kO P 4), (kC P 6), (kO P 5), (kO P 6), (kO P 7), (o33f P), (kO P 8), (kO P 9), (kC P 11), (kO P 10), (kO P 11), (kO P 12), (o47f P), (o48f P), (kO P 2), (o50f P), (o51f P), (o52f P), (kO P 13), (o33f P), (kO P 14), (kO P 15), (kC P 17), (kO P 16), (kO P 17), (kO P 18), (kO P 19), (kO P 20), (o63f P), (o64f P), (kO P 21), (o47f P), (o67f P), (kO P 2), (o69f P), (o70f P), (o71f P), (kO P 22), (o33f P), (kO P 23), (kO P 24), (kC P 26), (kO P 25), (kO P 26), (kO P 27), (o33f P), (kO P 28), (kO P 29), (kC P 31), (kO P 30), (kO P 31), (kO P 32), (o33f P), (kO P 33), (kO P 34), (kC P 36), (kO P 35), (kO P 36), (kO P 37), (kO P 38), (kO P 39), (o96f P), (o97f P), (kO P 40), (o33f P), (kO P 41), (kO P 42), (kC P 44), (kO P 43), (kO P 44), (kO P 45), (o33f P), (kO P 46), (kO P 47), (kC P 49), (kO P 48), (kO P 49), (kO P 50), (o33f P), (kO P 51), (kO P 52), (kC P 54), (kO P 53), (kO P 54), (kO P 55), (o33f P), (kO P 56), (kO P 57), (kC P 59), (kO P 58), (kO P 59), (kO P 60), (o33f P), (kO P 61), (kO P 62), (kC P 64), (kO P 63), (kO P 64), (kO P 65), (o33f P), (kO P 66), (kO P 67), (kC P 69), (kO P 68), (kO P 69), (o140f P), (o141f P), (o142f P), (kO P 70), (kO P 71), (o145f P), (kO P 72), (o147f P), (kO P 2), (o149f P), (kO P 73), (o33f P), (kO P 74), (kO P 75), (kC P 77), (kO P 76), (kO P 77), (kO P 78), (o33f P), (kO P 79), (kO P 80), (kC P 82), (kO P 81), (kO P 82), (kO P 83), (o33f P), (kO P 84), (kO P 85), (kC P 87), (kO P 86), (kO P 87), (kO P 88), (o33f P), (kO P 89), (kO P 90), (kC P 92), (kO P 91), (kO P 92), (kO P 93), (o33f P), (kO P 94), (kO P 95), (kC P 97), (kO P 96), (kO P 97), (kO P 98), (o33f P), (kO P 99), (kO P 100), (kC P 102), (kO P 101), (kO P 102), (kO P 103), (o33f P), (kC P 105), (kO P 104), (kO P 105), (kO P 106), (o33f P), (kC P 108), (kO P 107), (kO P 108), (kO P 109), (o33f P), (kC P 111), (kO P 110), (kO P 111), (kO P 112), (o33f P), (kC P 114), (kO P 113), (kO P 114), (kO P 115), (o33f P), (kC P 117), (kO P 116), (kO P 117)], {}⟩
noncomputable def hI (P : Params) : Heap := ⟨Array.mk [(boot_o_0 P), (o1f P), (kO P 0), (o3s P), (boot_o_4 P), (boot_o_5 P), (boot_o_6 P), (boot_o_7 P), (boot_o_8 P), (boot_o_9 P), (boot_o_10 P), (o11i P), (o12f P), (o13f P), (o14f P), (kO P 2), (o16f P), (o17f P), (o18f P), (o19f P), (o20f P), (o21f P), (o22f P), (o23f P), (o24f P), (o25f P), (o26f P), (o27f P)], {}⟩
noncomputable def tI (P : Params) : BT := (.node (boot_o_0 P) (.node (o1f P) (.node (o3s P) (.node (boot_o_7 P) (.node (kO P 2) .nil .nil) (.node (o23f P) .nil .nil)) (.node (o11i P) (.node (o19f P) .nil .nil) (.node (o27f P) .nil .nil))) (.node (boot_o_5 P) (.node (boot_o_9 P) (.node (o17f P) .nil .nil) (.node (o25f P) .nil .nil)) (.node (o13f P) (.node (o21f P) .nil .nil) .nil))) (.node (kO P 0) (.node (boot_o_4 P) (.node (boot_o_8 P) (.node (o16f P) .nil .nil) (.node (o24f P) .nil .nil)) (.node (o12f P) (.node (o20f P) .nil .nil) .nil)) (.node (boot_o_6 P) (.node (boot_o_10 P) (.node (o18f P) .nil .nil) (.node (o26f P) .nil .nil)) (.node (o14f P) (.node (o22f P) .nil .nil) .nil))))
noncomputable def tZ (P : Params) : BT := .nil
noncomputable def env0 : Env := { scope := PySem.Challenge.rw_il0042_01.prog.main.scope, locals := mainNs, globals := mainNs, cells := [], code := Value.ref 30, frame := some 31 }
noncomputable def cE : Code := .body (behindTheImports PySem.Challenge.rw_il0042_01.prog) env0
noncomputable def sA : List Stmt := (behindTheImports PySem.Challenge.rw_il0042_01.prog).take 18
noncomputable def sB : List Stmt := ((behindTheImports PySem.Challenge.rw_il0042_01.prog).drop 18).take 1
noncomputable def sC : List Stmt := (behindTheImports PySem.Challenge.rw_il0042_01.prog).drop 19
theorem split0 : behindTheImports PySem.Challenge.rw_il0042_01.prog = sA ++ (sB ++ (sC ++ [])) := by kernel_rfl
theorem block_eq {tb : String → Option Builtin} {p : Program} {w : World} {n₀ : Nat} {ann : Option Value} {env : Env} {q : Pos} {n N : Nat} {s s' r : Shared} {b l : List Stmt} {c : Code} {pos p' : Pos} (e : b = l) (h : segRun tb p w n₀ ann 1 n s (blockOf b env c pos [topFrame q]) = some (.next, s', c, p'))
    (k : topRun tb p w n₀ ann N s' (restOf l env c p' [topFrame q]) = some r) : topRun tb p w n₀ ann (n + N) s ⟨denote tb (.body b env), c, pos, [topFrame q]⟩ = some r := by
  subst e
  exact piece_block h k
noncomputable def impE (st : SharedT → Thread → Option (SharedT × Thread)) : Nat → SharedT → Thread → Option SharedT
  | 0, _, _ => none
  | n + 1, s, t => match t.atExitBegin with
    | some [] => some s
    | some (_ :: _) => none
    | none => match st s t with
      | some (s', t') => impE st n s' t'
      | none => none
theorem impE_of {tb : String → Option Builtin} {p : Program} {w : World} : ∀ {n : Nat} {s s' : SharedT} {t : Thread}, impE (stepT (denote tb) p w) n s t = some s' → importEnds tb p w n s.abs t = some s'.abs
  | 0, _, _, _, h => by cases h
  | n + 1, s, s', t, h => by
    unfold impE at h
    unfold importEnds
    cases he : t.atExitBegin with
    | some x =>
      rw [he] at h
      cases x with
      | nil => cases h; rfl
      | cons => cases h
    | none =>
      rw [he] at h
      cases hs : stepT (denote tb) p w s t with
      | none => rw [hs] at h; cases h
      | some r => obtain ⟨s₂, t₂⟩ := r; rw [hs] at h; dsimp only; rw [stepT_spec hs]; exact impE_of h
theorem hStart : (start (opening PySem.Challenge.rw_il0042_01.prog)).1 = SharedT.abs ⟨.nil, 0, {}, #[], {}, 1, (start (opening PySem.Challenge.rw_il0042_01.prog)).1.os⟩ := by kernel_rfl
theorem hImp : ∀ w : World, impE (stepT (denote treeTable) (opening PySem.Challenge.rw_il0042_01.prog) w) 900 ⟨.nil, 0, {}, #[], {}, 1, (start (opening PySem.Challenge.rw_il0042_01.prog)).1.os⟩ (start (opening PySem.Challenge.rw_il0042_01.prog)).2 = some ⟨tI w.params, 28, {}, #[], {}, 276, (start (opening PySem.Challenge.rw_il0042_01.prog)).1.os⟩ := (by
  intro w
  simp only [PySem.W.Fast.te14364793385576792824, PySem.W.Fast.te11892475500146522536, PySem.W.Fast.te10156331382660048174, PySem.W.Fast.te1435165496053646825]
  kernel_rfl)
theorem hFence : ∀ w : World, (fun os => (fenceModules? PySem.Challenge.rw_il0042_01.prog ⟨hI w.params, #[], {}, 276, os⟩).map (fun s => (s.heap, s.gens, s.drawn, s.toks))) = fun _ => some (h0 w.params, #[], {}, 276) := (by
  intro w
  funext os
  simp only [PySem.W.Fast.te14289696077712309145]
  kernel_rfl)
theorem hAbs : ∀ (w : World) (os : OsState), SharedT.abs ⟨tI w.params, 28, {}, #[], {}, 276, os⟩ = ⟨hI w.params, #[], {}, 276, os⟩ := (by
  intro w os
  kernel_rfl)
theorem hImports (w : World) : importEnds treeTable (opening PySem.Challenge.rw_il0042_01.prog) w 900 (start (opening PySem.Challenge.rw_il0042_01.prog)).1 (start (opening PySem.Challenge.rw_il0042_01.prog)).2 = some ⟨hI w.params, #[], {}, 276, (start (opening PySem.Challenge.rw_il0042_01.prog)).1.os⟩ := by
  have h := impE_of (hImp w)
  rw [← hStart, hAbs] at h
  exact h
theorem hOpen : ∀ w : World, (fencedOpening treeTable PySem.Challenge.rw_il0042_01.prog w 5166).map (fun s => (s.heap, s.gens, s.drawn, s.toks)) = some (h0 w.params, #[], {}, 276) :=
  open_cut hImports (by decide) hFence
theorem hSize : ∀ w : World, ((h0 w.params).isNs mainGlobals && (#[] : Array GenState).size == 0, (h0 w.params).objs.size, (h0 w.params).nsMap mainGlobals "__annotations__") = (true, 28, (some (Value.ref 6))) := (by
  intro w
  kernel_rfl)
theorem hPre : ∀ (w : World) (os : OsState), topGo treeTable PySem.Challenge.rw_il0042_01.prog w 28 (some (Value.ref 6)) 12 ⟨h0 w.params, #[], {}, 276, os⟩ (topStub PySem.Challenge.rw_il0042_01.prog) = some (⟨absHeap (t0 w.params) 32 {}, #[], {}, 282, os⟩, ⟨denote treeTable cE, cE, ⟨0, 0, 0, 0⟩, [topFrame ⟨0, 0, 0, 0⟩]⟩) := (by
  intro w os
  simp only [PySem.W.Fast.te14364793385576792824, PySem.W.Fast.te15667345088766844465, PySem.W.Fast.te11892475500146522536]
  kernel_rfl)
theorem hBlk : ∀ (w : World) (os : OsState), segRun treeTable PySem.Challenge.rw_il0042_01.prog w 28 (some (Value.ref 6)) 1 1 ⟨absHeap (t0 w.params) 32 {}, #[], {}, 282, os⟩ (blockOf (behindTheImports PySem.Challenge.rw_il0042_01.prog) env0 cE ⟨0, 0, 0, 0⟩ [topFrame ⟨0, 0, 0, 0⟩]) = some (.next, SharedT.abs ⟨t0 w.params, 32, {}, #[], {}, 282, os⟩, cE, ⟨0, 0, 0, 0⟩) := (by
  intro w os
  kernel_rfl)
theorem hA : ∀ (w : World) (os : OsState), segRunT treeTable PySem.Challenge.rw_il0042_01.prog w 28 (some (Value.ref 6)) 1 1000 ⟨t0 w.params, 32, {}, #[], {}, 282, os⟩ (piecesOf sA env0 cE ⟨0, 0, 0, 0⟩ [topFrame ⟨0, 0, 0, 0⟩]) = some (.next, ⟨tA w.params, 145, {}, #[], {}, 472, os⟩, cE, ⟨96, 0, 96, 8⟩) := (by
  intro w os
  unfold piecesOf
  simp only [PySem.W.Fast.te14364793385576792824, PySem.W.Fast.te10110043849684766642, PySem.W.Fast.te12563942051412417395]
  kernel_rfl)
theorem hB_ff : ∀ (w : World) (os : OsState), segRunT treeTable PySem.Challenge.rw_il0042_01.prog ((w.withFollow "special-get-raises" false).withFollow "comprehension-iter-twice" false) 28 (some (Value.ref 6)) 1 1500 ⟨tA w.params, 145, {}, #[], {}, 472, os⟩ (piecesOf sB env0 cE ⟨96, 0, 96, 8⟩ [topFrame ⟨0, 0, 0, 0⟩]) = some (.next, ⟨tB w.params, 150, {}, #[], {}, 618, os⟩, cE, ⟨97, 0, 97, 18⟩) := (by
  intro w os
  unfold piecesOf
  simp only [PySem.W.Fast.te14364793385576792824, PySem.W.Fast.te10110043849684766642, PySem.W.Fast.te12563942051412417395]
  kernel_rfl)
theorem hB_ft : ∀ (w : World) (os : OsState), segRunT treeTable PySem.Challenge.rw_il0042_01.prog ((w.withFollow "special-get-raises" false).withFollow "comprehension-iter-twice" true) 28 (some (Value.ref 6)) 1 1500 ⟨tA w.params, 145, {}, #[], {}, 472, os⟩ (piecesOf sB env0 cE ⟨96, 0, 96, 8⟩ [topFrame ⟨0, 0, 0, 0⟩]) = some (.next, ⟨tB w.params, 150, {}, #[], {}, 618, os⟩, cE, ⟨97, 0, 97, 18⟩) := (by
  intro w os
  unfold piecesOf
  simp only [PySem.W.Fast.te14364793385576792824, PySem.W.Fast.te10110043849684766642, PySem.W.Fast.te12563942051412417395]
  kernel_rfl)
theorem hB_tf : ∀ (w : World) (os : OsState), segRunT treeTable PySem.Challenge.rw_il0042_01.prog ((w.withFollow "special-get-raises" true).withFollow "comprehension-iter-twice" false) 28 (some (Value.ref 6)) 1 1500 ⟨tA w.params, 145, {}, #[], {}, 472, os⟩ (piecesOf sB env0 cE ⟨96, 0, 96, 8⟩ [topFrame ⟨0, 0, 0, 0⟩]) = some (.next, ⟨tB w.params, 150, {}, #[], {}, 618, os⟩, cE, ⟨97, 0, 97, 18⟩) := (by
  intro w os
  unfold piecesOf
  simp only [PySem.W.Fast.te14364793385576792824, PySem.W.Fast.te10110043849684766642, PySem.W.Fast.te12563942051412417395]
  kernel_rfl)
theorem hB_tt : ∀ (w : World) (os : OsState), segRunT treeTable PySem.Challenge.rw_il0042_01.prog ((w.withFollow "special-get-raises" true).withFollow "comprehension-iter-twice" true) 28 (some (Value.ref 6)) 1 1500 ⟨tA w.params, 145, {}, #[], {}, 472, os⟩ (piecesOf sB env0 cE ⟨96, 0, 96, 8⟩ [topFrame ⟨0, 0, 0, 0⟩]) = some (.next, ⟨tB w.params, 150, {}, #[], {}, 618, os⟩, cE, ⟨97, 0, 97, 18⟩) := (by
  intro w os
  unfold piecesOf
  simp only [PySem.W.Fast.te14364793385576792824, PySem.W.Fast.te10110043849684766642, PySem.W.Fast.te12563942051412417395]
  kernel_rfl)
noncomputable def PB (w : World) : Prop := ∀ os : OsState, segRunT treeTable PySem.Challenge.rw_il0042_01.prog w 28 (some (Value.ref 6)) 1 1500 ⟨tA w.params, 145, {}, #[], {}, 472, os⟩ (piecesOf sB env0 cE ⟨96, 0, 96, 8⟩ [topFrame ⟨0, 0, 0, 0⟩]) = some (.next, ⟨tB w.params, 150, {}, #[], {}, 618, os⟩, cE, ⟨97, 0, 97, 18⟩)
theorem hB (w : World) : PB w :=
  PySem.W.byRow2 "comprehension-iter-twice" (P := PB) (PySem.W.byRow2 "special-get-raises" (P := fun w => PB (w.withFollow "comprehension-iter-twice" false)) hB_ff hB_tf) (PySem.W.byRow2 "special-get-raises" (P := fun w => PB (w.withFollow "comprehension-iter-twice" true)) hB_ft hB_tt) w
theorem hC : ∀ (w : World) (os : OsState), segRunT treeTable PySem.Challenge.rw_il0042_01.prog w 28 (some (Value.ref 6)) 1 600 ⟨tB w.params, 150, {}, #[], {}, 618, os⟩ (piecesOf sC env0 cE ⟨97, 0, 97, 18⟩ [topFrame ⟨0, 0, 0, 0⟩]) = some (.next, ⟨tC w.params, 217, {}, #[], {}, 722, os⟩, cE, ⟨245, 0, 251, 80⟩) := (by
  intro w os
  unfold piecesOf
  simp only [PySem.W.Fast.te14364793385576792824, PySem.W.Fast.te10110043849684766642, PySem.W.Fast.te12563942051412417395]
  kernel_rfl)
theorem hFin : ∀ (w : World) (os : OsState), topRun treeTable PySem.Challenge.rw_il0042_01.prog w 28 (some (Value.ref 6)) 2 (SharedT.abs ⟨tC w.params, 217, {}, #[], {}, 722, os⟩) ⟨doneF .next, cE, ⟨245, 0, 251, 80⟩, [topFrame ⟨0, 0, 0, 0⟩]⟩ = some ⟨hF w.params, #[], {}, 722, os⟩ := (by
  intro w os
  kernel_rfl)
theorem hRun (w : World) (os : OsState) : topRun treeTable PySem.Challenge.rw_il0042_01.prog w 28 (some (Value.ref 6)) (12 + (1 + (1000 + (1500 + (600 + 2))))) ⟨h0 w.params, #[], {}, 276, os⟩ (topStub PySem.Challenge.rw_il0042_01.prog) = some ⟨hF w.params, #[], {}, 722, os⟩ :=
  go_top (hPre w os) (block_eq split0 (hBlk w os) (piece_app (segRun_of (hA w os)) (piece_app (segRun_of (hB w os)) (piece_app (segRun_of (hC w os)) (piece_nil (hFin w os))))))
theorem hStat (w : World) (os : OsState) : (staticsOk (importedModules PySem.Challenge.rw_il0042_01.prog.main.body) (h0 w.params) (hF w.params) && namesBound PySem.Challenge.rw_il0042_01.prog (hF w.params) && gensDone ⟨hF w.params, #[], {}, 722, os⟩ && laidKept (h0 w.params) (hF w.params)) = true := (by
  unfold staticsOk namesBound laidKept
  simp only [PySem.W.Fast.te5923862056798008813, PySem.W.Fast.te8920871248978507458]
  kernel_rfl)
theorem hSeen (w : World) (os : OsState) : openSeen Mine.view0 [Str.ofString "_twin_re_1", Str.ofString "_special_chars_map"] (importedModules PySem.Challenge.rw_il0042_01.prog.main.body) (fun s => xlAt Mine.view0 [] s && recOk (RowW.records (PySem.Challenge.rw_il0042_01.row.toRowW)) s) true ⟨hF w.params, #[], {}, 722, os⟩ = openGood Mine.view0 [Str.ofString "_twin_re_1", Str.ofString "_special_chars_map"] := (by
  simp only [PySem.W.Fast.te4187177175401517315, PySem.W.Fast.te5923862056798008813]
  kernel_rfl)
theorem hObs (w : World) (os : OsState) : Hook.obs (kmHook Mine.hd0.heap_1 Mine.as0 Mine.as0_ok [158]) ⟨hF w.params, #[], {}, 722, os⟩ = Hook.val (kmHook Mine.hd0.heap_1 Mine.as0 Mine.as0_ok [158]) w := (by
  kernel_rfl)
theorem hl_all : LeftO PySem.Challenge.rw_il0042_01.prog Mine.view0 [Str.ofString "_twin_re_1", Str.ofString "_special_chars_map"] (fun s => xlAt Mine.view0 [] s && recOk (RowW.records (PySem.Challenge.rw_il0042_01.row.toRowW)) s) (Hook.obs (kmHook Mine.hd0.heap_1 Mine.as0 Mine.as0_ok [158])) (Hook.val (kmHook Mine.hd0.heap_1 Mine.as0 Mine.as0_ok [158])) 5166 true :=
  LeftO.of_pieces hOpen hSize hRun (by decide) fun w => funext fun os => looks_pair (hStat w os) (looks_pair (hSeen w os) (hObs w os))
theorem sd_resolve : namesResolve PySem.Challenge.rw_il0042_01.prog = true := by kernel_rfl
theorem sd_road : noRoadLSs { strict := !(importedModules PySem.Challenge.rw_il0042_01.prog.main.body).all cThrough.contains, foot := none, bare := (["vars", "dir", "locals"] : List Str).filter (readsOut PySem.Challenge.rw_il0042_01.prog PySem.Challenge.rw_il0042_01.prog.main.body) } PySem.Challenge.rw_il0042_01.prog.main.body = true := by
  simp only [PySem.W.Fast.te8326940854005059898]
  kernel_rfl
theorem sd_meet : namesMeet PySem.Challenge.rw_il0042_01.prog PySem.Challenge.rw_il0042_01.prog.main.body (fun _ n => attrL n) = true := by kernel_rfl
theorem sd_fenced : (sreFenced PySem.Challenge.rw_il0042_01.prog.main && ((moduleNames PySem.Challenge.rw_il0042_01.prog.main.body).isEmpty || lookedIntoSs (moduleNames PySem.Challenge.rw_il0042_01.prog.main.body) PySem.Challenge.rw_il0042_01.prog.main.body)) = true := by kernel_rfl
theorem sd_bound : PySem.Challenge.rw_il0042_01.prog.boundNames.all (fun n => !worldNames.contains n) = true := by kernel_rfl
theorem sd_looks : looksOpen PySem.Challenge.rw_il0042_01.prog = true := by
  unfold looksOpen
  exact look_both (look_both (look_both (look_both sd_fenced sd_resolve) sd_bound) sd_road) sd_meet
theorem sd_part : PySem.Challenge.rw_il0042_01.row.partSaid = true := by
  unfold OpenRow.partSaid
  rw [show looksOpen PySem.Challenge.rw_il0042_01.row.prog = true from sd_looks]
  kernel_rfl
theorem sd_row : PySem.Challenge.rw_il0042_01.row.wellSaid = true := by
  unfold OpenRow.wellSaid
  rw [sd_part]
  kernel_rfl
theorem said0 : PySem.Challenge.rw_il0042_01.wellSaid = true := by
  unfold OpenLaw.wellSaid
  rw [sd_row]
  kernel_rfl
local macro_rules | `(tactic| o_law) => `(tactic| refine holds_law Mine.said0 fun said => ?_)
local macro_rules | `(tactic| k_head) => `(tactic| o_head (kmHook Mine.hd0.heap_1 Mine.as0 Mine.as0_ok [158]))
local macro_rules | `(tactic| o_head $H) => `(tactic| (refine PySem.W.holds_open (q := Mine.view0) (loose := [Str.ofString "_twin_re_1", Str.ofString "_special_chars_map"]) (Xt := (fun s => xlAt Mine.view0 [] s && recOk (RowW.records (PySem.Challenge.rw_il0042_01.row.toRowW)) s)) (XP := XL Mine.view0 []) (Yf := Hook.obs $H) (Ya := Hook.val $H) (YP := Hook.says $H) (N := 5166) Mine.hl_all (Hook.of $H) (Hook.keeps $H) (fun s e => xl_of s (Bool.and_eq_true_iff.mp e).1) XL.keeps (by rfl) (by rfl) (by rfl) (fun s e => recFacts_of (Bool.and_eq_true_iff.mp e).2) (by rfl) (by first | assumption | decide +kernel) (by decide +kernel) ⟨rfl, rfl, rfl, rfl, rfl, by decide +kernel⟩ ?hw ?hc))
open_top hd for PySem.Challenge.rw_il0042_01
theorem top_off : True := by
  w_top off
  trivial
noncomputable def Spec (w : World) (loose : List Str) (mean : ExcName → Option Value) (mg mb : Str → Option Value) (f : Addr) (args : List Value) (need : Nat) (news : List (Addr × Obj)) (P : Value → List (Addr × Obj) → Prop) : Prop :=
  ∀ (dp un : Nat) (gd : Option (List Code)) (cn : Str) (cs : Scope) (a : Addr) (ccd : Value) (cl : List (Str × Addr)) (outer : List Env) (A₀ : Around) (base h₀ : Heap) (L : Addr) (m : Str → Option Value) (s : Shared)
    (Q E : Value → Shared → Prop),
    Below A₀ base outer h₀ → Fr h₀ L s.heap m → (hd0.heap_1 w.params).In h₀ → News h₀ L s.heap news → Top topProg loose mean mg mb h₀ → cs.kind = .function → dp + need < recursionLimit → un + 8 * need < cLine →
    (∀ r news' h' tk', Fr h₀ L h' m → News h₀ L h' news' → P r news' → Q r { s with heap := h', toks := tk' }) →
    wpAny (model PySem.Challenge.rw_il0042_01.prog w) (ktrTop dp un gd cn cs L a ccd cl outer) (call (.ref f) args) Q E s
theorem Spec.use {w : World} {loose : List Str} {mean : ExcName → Option Value} {mg mb : Str → Option Value} {f : Addr} {args : List Value} {need : Nat} {news : List (Addr × Obj)} {P : Value → List (Addr × Obj) → Prop}
    {dp un : Nat} {gd : Option (List Code)} {cn : Str} {cs : Scope} {a : Addr} {ccd : Value} {cl : List (Str × Addr)} {outer : List Env} {A₀ : Around} {base h₀ : Heap} {L : Addr} {m : Str → Option Value} {s : Shared} {Q E : Value → Shared → Prop}
    (B : Below A₀ base outer h₀) (F : Fr h₀ L s.heap m) (X : (hd0.heap_1 w.params).In h₀) (N : News h₀ L s.heap news) (T : Top topProg loose mean mg mb h₀) (hk : cs.kind = .function)
    (C : Spec w loose mean mg mb f args need news P) (hd : dp + need < recursionLimit) (hu : un + 8 * need < cLine)
    (ret : ∀ r news' h' tk', Fr h₀ L h' m → News h₀ L h' news' → P r news' → Q r { s with heap := h', toks := tk' }) :
    wpAny (model PySem.Challenge.rw_il0042_01.prog w) (ktrTop dp un gd cn cs L a ccd cl outer) (call (.ref f) args) Q E s :=
  C dp un gd cn cs a ccd cl outer A₀ base h₀ L m s Q E B F X N T hk hd hu ret
theorem room {d dp k need N R : Nat} (h : dp + N < R) (e : d = dp + k) (hle : k + need ≤ N) : d + need < R := by
  subst e
  omega
theorem room0 {d dp k N R : Nat} (h : dp + N < R) (e : d = dp + k) (hle : k ≤ N) : d < R := by
  subst e
  omega
theorem units {u un k need N C : Nat} (h : un + 8 * N < C) (e : u = un + k) (hle : k + 8 * need ≤ 8 * N) : u + 8 * need < C := by
  subst e
  omega
end Mine
local macro_rules | `(tactic| walk_at $s:str) => `(tactic| k_extra $s)
local macro_rules | `(tactic| ktr_room) => `(tactic| first | exact Mine.room (by assumption) rfl (by first | decide | omega) | exact Mine.room0 (by assumption) rfl (by first | decide | omega) | fail "no room in the context")
local macro_rules | `(tactic| ktr_units) => `(tactic| first | exact Mine.units (by assumption) rfl (by first | decide | omega) | fail "no units in the context")
namespace Mine
theorem args_issubclass_nested_3 (a b c : Value) : argsOk "issubclass.nested" ⟨[a, b, c], []⟩ := by unfold argsOk; kernel_rfl
theorem kind_issubclass_nested : builtinKind "issubclass.nested" = none := by decide +kernel
theorem plain_issubclass_nested : plainId "issubclass.nested" = true := by decide +kernel
theorem isub_str : isSubtype (.type "str") (.type "str") = pure true := by rw [isSubtype_type]; kernel_rfl
theorem ty_type : typeOf (.type "str") = pure (.type "type") := by kernel_rfl
theorem sub_str_str {c : Value} {dep : Int} {tk : Tok} (hc : c = .type "str") : Meets (Builtin.«issubclass.nested» ⟨[.type "str", c, .int dep tk], []⟩) (fun _ R s => R (.ok (.ret (.bool true))) s) := by
  subst hc
  intro prog w A R s hs
  obtain ⟨h, g, d, t, os⟩ := s
  have f1 := isub_str
  have f2 := ty_type
  repeat (any_goals (first | assumption | wp_step))
theorem sub_tuple {tp : Addr} {n : Nat} {tk : Tok} : Meets (Builtin.«issubclass.nested» ⟨[.type "str", .ref tp, .int 0 tk], []⟩) (fun _ R s => s.heap.get? tp = some { cls := .type "tuple", data := .seq #[.type "str", .type "bytes"] n } ∧ R (.ok (.ret (.bool true))) s) := by
  rintro prog w A R s ⟨htp, hs⟩
  obtain ⟨h, g, d, t, os⟩ := s
  have hT2 : (⟨h, g, d, t, os⟩ : Shared).TypeIs (.ref tp) "tuple" := ⟨_, htp, rfl⟩
  have f1 := F.isi_sub_tuple
  repeat (any_goals (first | assumption | ((with_reducible show wpAny _ _ (call (Value.builtin "issubclass.nested") [_, _, _]) _ _ _); refine call_function_meets kind_issubclass_nested plain_issubclass_nested F.entry_issubclass_nested (args_issubclass_nested_3 _ _ _) (sub_str_str (by rfl)) ?_) | wp_step))
theorem issubclass_tuple {tp : Addr} {n : Nat} : Meets (Builtin.«issubclass» ⟨[.type "str", .ref tp], []⟩) (fun _ R s => s.heap.get? tp = some { cls := .type "tuple", data := .seq #[.type "str", .type "bytes"] n } ∧ R (.ok (.ret (.bool true))) s) :=
  fun prog w A R s hs => issubclass_outer (sub_tuple prog w A R s hs)
theorem call_issub {prog : Program} {w : World} {A : Around} {s : Shared} {h₀ : Heap} {L : Addr} {news : List (Addr × Obj)} {Q E : Value → Shared → Prop} {tp : Addr} {n : Nat} (N : News h₀ L s.heap news) (hm : (tp, { cls := .type "tuple", data := .seq #[.type "str", .type "bytes"] n }) ∈ news)
   (h : Q (.bool true) s) : wpAny (model prog w) A (call (.builtin "issubclass") [.type "str", .ref tp]) Q E s :=
  call_issubclass issubclass_tuple ⟨(N _ hm).1, h⟩
theorem wd01_1 : True := by
  (k_with "call builtin:issubclass" => ((k_here; k_dflt (refine' call_issub ?k1 ?k2 ?_; (case k1 => k_asm); (case k2 => k_mem)))))
  trivial
theorem news_tail {h₀ h : Heap} {L : Addr} {p : Addr × Obj} {news : List (Addr × Obj)} (N : News h₀ L h (p :: news)) : News h₀ L h news := fun q hq => N q (.tail _ hq)
theorem fspath_spec (w : World) (loose : List Str) (mean : ExcName → Option Value) (mg mb : Str → Option Value) (news) (x : Str) (t : Tok) : Spec w loose mean mg mb 111 [.str x t] 1 news (fun r n' => n' = news ∧ ∃ t', r = .str x t') := by
  unfold Spec
  k_fill
  intro dp un gd cn cs a ccd cl outer A₀ base h₀ L m s Q E B F X N T hk hd hu hret
  refine wpAny_call ?_
  k_dflt ktr_enter
  k_steps
  all_goals (exact hret _ _ _ _ (by assumption) (news_tail (by assumption)) ⟨rfl, _, rfl⟩)
theorem wd01_2 : True := by
  (k_with "call ref" => (((with_reducible show wpAny _ _ (call (Value.ref 111) [Value.str _ _]) _ _ _); k_dflt (refine' Spec.use ?k1 ?k2 ?k3 ?k4 ?k5 ?kK (fspath_spec _ _ _ _ _ _ _ _) ?kd ?ku ?_; (case k1 => k_asm); (case k2 => k_asm); (case k3 => k_asm); (case k4 => k_asm); (case k5 => k_asm); (case kK => first | exact rfl | assumption); (case kd => ktr_room); (case ku => ktr_units); (intro r9 n9 h9 tk9 F9 N9 P9); (obtain ⟨e9, t9, e8⟩ := P9; replace e9 := Eq.symm e9; subst e9; subst e8); (try dsimp only); (try k_sweep)))))
  trivial
theorem get_sep_spec (w : World) (loose : List Str) (mean : ExcName → Option Value) (mg mb : Str → Option Value) (news) (x : Str) (t : Tok) : Spec w loose mean mg mb 125 [.str x t] 1 news (fun r n' => n' = news ∧ ∃ t', r = .str (Str.ofString "/") t') := by
  unfold Spec
  k_fill
  intro dp un gd cn cs a ccd cl outer A₀ base h₀ L m s Q E B F X N T hk hd hu hret
  refine wpAny_call ?_
  k_dflt ktr_enter
  k_steps
  all_goals (exact hret _ _ _ _ (by assumption) (by assumption) ⟨rfl, _, rfl⟩)
theorem wd01_3 : True := by
  (k_with "call ref" => (((with_reducible show wpAny _ _ (call (Value.ref 125) [Value.str _ _]) _ _ _); k_dflt (refine' Spec.use ?k1 ?k2 ?k3 ?k4 ?k5 ?kK (get_sep_spec _ _ _ _ _ _ _ _) ?kd ?ku ?_; (case k1 => k_asm); (case k2 => k_asm); (case k3 => k_asm); (case k4 => k_asm); (case k5 => k_asm); (case kK => first | exact rfl | assumption); (case kd => ktr_room); (case ku => ktr_units); (intro r9 n9 h9 tk9 F9 N9 P9); (obtain ⟨e9, t9, e8⟩ := P9; replace e9 := Eq.symm e9; subst e9; subst e8); (try dsimp only); (try k_sweep)))))
  trivial
theorem wd01_off : True := by
  k_with_none
  trivial
end Mine
namespace Mine
noncomputable abbrev tupO (vs : List Value) : Obj := { cls := .type "tuple", data := .seq vs.toArray }
theorem unr_one {h₀ : Heap} {L : Addr} {s₁ : Shared} {I : Addr} {o : Obj} {rest : (Str → Option Value) → List (Addr × Obj) → Prop} {h' : Heap} {tk : Nat} {m' : Str → Option Value} {news' : List (Addr × Obj)}
    (F : Fr h₀ L h' m') (N : News h₀ L h' ((I, o) :: news')) (hI : ∀ p ∈ news', p.1 ≠ I) (r : rest m' news') : UnrEndW h₀ L s₁ [(I, o)] rest { s₁ with heap := h', toks := tk } :=
  ⟨h', tk, m', news', rfl, F, N, fun p hp q hq => by rw [List.mem_singleton.mp hq]; exact hI p hp, r⟩
theorem news_skip {h₀ h : Heap} {L : Addr} {p q : Addr × Obj} {news : List (Addr × Obj)} (N : News h₀ L h (p :: q :: news)) : News h₀ L h (p :: news) := fun x hx => by
  rcases List.mem_cons.mp hx with rfl | hx
  · exact N _ (.head _)
  · exact N _ (.tail _ (.tail _ hx))
theorem of_allLt {d : Addr} : ∀ {l : List (Addr × Obj)}, AllLt d l → ∀ p ∈ l, p.1 < d := by
  intro l
  induction l with
  | nil => intro _ p hp; cases hp
  | cons q r ih =>
    intro h p hp
    rcases List.mem_cons.mp hp with e | hp
    · rw [e]; exact h.1
    · exact ih h.2 p hp
noncomputable def splitH (x : Str) : Str := Txt.slice x none (some (Txt.rfind x (Str.ofString "/") + 1))
noncomputable def splitT (x : Str) : Str := Txt.slice x (some (Txt.rfind x (Str.ofString "/") + 1)) none
noncomputable def splitF (x : Str) : Str × Str :=
  (if ((splitH x).length : Int) ≠ 0 then (if (splitH x != Txt.mul (Str.ofString "/") (splitH x).length) = true then Txt.rstripChars (splitH x) (Str.ofString "/") else splitH x) else splitH x, splitT x)
noncomputable def joinF (x y : Str) : Str :=
  if Txt.startswith y (Str.ofString "/") = true then y else if (x.length : Int) = 0 then y else if Txt.endswith x (Str.ofString "/") = true then x ++ y else x ++ (Str.ofString "/" ++ y)
theorem joinF1 {x y : Str} (h : Txt.startswith y (Str.ofString "/") = true) : joinF x y = y := by unfold joinF; rw [if_pos h]
theorem joinF2 {x y : Str} (h : Txt.startswith y (Str.ofString "/") = false) (h2 : (x.length : Int) = 0) : joinF x y = y := by unfold joinF; rw [if_neg (by rw [h]; decide), if_pos h2]
theorem joinF3 {x y : Str} (h : Txt.startswith y (Str.ofString "/") = false) (h2 : (x.length : Int) ≠ 0) (h3 : Txt.endswith x (Str.ofString "/") = true) : joinF x y = x ++ y := by unfold joinF; rw [if_neg (by rw [h]; decide), if_neg h2, if_pos h3]
theorem joinF4 {x y : Str} (h : Txt.startswith y (Str.ofString "/") = false) (h2 : (x.length : Int) ≠ 0) (h3 : Txt.endswith x (Str.ofString "/") = false) : joinF x y = x ++ (Str.ofString "/" ++ y) := by unfold joinF; rw [if_neg (by rw [h]; decide), if_neg h2, if_neg (by rw [h3]; decide)]
theorem splitF1 {x : Str} (h : ((splitH x).length : Int) ≠ 0) (h2 : (splitH x != Txt.mul (Str.ofString "/") (splitH x).length) = true) : splitF x = (Txt.rstripChars (splitH x) (Str.ofString "/"), splitT x) := by unfold splitF; rw [if_pos h, if_pos h2]
theorem splitF2 {x : Str} (h : ((splitH x).length : Int) ≠ 0) (h2 : (splitH x != Txt.mul (Str.ofString "/") (splitH x).length) = false) : splitF x = (splitH x, splitT x) := by unfold splitF; rw [if_pos h, if_neg (by rw [h2]; decide)]
theorem splitF3 {x : Str} (h : ((splitH x).length : Int) = 0) : splitF x = (splitH x, splitT x) := by unfold splitF; rw [if_neg (fun n => n h)]
theorem splitR {D : Addr} {x a b : Str} {t1 t2 : Tok} {news : List (Addr × Obj)} (h : splitF x = (a, b)) : (D, tupO [.str a t1, .str b t2]) :: news = (D, tupO [.str (splitF x).1 t1, .str (splitF x).2 t2]) :: news := by rw [h]
theorem wd02_1 : True := by
  (k_with "call ref" => (((with_reducible show wpAny _ _ (call (Value.ref 111) [Value.str _ _]) _ _ _); k_dflt (refine' Spec.use ?k1 ?k2 ?k3 ?k4 ?k5 ?kK (fspath_spec _ _ _ _ _ _ _ _) ?kd ?ku ?_; (case k1 => k_asm); (case k2 => k_asm); (case k3 => k_asm); (case k4 => k_asm); (case k5 => k_asm); (case kK => first | exact rfl | assumption); (case kd => ktr_room); (case ku => ktr_units); (intro r9 n9 h9 tk9 F9 N9 P9); (obtain ⟨e9, t9, e8⟩ := P9; replace e9 := Eq.symm e9; subst e9; subst e8); (try dsimp only); (try k_sweep)))))
  (k_with "call ref" => (((with_reducible show wpAny _ _ (call (Value.ref 125) [Value.str _ _]) _ _ _); k_dflt (refine' Spec.use ?k1 ?k2 ?k3 ?k4 ?k5 ?kK (get_sep_spec _ _ _ _ _ _ _ _) ?kd ?ku ?_; (case k1 => k_asm); (case k2 => k_asm); (case k3 => k_asm); (case k4 => k_asm); (case k5 => k_asm); (case kK => first | exact rfl | assumption); (case kd => ktr_room); (case ku => ktr_units); (intro r9 n9 h9 tk9 F9 N9 P9); (obtain ⟨e9, t9, e8⟩ := P9; replace e9 := Eq.symm e9; subst e9; subst e8); (try dsimp only); (try k_sweep)))))
  trivial
theorem split_spec (w : World) (loose : List Str) (mean : ExcName → Option Value) (mg mb : Str → Option Value) (news) (x : Str) (t : Tok) (hx : x.length ≤ 100) : Spec w loose mean mg mb 139 [.str x t] 3 news
    (fun r n' => ∃ D t1 t2, r = .ref D ∧ n' = (D, tupO [.str (splitF x).1 t1, .str (splitF x).2 t2]) :: news ∧ ∀ p ∈ news, p.1 < D) := by
  unfold Spec
  k_fill
  intro dp un gd cn cs a ccd cl outer A₀ base h₀ L m s Q E B F X N T hk hd hu hret
  refine wpAny_call ?_
  k_dflt ktr_enter
  k_steps
  all_goals first
    | exact hret _ (_ :: news) _ _ (by assumption) (news_skip (by assumption)) ⟨_, _, _, rfl, splitR (splitF1 (by assumption) (by assumption)), of_allLt (And.right (by assumption))⟩
    | exact hret _ (_ :: news) _ _ (by assumption) (news_skip (by assumption)) ⟨_, _, _, rfl, splitR (splitF2 (by assumption) (by assumption)), of_allLt (And.right (by assumption))⟩
    | exact hret _ (_ :: news) _ _ (by assumption) (news_skip (by assumption)) ⟨_, _, _, rfl, splitR (splitF3 (by assumption)), of_allLt (And.right (by assumption))⟩
theorem join_spec (w : World) (loose : List Str) (mean : ExcName → Option Value) (mg mb : Str → Option Value) (news) (x y : Str) (t u : Tok) (hx : x.length ≤ 100) (hy : y.length ≤ 100) : Spec w loose mean mg mb 132 [.str x t, .str y u] 3 news (fun r n' => n' = news ∧ ∃ t', r = .str (joinF x y) t') := by
  unfold Spec
  k_fill
  intro dp un gd cn cs a ccd cl outer A₀ base h₀ L m s Q E B F X N T hk hd hu hret
  refine wpAny_call ?_
  k_dflt (refine' kp_rest ?k1 ?k2 ?k3 ?k4 ?k5 ?kA ?kF ?kK ?k6 ?k7 ?k8 ?kV ?kP ?kG ?kB ?_ ?c2 ?c3 ?c4 ?c5; (case kA => exact rfl); (case kF => exact rfl); (case kK => assumption); (case k1 => k_asm); (case k2 => k_asm); (case k3 => k_asm); (case k4 => k_asm); (case k5 => k_asm); (case k6 => k_is); (case k7 => k_is); (case k8 => ktr_room); (case kV => exact rfl); (case kP => exact rfl); (case kG => exact fun _ => rfl); (case kB => exact fun _ => locs rfl); (case c5 => decide); (case c2 => exact rfl); (case c3 => exact rfl); (case c4 => exact rfl); k_whole; intro D' g' L' h' l1 FG' F' N' B' X' T'; (try k_lt l1); (try dsimp only); (try k_fold))
  k_steps
  rename Fr _ _ _ _ => lF
  refine For_turns lF ?_
  k_steps
  rename Fr _ _ _ _ => lF
  rename News _ _ _ _ => lN
  refine iter_tupTurns rfl lF lN (by k_mem) rfl rfl ?_
  intro I hI
  clear lF lN
  refine ItemsRest.val (fun h' tk' F' => AllObj.cons (fun o' hc' => AllObj.nil (fun N' => ?_)))
  k_steps
  all_goals (refine unr_one (by assumption) (by assumption) (fun p hp => Nat.ne_of_lt (hI p hp)) ⟨⟨by k_mem, trivial⟩, ItemsRest.zero (fun h' tk' F' N' => ?_)⟩)
  all_goals k_steps
  all_goals first
    | exact hret _ news _ _ (by assumption) (news_tail (by assumption)) ⟨rfl, _, congrArg (Value.str · _) (joinF1 (by assumption)).symm⟩
    | exact hret _ news _ _ (by assumption) (news_tail (by assumption)) ⟨rfl, _, congrArg (Value.str · _) (joinF2 (by assumption) (by assumption)).symm⟩
    | exact hret _ news _ _ (by assumption) (news_tail (by assumption)) ⟨rfl, _, congrArg (Value.str · _) (joinF3 (by assumption) (by assumption) (by assumption)).symm⟩
    | exact hret _ news _ _ (by assumption) (news_tail (by assumption)) ⟨rfl, _, congrArg (Value.str · _) (joinF4 (by assumption) (by assumption) (by assumption)).symm⟩
theorem wd02_off : True := by
  k_with_none
  trivial
end Mine
namespace Mine
noncomputable def ltE (e f : Str × Int) : Bool := if (e.1 == f.1) = true then (if (e.2 == f.2) = true then false else decide (e.2 < f.2)) else decide (e.1.cps.toList < f.1.cps.toList)
theorem eqb_str {prog : Program} {w : World} {A : Around} {s : Shared} {E : Value → Shared → Prop} {Q : Bool → Shared → Prop} {x y : Str} {t u : Tok} (h : Q (x == y) s) : wpAny (model prog w) A (eqBool (.str x t) (.str y u)) Q E s := SeqAt.EqAt.str_str x t y u prog w E Q h
theorem eqb_int {prog : Program} {w : World} {A : Around} {s : Shared} {E : Value → Shared → Prop} {Q : Bool → Shared → Prop} {x y : Int} {t u : Tok} (h : Q (x == y) s) : wpAny (model prog w) A (eqBool (.int x t) (.int y u)) Q E s := SeqAt.EqAt.int_int x t y u prog w E Q h
theorem rc_lt_str {prog : Program} {w : World} {A : Around} {s : Shared} {E : Value → Shared → Prop} {Q : Value → Shared → Prop} {x y : Str} {t u : Tok} (h : Q (.bool (x.cps.toList < y.cps.toList)) s) : wpAny (model prog w) A (richCompare .Lt (.str x t) (.str y u)) Q E s := PyProof.Rows.lt_str h
theorem rc_lt_int {prog : Program} {w : World} {A : Around} {s : Shared} {E : Value → Shared → Prop} {Q : Value → Shared → Prop} {x y : Int} {t u : Tok} (h : Q (.bool (x < y)) s) : wpAny (model prog w) A (richCompare .Lt (.int x t) (.int y u)) Q E s := PyProof.Rows.lt_int h
theorem tuple_lt2 (l b : Addr) (x y : Str) (t t' u u' : Tok) (i j : Int) (n n' : Nat) :
    Meets (Builtin.«tuple.__lt__» ⟨[.ref l, .ref b], []⟩)
      (fun A R s => s.heap.get? l = some { cls := .type "tuple", data := .seq #[.str x t, .int i u] n } ∧ s.heap.get? b = some { cls := .type "tuple", data := .seq #[.str y t', .int j u'] n' } ∧
        R (.ok (.ret (.bool (ltE (x, i) (y, j))))) s) :=
  .of_wp fun prog w A R s h => by
    obtain ⟨hp, g, d, tk, os⟩ := s; obtain ⟨hl, hb, h⟩ := h
    have f2 := AutoSeq1.sub_tuple_tuple
    unfold ltE at h
    dsimp only at h
    by_cases h1 : (x == y) = true
    · rw [if_pos h1] at h
      by_cases h2 : (i == j) = true
      · rw [if_pos h2] at h
        wp_walk using AutoSeq1.wpAny_loadPart' hl, AutoSeq1.wpAny_loadPart' hb, eqb_str, eqb_int
        exact ⟨_, rfl, h⟩
      · rw [if_neg h2] at h
        wp_walk using AutoSeq1.wpAny_loadPart' hl, AutoSeq1.wpAny_loadPart' hb, eqb_str, eqb_int, rc_lt_int
        exact ⟨_, rfl, h⟩
    · rw [if_neg h1] at h
      wp_walk using AutoSeq1.wpAny_loadPart' hl, AutoSeq1.wpAny_loadPart' hb, eqb_str, eqb_int, rc_lt_str
      exact ⟨_, rfl, h⟩
theorem lt_tup {prog : Program} {w : World} {A : Around} {E : Value → Shared → Prop} {s : Shared} {h₀ : Heap} {L l b : Addr} {x y : Str} {t t' u u' : Tok} {i j : Int} {n n' : Nat} {news : List (Addr × Obj)} {Q : Value → Shared → Prop}
    (N : News h₀ L s.heap news) (hl : (l, { cls := .type "tuple", data := .seq #[.str x t, .int i u] n }) ∈ news) (hb : (b, { cls := .type "tuple", data := .seq #[.str y t', .int j u'] n' }) ∈ news) (hu : A.units < cLine)
    (h : Q (.bool (ltE (x, i) (y, j))) s) : wpAny (model prog w) A (compareOp .Lt (.ref l) (.ref b)) Q E s :=
  show wpAny (model prog w) A (richCompare .Lt (.ref l) (.ref b)) Q E s from
  richCompare_meets_room (op := .Lt) ⟨_, (N _ hl).1, rfl⟩ ⟨_, (N _ hb).1, rfl⟩ F.slot_tuple_lt F.entry_tuple_lt (F.args_tuple_lt_2 _ _) (tuple_lt2 l b x y t t' u u' i j n n')
    ⟨(N _ hl).1, (N _ hb).1, show Value.bool (ltE (x, i) (y, j)) ≠ Value.notImplemented ∧ Q (.bool (ltE (x, i) (y, j))) s from ⟨(fun x => nomatch x), h⟩⟩ hu
section
variable {prog : Program} {w : World} {A : Around} {E : Value → Shared → Prop} {s : Shared} {h₀ : Heap} {L D : Addr} {m : Str → Option Value} {news news' : List (Addr × Obj)} {vs : List Value} {n : Nat} {k : Int} {u : Tok} {v : Value}
theorem set_any {Q : Unit → Shared → Prop} (F : Fr h₀ L s.heap m) (N : News h₀ L s.heap ((D, W.listOf vs.toArray n) :: news)) (hd : ∀ p ∈ news, p.1 ≠ D) (h0 : 0 ≤ k) (h1 : k < vs.length) (hfit : k < 2 ^ 63)
    (h : ∀ h', Fr h₀ L h' m → News h₀ L h' ((D, W.listOf (vs.set k.toNat v).toArray n) :: news) → Q () { s with heap := h' }) :
    wpAny (model prog w) A (setItem (.ref D) (.int k u) v) Q E s := by
  have z := N _ (.head _)
  have hs : vs.toArray.size = vs.length := by rw [List.size_toArray]
  refine ki_setAt z.1 h0 hfit (by omega) (h _ (F.change (Heap.SameBut.update ..) z.2.1 z.2.2) (ki_turn (pre := []) _ N (fun _ h => nomatch h) hd ?_ ?_))
  · show vs.toArray.setIfInBounds k.toNat v = (vs.set k.toNat v).toArray
    apply Array.toList_inj.mp
    simp
  · simp
theorem sub_any {value slice : PySem.Expr} {Q : Value → Shared → Prop} (N : News h₀ L s.heap news) (hm : (D, W.listOf vs.toArray n) ∈ news) (h0 : 0 ≤ k) (hfit : k < 2 ^ 63) (hx : vs[k.toNat]? = some v) (h : Q v s)
    (hs : subscripted slice false (.ref D) (.int k u) = operate [.ref D, .int k u] (getItem (.ref D) (.int k u)) := by with_unfolding_all rfl) :
    wpAny (model prog w) A (subscriptTail value slice (.ref D) (.int k u)) Q E s :=
  have hl : s.heap.IsList D vs.toArray := ⟨_, (N _ hm).1, rfl, n, rfl⟩
  tail_any hl.typeIs slot_list_getitem.lookup (wpAny_getItem_list hl h0 hfit (by simpa using hx) h) hs
end
noncomputable abbrev lstO (vs : List Value) (n : Nat) : Obj := W.listOf vs.toArray n
noncomputable abbrev Itm' := Value × (Str × Int)
noncomputable def Is (news : List (Addr × Obj)) (p : Itm') : Prop := ∃ a t u, p.1 = .ref a ∧ (a, tupO [.str p.2.1 t, .int p.2.2 u]) ∈ news
noncomputable def nilI : Itm' := (.none, (Str.ofString "", 0))
noncomputable abbrev fsts (ps : List Itm') : List Value := ps.map (·.1)
theorem fsts_get {ps : List Itm'} {i : Nat} (h : i < ps.length) : (fsts ps)[i]? = some (ps.getD i nilI).1 := by
  simp [fsts, List.getD_eq_getElem?_getD, List.getElem?_eq_getElem h]
theorem fsts_len (ps : List Itm') : (fsts ps).length = ps.length := by simp
theorem fsts_set (ps : List Itm') (i : Nat) (x : Itm') : (fsts ps).set i x.1 = fsts (ps.set i x) := by simp [fsts, List.map_set]
theorem is_getD {news : List (Addr × Obj)} {ps : List Itm'} (h : ∀ p ∈ ps, Is news p) {i : Nat} (hi : i < ps.length) : Is news (ps.getD i nilI) := by
  rw [List.getD_eq_getElem?_getD, List.getElem?_eq_getElem hi]
  exact h _ (List.getElem_mem hi)
theorem is_set {news : List (Addr × Obj)} {ps : List Itm'} (h : ∀ p ∈ ps, Is news p) {i : Nat} {x : Itm'} (hx : Is news x) : ∀ p ∈ ps.set i x, Is news p := fun p hp => by
  rcases List.mem_or_eq_of_mem_set hp with h' | h'
  · exact h p h'
  · exact h' ▸ hx
theorem fr_get {h₀ h : Heap} {L : Addr} {m : Str → Option Value} {x : Str} {v : Value} (hx : m x = some v) (F : Fr h₀ L h m) : Fr h₀ L h (fun y => if y = x then some v else m y) := by
  have e : (fun y => if y = x then some v else m y) = m := by
    funext y
    by_cases h : y = x
    · rw [if_pos h, h, hx]
    · rw [if_neg h]
  rw [e]; exact F
theorem whl_ind {prog : Program} {w : World} {A : Around} {E : Value → Shared → Prop} {env : Env} {test : PySem.Expr} {body orelse : List Stmt} {Q : Flow → Shared → Prop} {P : Nat → Shared → Prop}
    (step : ∀ n s, (∀ n' s', n' < n → P n' s' → ∀ k, WhlRest prog w A E env test body orelse Q k s') → P n s → ∀ k, WhlRest prog w A E env test body orelse Q (k + 1) s) : ∀ n s, P n s → ∀ k, WhlRest prog w A E env test body orelse Q k s := by
  have all : ∀ b n, n < b → ∀ s, P n s → ∀ k, WhlRest prog w A E env test body orelse Q k s := by
    intro b
    induction b with
    | zero => intro n h; exact absurd h (Nat.not_lt_zero _)
    | succ b ih =>
      intro n hn s hp k
      exact step n s (fun n' s' hlt hp' => ih n' (by omega) s' hp') hp k
  exact fun n s hp k => all (n + 1) n (Nat.lt_succ_self n) s hp k
noncomputable def MyRest (prog : Program) (w : World) (A : Around) (E : Value → Shared → Prop) (env : Env) (test : PySem.Expr) (body orelse : List Stmt) (Q : Flow → Shared → Prop) (s : Shared) : Prop := WhlRest prog w A E env test body orelse Q 0 s
theorem my_start {prog : Program} {w : World} {A : Around} {E : Value → Shared → Prop} {s : Shared} {env : Env} {test : PySem.Expr} {body orelse : List Stmt} {Q : Flow → Shared → Prop} {pos : Pos} (h : MyRest prog w A E env test body orelse Q s) :
    wpAny (model prog w) A (exec (.While test body orelse pos) env) Q E s := whl_start 0 h
theorem my_ind {prog : Program} {w : World} {A : Around} {E : Value → Shared → Prop} {env : Env} {test : PySem.Expr} {body orelse : List Stmt} {Q : Flow → Shared → Prop} (P : Nat → Shared → Prop)
    (step : ∀ n s, (∀ n' s', n' < n → P n' s' → ∀ k, WhlRest prog w A E env test body orelse Q k s') → P n s → ∀ k, WhlRest prog w A E env test body orelse Q (k + 1) s) (n : Nat) {s : Shared} (h : P n s) : MyRest prog w A E env test body orelse Q s :=
  whl_ind step n s h 0
noncomputable def frl : List (Str × Value) → Option Value → Str → Option Value
  | [], d, _ => d
  | (x, v) :: r, d, y => if y = x then some v else frl r d y
theorem frl_eq {m : Str → Option Value} : ∀ l : List (Str × Value), (∀ p ∈ l, m p.1 = some p.2) → ∀ y, frl l (m y) y = m y := by
  intro l
  induction l with
  | nil => intro _ y; rfl
  | cons p r ih =>
    intro h y
    show (if y = p.1 then some p.2 else frl r (m y) y) = m y
    by_cases e : y = p.1
    · rw [if_pos e, e, h p (.head _)]
    · rw [if_neg e]; exact ih (fun q hq => h q (.tail _ hq)) y
theorem fr_list {h₀ h : Heap} {L : Addr} {m : Str → Option Value} (l : List (Str × Value)) (F : Fr h₀ L h m) (hl : ∀ p ∈ l, m p.1 = some p.2) : Fr h₀ L h (fun y => frl l (m y) y) := by
  have e : (fun y => frl l (m y) y) = m := funext (frl_eq l hl)
  rw [e]; exact F
theorem all1 {α : Type} {P : α → Prop} {a : α} (h : P a) : ∀ p ∈ [a], P p := fun p hp => by rw [List.mem_singleton.mp hp]; exact h
theorem allC {α : Type} {P : α → Prop} {a : α} {l : List α} (h : P a) (r : ∀ p ∈ l, P p) : ∀ p ∈ a :: l, P p := fun p hp => by
  rcases List.mem_cons.mp hp with e | hp
  · rw [e]; exact h
  · exact r p hp
theorem my_next {prog : Program} {w : World} {A : Around} {E : Value → Shared → Prop} {env : Env} {test : PySem.Expr} {body orelse : List Stmt} {Q : Flow → Shared → Prop} {k : Nat} {s : Shared} (h : MyRest prog w A E env test body orelse Q s) : WhlPost prog w A E env test body orelse Q k .next s := h
theorem my_cont {prog : Program} {w : World} {A : Around} {E : Value → Shared → Prop} {env : Env} {test : PySem.Expr} {body orelse : List Stmt} {Q : Flow → Shared → Prop} {k : Nat} {s : Shared} (h : MyRest prog w A E env test body orelse Q s) : WhlPost prog w A E env test body orelse Q k .cont s := h
theorem news_setI {h₀ h : Heap} {L d : Addr} {qs : List Itm'} {i k : Nat} {v : Value} {x : Itm'} {rest : List (Addr × Obj)} (N : News h₀ L h ((d, W.listOf ((fsts qs).set i v).toArray k) :: rest)) (e : x.1 = v) : News h₀ L h ((d, lstO (fsts (qs.set i x)) k) :: rest) := by
  subst e
  rw [fsts_set] at N
  exact N
theorem par_eq {p : Nat} (hp : 0 < p) : ((p : Int) - 1).fdiv (2 ^ Int.toNat 1) = (((p - 1) / 2 : Nat) : Int) := by
  have e : ((p : Int) - 1) = ((p - 1 : Nat) : Int) := by omega
  rw [e]
  exact (Int.ofNat_fdiv (p - 1) 2).symm
noncomputable def sdGo : Nat → List Itm' → Itm' → Nat → List Itm'
  | 0, ps, x, pos => ps.set pos x
  | f + 1, ps, x, pos => if 0 < pos then (if ltE x.2 (ps.getD ((pos - 1) / 2) nilI).2 = true then sdGo f (ps.set pos (ps.getD ((pos - 1) / 2) nilI)) x ((pos - 1) / 2) else ps.set pos x) else ps.set pos x
theorem sdGo_stop {f : Nat} {ps : List Itm'} {x : Itm'} {p : Nat} (h : ¬ 0 < p) : sdGo f ps x p = ps.set p x := by
  cases f with
  | zero => rfl
  | succ f => show (if 0 < p then _ else _) = _; rw [if_neg h]
theorem sdGo_no {f : Nat} {ps : List Itm'} {x : Itm'} {p : Nat} (h : 0 < p) (hl : ltE x.2 (ps.getD ((p - 1) / 2) nilI).2 = false) : sdGo (f + 1) ps x p = ps.set p x := by
  show (if 0 < p then (if ltE x.2 (ps.getD ((p - 1) / 2) nilI).2 = true then _ else _) else _) = _
  rw [if_pos h, if_neg (by rw [hl]; decide)]
theorem sdGo_yes {f : Nat} {ps : List Itm'} {x : Itm'} {p : Nat} (h : 0 < p) (hl : ltE x.2 (ps.getD ((p - 1) / 2) nilI).2 = true) : sdGo (f + 1) ps x p = sdGo f (ps.set p (ps.getD ((p - 1) / 2) nilI)) x ((p - 1) / 2) := by
  show (if 0 < p then (if ltE x.2 (ps.getD ((p - 1) / 2) nilI).2 = true then _ else _) else _) = _
  rw [if_pos h, if_pos hl]
noncomputable def sdF (ps : List Itm') (pos : Nat) : List Itm' := sdGo pos ps (ps.getD pos nilI) pos
end Mine
namespace Mine
theorem wd04_1 : True := by
  (k_with "subscriptTail Name Name ref int" => (((with_reducible show wpAny _ _ (subscriptTail _ _ (Value.ref _) (Value.int _ _)) _ _ _); k_dflt (refine' sub_any ?k1 ?k2 ?k3 ?k4 ?k5 ?_ ?k7; (case k1 => k_asm); (case k2 => k_mem); (case k3 => omega); (case k4 => omega); (case k5 => first | assumption | exact fsts_get (by omega)); (case k7 => with_unfolding_all rfl)))))
  (k_with "setItem ref int" => (((with_reducible show wpAny _ _ (setItem (Value.ref _) (Value.int _ _) _) _ _ _); k_dflt (refine' set_any ?k1 ?k2 ?k3 ?k4 ?k5 ?k6 ?_; (case k1 => k_asm); (case k2 => k_asm); (case k3 => assumption); (case k4 => omega); (case k5 => first | (rw [fsts_len]; omega) | omega); (case k6 => omega); k_whole); intro h' F' N'; (try k_sweep))))
  (k_with "compareOp Lt ref ref" => (((with_reducible show wpAny _ _ (compareOp CmpOp.Lt (Value.ref _) (Value.ref _)) _ _ _); k_dflt (refine' lt_tup ?k1 ?k2 ?k3 ?k4 ?_; (case k1 => k_asm); (case k2 => first | assumption | exact List.mem_cons_of_mem _ (by assumption)); (case k3 => first | assumption | exact List.mem_cons_of_mem _ (by assumption)); (case k4 => ktr_units); k_whole))))
  (k_with "exec While Compare cons nil" => ((refine my_start ?_)))
  (k_with "WhlPost" => (first | refine my_next ?_ | refine my_cont ?_ | fail "my_post"))
  trivial
theorem siftdown_spec (w : World) (loose : List Str) (mean : ExcName → Option Value) (mg mb : Str → Option Value) (rest) (d : Addr) (ps : List Itm') (n pos : Nat) (t0 t1 : Tok) (hd' : ∀ p ∈ rest, p.1 ≠ d) (hpos : pos < ps.length) (hlen : ps.length ≤ 100000) (his : ∀ p ∈ ps, Is rest p) :
    Spec w loose mean mg mb 184 [.ref d, .int 0 t0, .int pos t1] 3 ((d, lstO (fsts ps) n) :: rest) (fun r n' => r = .none ∧ ∃ k, n' = (d, lstO (fsts (sdF ps pos)) k) :: rest) := by
  obtain ⟨a9, ta, ua, ea, ha⟩ := is_getD his hpos
  have hget := (fsts_get hpos).trans (congrArg some ea)
  have hx9 : Is rest (ps.getD pos nilI) := is_getD his hpos
  unfold Spec
  k_fill
  intro dp un gd cn cs a ccd cl outer A₀ base h₀ L m s Q E B F X N T hk hd hu hret
  refine wpAny_call ?_
  k_dflt ktr_enter
  k_steps
  rename Fr _ _ _ _ => lF
  rename News _ _ _ _ => lN
  refine my_ind (fun f s' => ∃ h tk m qs k p t2, s' = { s with heap := h, toks := tk } ∧ Fr _ _ h m ∧ News _ _ h ((d, lstO (fsts qs) k) :: rest) ∧ m (Str.ofString "pos") = some (.int (p : Nat) t2) ∧ m (Str.ofString "heap") = some (.ref d) ∧ m (Str.ofString "startpos") = some (.int 0 t0) ∧
     m (Str.ofString "newitem") = some (.ref a9) ∧ sdGo f qs (ps.getD pos nilI) p = sdF ps pos ∧ qs.length = ps.length ∧ (∀ p ∈ qs, Is rest p) ∧ p < qs.length ∧ p ≤ f) ?_ pos ⟨_, _, _, ps, n, pos, t1, rfl, lF, lN, rfl, rfl, rfl, rfl, rfl, rfl, his, hpos, Nat.le_refl _⟩
  clear lF lN
  rintro f s' ih ⟨h, tk, m', qs, k, p, t2, rfl, F', N', e1, e2, e3, e4, hgo, hql, hq, hp, hf⟩ kk
  replace F' := fr_list [(Str.ofString "pos", .int (p : Nat) t2), (Str.ofString "heap", .ref d), (Str.ofString "startpos", .int 0 t0), (Str.ofString "newitem", .ref a9)] F' (allC e1 (allC e2 (allC e3 (all1 e4))))
  simp only [frl] at F'
  clear e1 e2 e3 e4
  refine whl_turn (by passes_own) ?_
  k_steps
  by_cases hp0 : 0 < p
  · obtain ⟨f', rfl⟩ : ∃ f', f = f' + 1 := ⟨f - 1, by omega⟩
    refine WhlIf.yes (decide_eq_true (by omega)) ?_
    obtain ⟨b9, tb, ub, eb, hb⟩ := is_getD hq (i := (p - 1) / 2) (by omega)
    have hgetq := (fsts_get (ps := qs) (i := (p - 1) / 2) (by omega)).trans (congrArg some eb)
    k_steps
    rw [par_eq hp0]
    k_steps
    · rename Fr _ _ _ _ => lF
      rename News _ _ _ _ => lN
      rename (ltE _ _ = true) => hl
      exact ih f' _ (Nat.lt_succ_self _) ⟨_, _, _, qs.set p (qs.getD ((p - 1) / 2) nilI), k, (p - 1) / 2, _, rfl, lF, news_setI lN eb, congrArg (fun z => some (Value.int z _)) (par_eq hp0), rfl, rfl, rfl, (sdGo_yes hp0 hl).symm.trans hgo, by rw [List.length_set]; exact hql,
        is_set hq (is_getD hq (by omega)), by rw [List.length_set]; omega, by omega⟩ 0
    · rename News _ _ _ _ => lN
      rename (ltE _ _ = false) => hl
      exact hret _ _ _ _ (by assumption) (news_setI (i := p) lN ea) ⟨rfl, k, by rw [← hgo, sdGo_no hp0 hl]⟩
  · refine WhlIf.no (decide_eq_false (by omega)) ?_
    k_steps
    rename News _ _ _ _ => lN
    exact hret _ _ _ _ (by assumption) (news_setI (i := p) lN ea) ⟨rfl, k, by rw [← hgo, sdGo_stop hp0]⟩
theorem wd04_off : True := by
  k_with_none
  trivial
end Mine
namespace Mine
theorem wd05_1 : True := by
  (k_with "subscriptTail Name Name ref int" => (((with_reducible show wpAny _ _ (subscriptTail _ _ (Value.ref _) (Value.int _ _)) _ _ _); k_dflt (refine' sub_any ?k1 ?k2 ?k3 ?k4 ?k5 ?_ ?k7; (case k1 => k_asm); (case k2 => k_mem); (case k3 => omega); (case k4 => omega); (case k5 => first | assumption | exact fsts_get (by omega)); (case k7 => with_unfolding_all rfl)))))
  (k_with "setItem ref int" => (((with_reducible show wpAny _ _ (setItem (Value.ref _) (Value.int _ _) _) _ _ _); k_dflt (refine' set_any ?k1 ?k2 ?k3 ?k4 ?k5 ?k6 ?_; (case k1 => k_asm); (case k2 => k_asm); (case k3 => assumption); (case k4 => omega); (case k5 => first | (rw [fsts_len]; omega) | omega); (case k6 => omega); k_whole); intro h' F' N'; (try k_sweep))))
  (k_with "compareOp Lt ref ref" => (((with_reducible show wpAny _ _ (compareOp CmpOp.Lt (Value.ref _) (Value.ref _)) _ _ _); k_dflt (refine' lt_tup ?k1 ?k2 ?k3 ?k4 ?_; (case k1 => k_asm); (case k2 => first | assumption | exact List.mem_cons_of_mem _ (by assumption)); (case k3 => first | assumption | exact List.mem_cons_of_mem _ (by assumption)); (case k4 => ktr_units); k_whole))))
  (k_with "exec While Compare cons nil" => ((refine my_start ?_)))
  (k_with "WhlPost" => (first | refine my_next ?_ | refine my_cont ?_ | fail "my_post"))
  trivial
theorem len_its {prog : Program} {w : World} {A : Around} {E : Value → Shared → Prop} {s : Shared} {h₀ : Heap} {L D : Addr} {news : List (Addr × Obj)} {qs : List Itm'} {n : Nat} {Q : Value → Shared → Prop} (N : News h₀ L s.heap news) (hm : (D, W.listOf (fsts qs).toArray n) ∈ news) (hb : qs.length ≤ 1000000)
    (h : Q (.int (qs.length : Nat) (s.toks + 1)) { s with toks := s.toks + 1 + 1 }) : wpAny (model prog w) A (call (.builtin "len") [.ref D]) Q E s := by
  have hl : s.heap.IsList D (fsts qs).toArray := ⟨_, (N _ hm).1, rfl, n, rfl⟩
  have hs : (fsts qs).toArray.size = qs.length := by simp
  refine len_list hl (by rw [hs]; omega) ?_
  rw [hs]; exact h
theorem wd05_2 : True := by
  (k_with "call builtin:len" => (((with_reducible show wpAny _ _ (call (Value.builtin "len") [Value.ref _]) _ _ _); k_dflt (refine' len_its ?k1 ?k2 ?k3 ?_; (case k1 => k_asm); (case k2 => k_mem); (case k3 => omega); k_whole))))
  trivial
noncomputable def suGo : Nat → List Itm' → Nat → List Itm' × Nat
  | 0, ps, p => (ps, p)
  | f + 1, ps, p => if 2 * p + 1 < ps.length then
      (if 2 * p + 1 + 1 < ps.length ∧ ltE (ps.getD (2 * p + 1) nilI).2 (ps.getD (2 * p + 1 + 1) nilI).2 = false then suGo f (ps.set p (ps.getD (2 * p + 1 + 1) nilI)) (2 * p + 1 + 1) else suGo f (ps.set p (ps.getD (2 * p + 1) nilI)) (2 * p + 1))
    else (ps, p)
theorem suGo_stop {f : Nat} {ps : List Itm'} {p : Nat} (h : ¬ 2 * p + 1 < ps.length) : suGo f ps p = (ps, p) := by
  cases f with
  | zero => rfl
  | succ f => show (if 2 * p + 1 < ps.length then _ else _) = _; rw [if_neg h]
theorem suGo_right {f : Nat} {ps : List Itm'} {p : Nat} (h : 2 * p + 1 + 1 < ps.length) (hl : ltE (ps.getD (2 * p + 1) nilI).2 (ps.getD (2 * p + 1 + 1) nilI).2 = false) : suGo (f + 1) ps p = suGo f (ps.set p (ps.getD (2 * p + 1 + 1) nilI)) (2 * p + 1 + 1) := by
  show (if 2 * p + 1 < ps.length then _ else _) = _
  rw [if_pos (by omega), if_pos ⟨h, hl⟩]
theorem suGo_left {f : Nat} {ps : List Itm'} {p : Nat} (h : 2 * p + 1 < ps.length) (hl : 2 * p + 1 + 1 < ps.length → ltE (ps.getD (2 * p + 1) nilI).2 (ps.getD (2 * p + 1 + 1) nilI).2 = true) : suGo (f + 1) ps p = suGo f (ps.set p (ps.getD (2 * p + 1) nilI)) (2 * p + 1) := by
  show (if 2 * p + 1 < ps.length then _ else _) = _
  rw [if_pos h, if_neg (fun q => by rw [hl q.1] at q; exact absurd q.2 (by decide))]
noncomputable def suF (ps : List Itm') : List Itm' := sdF ((suGo ps.length ps 0).1.set (suGo ps.length ps 0).2 (ps.getD 0 nilI)) (suGo ps.length ps 0).2
theorem siftup_spec (w : World) (loose : List Str) (mean : ExcName → Option Value) (mg mb : Str → Option Value) (rest) (d : Addr) (ps : List Itm') (n : Nat) (t1 : Tok) (hd' : ∀ p ∈ rest, p.1 ≠ d) (hpos : 0 < ps.length) (hlen : ps.length ≤ 100000) (his : ∀ p ∈ ps, Is rest p) :
    Spec w loose mean mg mb 191 [.ref d, .int 0 t1] 5 ((d, lstO (fsts ps) n) :: rest) (fun r n' => r = .none ∧ ∃ k, n' = (d, lstO (fsts (suF ps)) k) :: rest) := by
  obtain ⟨a9, ta, ua, ea, ha⟩ := is_getD his hpos
  have hget := (fsts_get hpos).trans (congrArg some ea)
  have hx9 : Is rest (ps.getD 0 nilI) := is_getD his hpos
  unfold Spec
  k_fill
  intro dp un gd cn cs a ccd cl outer A₀ base h₀ L m s Q E B F X N T hk hd hu hret
  refine wpAny_call ?_
  k_dflt ktr_enter
  k_steps
  rename Fr _ _ _ _ => lF
  rename News _ _ _ _ => lN
  refine my_ind (fun f s' => ∃ h tk m qs k p t2 t3 t4 t5, s' = { s with heap := h, toks := tk } ∧ Fr _ _ h m ∧ News _ _ h ((d, lstO (fsts qs) k) :: rest) ∧ m (Str.ofString "pos") = some (.int (p : Nat) t2) ∧ m (Str.ofString "heap") = some (.ref d) ∧ m (Str.ofString "startpos") = some (.int 0 t3) ∧
     m (Str.ofString "newitem") = some (.ref a9) ∧ m (Str.ofString "childpos") = some (.int (2 * (p : Nat) + 1) t4) ∧ m (Str.ofString "endpos") = some (.int (ps.length : Nat) t5) ∧ suGo f qs p = suGo ps.length ps 0 ∧ qs.length = ps.length ∧ (∀ p ∈ qs, Is rest p) ∧ p < qs.length ∧ ps.length ≤ f + p) ?_ ps.length
     ⟨_, _, _, ps, n, 0, _, _, _, _, rfl, lF, lN, rfl, rfl, rfl, rfl, rfl, rfl, rfl, rfl, his, hpos, Nat.le_refl _⟩
  clear lF lN
  rintro f s' ih ⟨h, tk, m', qs, k, p, t2, t3, t4, t5, rfl, F', N', e1, e2, e3, e4, e5, e6, hgo, hql, hq, hp, hf⟩ kk
  replace F' := fr_list [(Str.ofString "pos", .int (p : Nat) t2), (Str.ofString "heap", .ref d), (Str.ofString "startpos", .int 0 t3), (Str.ofString "newitem", .ref a9), (Str.ofString "childpos", .int (2 * (p : Nat) + 1) t4), (Str.ofString "endpos", .int (ps.length : Nat) t5)] F' (allC e1 (allC e2 (allC e3 (allC e4 (allC e5 (all1 e6))))))
  simp only [frl] at F'
  clear e1 e2 e3 e4 e5 e6
  refine whl_turn (by passes_own) ?_
  k_steps
  by_cases hp0 : 2 * p + 1 < ps.length
  · obtain ⟨f', rfl⟩ : ∃ f', f = f' + 1 := ⟨f - 1, by omega⟩
    refine WhlIf.yes (decide_eq_true (by omega)) ?_
    obtain ⟨b9, tb, ub, eb, hb⟩ := is_getD hq (i := 2 * p + 1) (by omega)
    have hgetq := (fsts_get (ps := qs) (i := 2 * p + 1) (by omega)).trans (congrArg some eb)
    by_cases hp1 : 2 * p + 1 + 1 < ps.length
    · obtain ⟨c9, tc, uc, ec, hc⟩ := is_getD hq (i := 2 * p + 1 + 1) (by omega)
      have hgetr := (fsts_get (ps := qs) (i := 2 * p + 1 + 1) (by omega)).trans (congrArg some ec)
      k_steps
      · rename Fr _ _ _ _ => lF
        rename News _ _ _ _ => lN
        rename (ltE _ _ = true) => hl
        exact ih f' _ (Nat.lt_succ_self _) ⟨_, _, _, qs.set p (qs.getD (2 * p + 1) nilI), k, 2 * p + 1, _, _, _, _, rfl, lF, news_setI (i := p) lN eb, rfl, rfl, rfl, rfl, rfl, rfl, (suGo_left (by omega) (fun _ => hl)).symm.trans hgo, by rw [List.length_set]; exact hql,
          is_set hq (is_getD hq (by omega)), by rw [List.length_set]; omega, by omega⟩ 0
      · rename Fr _ _ _ _ => lF
        rename News _ _ _ _ => lN
        rename (ltE _ _ = false) => hl
        exact ih f' _ (Nat.lt_succ_self _) ⟨_, _, _, qs.set p (qs.getD (2 * p + 1 + 1) nilI), k, 2 * p + 1 + 1, _, _, _, _, rfl, lF, news_setI (i := p) lN ec, rfl, rfl, rfl, rfl, rfl, rfl, (suGo_right (by omega) hl).symm.trans hgo, by rw [List.length_set]; exact hql,
          is_set hq (is_getD hq (by omega)), by rw [List.length_set]; omega, by omega⟩ 0
    · k_steps
      · rename Fr _ _ _ _ => lF
        rename News _ _ _ _ => lN
        exact ih f' _ (Nat.lt_succ_self _) ⟨_, _, _, qs.set p (qs.getD (2 * p + 1) nilI), k, 2 * p + 1, _, _, _, _, rfl, lF, news_setI (i := p) lN eb, rfl, rfl, rfl, rfl, rfl, rfl, (suGo_left (by omega) (fun q => absurd q (by omega))).symm.trans hgo, by rw [List.length_set]; exact hql,
          is_set hq (is_getD hq (by omega)), by rw [List.length_set]; omega, by omega⟩ 0
  · refine WhlIf.no (decide_eq_false (by omega)) ?_
    k_steps
    rename News _ _ _ _ => lN
    have hend : suGo ps.length ps 0 = (qs, p) := by rw [← hgo]; exact suGo_stop (by omega)
    k_dflt (refine' Spec.use ?k1 ?k2 ?k3 ?k4 ?k5 ?kK (siftdown_spec _ _ _ _ _ rest d (qs.set p (ps.getD 0 nilI)) k p _ _ hd' (by rw [List.length_set]; exact hp) (by rw [List.length_set]; omega) (is_set hq hx9)) ?kd ?ku ?_; (case k1 => k_asm); (case k2 => k_asm); (case k3 => k_asm); (case k4 => exact (news_setI (i := p) lN ea)); (case k5 => k_asm); (case kK => first | exact rfl | assumption); (case kd => ktr_room); (case ku => ktr_units))
    rintro r9 n9 h9 tk9 F9 N9 ⟨rfl, k9, rfl⟩
    try dsimp only
    k_steps
    exact hret _ _ _ _ (by assumption) (by assumption) ⟨rfl, k9, by rw [suF, hend]⟩
theorem wd05_off : True := by
  k_with_none
  trivial
end Mine
namespace Mine
section
variable {prog : Program} {w : World} {A : Around} {E : Value → Shared → Prop} {s : Shared} {h₀ : Heap} {L D : Addr} {m : Str → Option Value} {news : List (Addr × Obj)} {vs : List Value} {n : Nat} {v : Value}
theorem append_any {Q : Value → Shared → Prop} (F : Fr h₀ L s.heap m) (N : News h₀ L s.heap ((D, W.listOf vs.toArray n) :: news)) (hd : ∀ p ∈ news, p.1 ≠ D) (hsz : vs.length ≤ 1000000)
    (h : ∀ h', Fr h₀ L h' m → News h₀ L h' ((D, W.listOf (vs ++ [v]).toArray (n + 1)) :: news) → Q .none { s with heap := h' }) : wpAny (model prog w) A (call (.builtin "list.append") [.ref D, v]) Q E s := by
  refine append_K F N (.head hd) (fun h' F' N' => h h' F' ?_) (by rw [sizeLine_eq, List.size_toArray]; omega)
  rw [List.push_toArray] at N'
  exact N'
theorem append_its {ps : List Itm'} {x : Itm'} {Q : Value → Shared → Prop} (F : Fr h₀ L s.heap m) (N : News h₀ L s.heap ((D, W.listOf (fsts ps).toArray n) :: news)) (hd : ∀ p ∈ news, p.1 ≠ D) (hsz : ps.length ≤ 1000000)
    (h : ∀ h', Fr h₀ L h' m → News h₀ L h' ((D, W.listOf (fsts (ps ++ [x])).toArray (n + 1)) :: news) → Q .none { s with heap := h' }) : wpAny (model prog w) A (call (.builtin "list.append") [.ref D, x.1]) Q E s := by
  refine append_any F N hd (by rw [fsts_len]; omega) fun h' F' N' => h h' F' ?_
  have e : fsts (ps ++ [x]) = fsts ps ++ [x.1] := by simp [fsts]
  rw [e]; exact N'
theorem kl_last_snoc (p : List Value) (y : Value) : kl_last (p ++ [y]) = some (p, y) := kpa_last y p
theorem pop_any {Q : Value → Shared → Prop} (F : Fr h₀ L s.heap m) (N : News h₀ L s.heap ((D, W.listOf (vs ++ [v]).toArray n) :: news)) (hd : ∀ p ∈ news, p.1 ≠ D) (hsz : vs.length ≤ 1000000)
    (h : ∀ h', Fr h₀ L h' m → News h₀ L h' ((D, W.listOf vs.toArray (n + 1)) :: news) → Q v { s with heap := h' }) : wpAny (model prog w) A (call (.builtin "list.pop") [.ref D]) Q E s :=
  kl_pop F N (p := vs) (y := v) (kl_last_snoc vs v) (.head hd) (by rw [sizeLine_eq]; simp; omega) h
end
theorem truth_its {prog : Program} {w : World} {A : Around} {E : Value → Shared → Prop} {s : Shared} {h₀ : Heap} {L D : Addr} {news : List (Addr × Obj)} {qs : List Itm'} {n : Nat} {Q : Bool → Shared → Prop} (N : News h₀ L s.heap news) (hm : (D, W.listOf (fsts qs).toArray n) ∈ news) (hb : qs.length ≤ 1000000)
    (h : Q (decide (0 < qs.length)) { s with toks := s.toks + 1 + 1 }) : wpAny (model prog w) A (truthy (.ref D)) Q E s := by
  have hl : s.heap.IsList D (fsts qs).toArray := ⟨_, (N _ hm).1, rfl, n, rfl⟩
  refine wpAny_truthy_list hl (by simp; omega) ?_
  have e : (!(fsts qs).toArray.isEmpty) = decide (0 < qs.length) := by
    cases qs with
    | nil => rfl
    | cons _ _ => simp
  rw [e]; exact h
theorem wd06_1 : True := by
  (k_with "subscriptTail Name Name ref int" => (((with_reducible show wpAny _ _ (subscriptTail _ _ (Value.ref _) (Value.int _ _)) _ _ _); k_dflt (refine' sub_any ?k1 ?k2 ?k3 ?k4 ?k5 ?_ ?k7; (case k1 => k_asm); (case k2 => k_mem); (case k3 => omega); (case k4 => omega); (case k5 => first | assumption | exact fsts_get (by omega)); (case k7 => with_unfolding_all rfl)))))
  (k_with "subscriptTail Name Constant ref int" => (((with_reducible show wpAny _ _ (subscriptTail _ _ (Value.ref _) (Value.int _ _)) _ _ _); k_dflt (refine' sub_any ?k1 ?k2 ?k3 ?k4 ?k5 ?_ ?k7; (case k1 => k_asm); (case k2 => k_mem); (case k3 => omega); (case k4 => omega); (case k5 => first | assumption | exact fsts_get (by omega)); (case k7 => with_unfolding_all rfl)))))
  (k_with "setItem ref int" => (((with_reducible show wpAny _ _ (setItem (Value.ref _) (Value.int _ _) _) _ _ _); k_dflt (refine' set_any ?k1 ?k2 ?k3 ?k4 ?k5 ?k6 ?_; (case k1 => k_asm); (case k2 => k_asm); (case k3 => assumption); (case k4 => omega); (case k5 => first | (rw [fsts_len]; omega) | omega); (case k6 => omega); k_whole); intro h' F' N'; (try k_sweep))))
  (k_with "compareOp Lt ref ref" => (((with_reducible show wpAny _ _ (compareOp CmpOp.Lt (Value.ref _) (Value.ref _)) _ _ _); k_dflt (refine' lt_tup ?k1 ?k2 ?k3 ?k4 ?_; (case k1 => k_asm); (case k2 => first | assumption | exact List.mem_cons_of_mem _ (by assumption)); (case k3 => first | assumption | exact List.mem_cons_of_mem _ (by assumption)); (case k4 => ktr_units); k_whole))))
  (k_with "exec While Compare cons nil" => ((refine my_start ?_)))
  (k_with "WhlPost" => (first | refine my_next ?_ | refine my_cont ?_ | fail "my_post"))
  (k_with "call builtin:len" => (((with_reducible show wpAny _ _ (call (Value.builtin "len") [Value.ref _]) _ _ _); k_dflt (refine' len_its ?k1 ?k2 ?k3 ?_; (case k1 => k_asm); (case k2 => k_mem); (case k3 => first | omega | (simp only [List.length_append, List.length_cons, List.length_nil]; omega)); k_whole))))
  (k_with "call builtin:list.append" => (((with_reducible show wpAny _ _ (call (Value.builtin _) [Value.ref _, _]) _ _ _); k_dflt (refine' append_its ?k1 ?k2 ?k3 ?k4 ?_; (case k1 => k_asm); (case k2 => k_asm); (case k3 => assumption); (case k4 => omega); k_whole); intro h' F' N'; (try k_sweep))))
  (k_with "call builtin:list.pop" => (((with_reducible show wpAny _ _ (call (Value.builtin _) [Value.ref _]) _ _ _); k_dflt (refine' pop_any ?k1 ?k2 ?k3 ?k4 ?_; (case k1 => k_asm); (case k2 => k_asm); (case k3 => assumption); (case k4 => (rw [fsts_len]; omega)); k_whole); intro h' F' N'; (try k_sweep))))
  (k_with "truthy ref" => (((with_reducible show wpAny _ _ (truthy (Value.ref _)) _ _ _); k_dflt (refine' truth_its ?k1 ?k2 ?k3 ?_; (case k1 => k_asm); (case k2 => k_mem); (case k3 => omega); k_whole))))
  trivial
noncomputable def pushF (ps : List Itm') (x : Itm') : List Itm' := sdF (ps ++ [x]) ps.length
noncomputable def popR (qs : List Itm') (y : Itm') : Itm' := if 0 < qs.length then qs.getD 0 nilI else y
noncomputable def popL (qs : List Itm') (y : Itm') : List Itm' := if 0 < qs.length then suF (qs.set 0 y) else qs
theorem push_spec (w : World) (loose : List Str) (mean : ExcName → Option Value) (mg mb : Str → Option Value) (rest) (d : Addr) (ps : List Itm') (n : Nat) (x : Itm') (v : Value) (hv : x.1 = v) (hd' : ∀ p ∈ rest, p.1 ≠ d) (hlen : ps.length ≤ 10000) (his : ∀ p ∈ ps, Is rest p) (hx : Is rest x) :
    Spec w loose mean mg mb 170 [.ref d, v] 5 ((d, lstO (fsts ps) n) :: rest) (fun r n' => r = .none ∧ ∃ k, n' = (d, lstO (fsts (pushF ps x)) k) :: rest) := by
  subst hv
  unfold Spec
  k_fill
  intro dp un gd cn cs a ccd cl outer A₀ base h₀ L m s Q E B F X N T hk hd hu hret
  refine wpAny_call ?_
  k_dflt ktr_enter
  k_steps
  rename News _ _ _ _ => lN
  have hl9 : (((ps ++ [x]).length : Nat) : Int) - 1 = (ps.length : Nat) := by simp
  rw [hl9]
  k_dflt (refine' Spec.use ?k1 ?k2 ?k3 ?k4 ?k5 ?kK (siftdown_spec _ _ _ _ _ rest d (ps ++ [x]) (n + 1) ps.length _ _ hd' (by simp) (by simp; omega) (fun p hp => (List.mem_append.mp hp).elim (his p) (fun h => by rw [List.mem_singleton.mp h]; exact hx))) ?kd ?ku ?_; (case k1 => k_asm); (case k2 => k_asm); (case k3 => k_asm); (case k4 => exact lN); (case k5 => k_asm); (case kK => first | exact rfl | assumption); (case kd => ktr_room); (case ku => ktr_units))
  rintro r9 n9 h9 tk9 F9 N9 ⟨rfl, k9, rfl⟩
  try dsimp only
  k_steps
  exact hret _ _ _ _ (by assumption) (by assumption) ⟨rfl, k9, rfl⟩
theorem pop_spec (w : World) (loose : List Str) (mean : ExcName → Option Value) (mg mb : Str → Option Value) (rest) (d : Addr) (qs : List Itm') (y : Itm') (n : Nat) (hd' : ∀ p ∈ rest, p.1 ≠ d) (hlen : qs.length ≤ 10000) (his : ∀ p ∈ qs, Is rest p) (hy : Is rest y) :
    Spec w loose mean mg mb 177 [.ref d] 8 ((d, lstO (fsts qs ++ [y.1]) n) :: rest) (fun r n' => r = (popR qs y).1 ∧ ∃ k, n' = (d, lstO (fsts (popL qs y)) k) :: rest) := by
  unfold Spec
  k_fill
  intro dp un gd cn cs a ccd cl outer A₀ base h₀ L m s Q E B F X N T hk hd hu hret
  refine wpAny_call ?_
  k_dflt ktr_enter
  by_cases hq0 : 0 < qs.length
  · k_steps
    rename News _ _ _ _ => lN
    k_dflt (refine' Spec.use ?k1 ?k2 ?k3 ?k4 ?k5 ?kK (siftup_spec _ _ _ _ _ rest d (qs.set 0 y) (n + 1) _ hd' (by rw [List.length_set]; exact hq0) (by rw [List.length_set]; omega) (is_set his hy)) ?kd ?ku ?_; (case k1 => k_asm); (case k2 => k_asm); (case k3 => k_asm); (case k4 => exact (news_setI (i := 0) (x := y) lN rfl)); (case k5 => k_asm); (case kK => first | exact rfl | assumption); (case kd => ktr_room); (case ku => ktr_units))
    rintro r9 n9 h9 tk9 F9 N9 ⟨rfl, k9, rfl⟩
    try dsimp only
    k_steps
    exact hret _ _ _ _ (by assumption) (by assumption) ⟨by rw [popR, if_pos hq0]; rfl, k9, by rw [popL, if_pos hq0]⟩
  · k_steps
    exact hret _ _ _ _ (by assumption) (by assumption) ⟨by rw [popR, if_neg hq0], _, by rw [popL, if_neg hq0]⟩
theorem wd06_off : True := by
  k_with_none
  trivial
end Mine
namespace Mine
open PySem.W in
noncomputable def LeaveK2 (h₀ : Heap) (L : Addr) (m : Str → Option Value) (g : Heap) (hs : Heap) (adr : List Addr) (R : Result → Shared → Prop) (v : Value) (s' : Shared) : Prop :=
  ∃ L' m' news', Fr g L' s'.heap m' ∧ News g L' s'.heap news' ∧ (Fr h₀ L s'.heap m → News h₀ L s'.heap news' → (∀ b o, hs.get? b = some o → b ∉ adr → s'.heap.get? b = some o) → R (.ok (.ret v)) s')
theorem leave2 {h₀ g hs : Heap} {L L' : Addr} {m m' : Str → Option Value} {adr : List Addr} {news' : List (Addr × Obj)} {R : Result → Shared → Prop} {v : Value} {s' : Shared} (F' : Fr g L' s'.heap m') (N' : News g L' s'.heap news')
    (k : Fr h₀ L s'.heap m → News h₀ L s'.heap news' → (∀ b o, hs.get? b = some o → b ∉ adr → s'.heap.get? b = some o) → R (.ok (.ret v)) s') : LeaveK2 h₀ L m g hs adr R v s' := ⟨L', m', news', F', N', k⟩
theorem leave2_to {h₀ g hs : Heap} {L : Addr} {m : Str → Option Value} {adr : List Addr} {R : Result → Shared → Prop} {v : Value} {s' : Shared} (G : GSub hs g adr) (h : LeaveK2 h₀ L m g hs adr R v s') : LeaveK h₀ L m g R v s' := by
  obtain ⟨L', m', news', F', N', k⟩ := h
  exact ⟨L', m', news', F', N', fun a b => k a b fun c o e n => F'.keep c o (G c o e n)⟩
section
variable {prog : Program} {w : World} {A A₀ : Around} {s : Shared} {K : Frag} {L : Addr} {h₀ base : Heap} {m mg mb : Str → Option Value} {news : List (Addr × Obj)} {p : Program} {loose : List Str} {mean : ExcName → Option Value}
  {env : Env} {outer : List Env} {R : Result → Shared → Prop} {name qual : Str} {params : Arguments} {body : List Stmt} {scope : Scope} {dV kV doc pm cdv ct oc : Value} {an od : Option Addr} {osl : Array (Option Value)} {f : Addr} {args : Args} {binds : List (Str × Value)}
theorem code_plain2 (B : Below A₀ base outer h₀) (F : Fr h₀ L s.heap m) (X₀ : K.In h₀) (N : News h₀ L s.heap news) (T : Top p loose mean mg mb h₀) (hA : A.frames = some (env :: outer)) (hf : env.frame = some L) (hke : env.scope.kind = .function)
    (ho : K.lookup f = some ⟨oc, od, .func (fnOf name qual params body scope dV kV doc pm an cdv ct), osl⟩) (hcd : codeIn K cdv qual = true) (hroom : A.depth < recursionLimit)
    (hbind : BindsTo s (fnOf name qual params body scope dV kV doc pm an cdv ct) args binds) (hloc : ∀ y ∈ binds, scope.names.lookup y.1 = some .local)
    (h : ∀ g L' h₁, Fr h₀ L g m → Fr g L' h₁ (fun y => binds.reverse.lookup y) → News g L' h₁ news → Below A base (env :: outer) g → K.In g → Top p loose mean mg mb g →
      wpAny (model prog w) (A.deeper (envOf qual scope L' f cdv)) (execs body (envOf qual scope L' f cdv))
        (fun fl s' => LeaveK2 h₀ L m g s.heap (news.map (·.1)) R (match fl with | .ret v => v | _ => .none) s')
        (fun e s' => wpAny (model prog w) (A.deeper (envOf qual scope L' f cdv)) (leaving (envOf qual scope L' f cdv) e) (fun _ s'' => R (.error e) s'') (fun e' s'' => R (.error e') s'') s')
        { s with heap := h₁, toks := s.toks + binds.length })
    (hco : scope.isCoroutine = false) (hgen : scope.isGenerator = false) (hk : scope.kind = .function)
    (hcell : ∀ x ∈ scope.names, x.2 ≠ .cell) : codeAny (model prog w) A (.call (.ref f) args) R s :=
  code_defG B F X₀ N T hA hf hke ho hcd hroom hbind hloc (fun g L' h₁ FG F' N' B' X' T' G => wpAny_mono (h g L' h₁ FG F' N' B' X' T') (fun _ _ q => leave2_to G q) fun _ _ q => q) hco hgen hk hcell
theorem code_cells2 (B : Below A₀ base outer h₀) (F : Fr h₀ L s.heap m) (X₀ : K.In h₀) (N : News h₀ L s.heap news) (T : Top p loose mean mg mb h₀) (hA : A.frames = some (env :: outer)) (hf : env.frame = some L) (hke : env.scope.kind = .function)
    (ho : K.lookup f = some ⟨oc, od, .func (fnOf name qual params body scope dV kV doc pm an cdv ct), osl⟩) (hcd : codeIn K cdv qual = true) (hroom : A.depth < recursionLimit)
    (hbind : BindsTo s (fnOf name qual params body scope dV kV doc pm an cdv ct) args binds) (hkind : (binds.all fun y => scope.names.lookup y.1 == some .local || scope.names.lookup y.1 == some .cell) = true)
    (hnd : ((cellsFrom 0 scope.names []).map (·.1)).Nodup)
    (h : ∀ g L' h₁ tk cells, Fr h₀ L g m → Fr g L' h₁ (bindL (envOfC qual scope L' f cdv).kindOf binds fun _ => none) → News g L' h₁ (cells ++ news) →
      CellsAre (bindC (envOfC qual scope L' f cdv).kindOf binds fun _ => none) (cellsFrom (L' + 1) scope.names []) cells → Below A base (env :: outer) g → K.In g → Top p loose mean mg mb g → (∀ p ∈ news, p.1 < L') →
      wpAny (model prog w) (A.deeper (envOfC qual scope L' f cdv)) (execs body (envOfC qual scope L' f cdv))
        (fun fl s' => LeaveK2 h₀ L m g s.heap (news.map (·.1)) R (match fl with | .ret v => v | _ => .none) s')
        (fun e s' => wpAny (model prog w) (A.deeper (envOfC qual scope L' f cdv)) (leaving (envOfC qual scope L' f cdv) e) (fun _ s'' => R (.error e) s'') (fun e' s'' => R (.error e') s'') s')
        { s with heap := h₁, toks := tk })
    (hco : scope.isCoroutine = false) (hgen : scope.isGenerator = false) (hk : scope.kind = .function) : codeAny (model prog w) A (.call (.ref f) args) R s := by
  obtain ⟨FG, BG, st, lv⟩ := groundX (R := R) B F N hA hf hke
  have G : GSub s.heap (hideAll s.heap (news.map (·.1))) (news.map (·.1)) := fun b o e n => hideAll_get _ e n
  refine codeAny_call_function (fd := fnX name qual params body scope [] dV kV doc pm an cdv ct) hroom ((X₀.keeps F.keep) _ _ ho) rfl hco hgen rfl (codeRec_of (X₀.keeps F.keep) hcd) (hbind _ _ _ _ (wpAny_newFunctionEnv_cells hk (kindsX hkind _) fun env' he s' x => ?_))
  subst he
  refine ⟨(T.nolimit.keeps F.keep).keeps x.toInCall.keep, codeAny_func ?_⟩
  obtain ⟨h₁, tk, rfl, _⟩ := x.done
  have hk₁ := x.toInCall.keep
  obtain ⟨cells, NC, Y⟩ := Cl.news (h₀ := s.heap) (Nat.le_refl _) fun n c hm => ⟨x.cell n c (lookup_of_mem_nodup (cellsFrom_names scope.names 0 (s.heap.objs.size + 1) [] [] rfl ▸ hnd) hm), x.above n c hm⟩
  have N₁ : News (hideAll s.heap (news.map (·.1))) s.heap.objs.size h₁ (cells ++ news) := fun q hq => (List.mem_append.mp hq).elim
    (fun hq => ⟨(NC q hq).1, (NC q hq).2.1, by
      cases e : (hideAll s.heap (news.map (·.1))).get? q.1 with
      | none => rfl
      | some o => exact absurd ((NC q hq).2.2.symm.trans (of_hideAll _ e)) (fun z => nomatch z)⟩)
    (fun hq => ⟨hk₁ _ _ (N q hq).1, Nat.ne_of_lt (Heap.lt_size (N q hq).1), hideAll_none _ (List.mem_map_of_mem hq)⟩)
  exact wpAny_mono (h _ s.heap.objs.size h₁ tk cells FG ⟨x.toInCall.ns, fun b o e => hk₁ b o (of_hideAll _ e), Nat.le_of_eq (hideAll_size _ _)⟩ N₁ Y BG (X₀.keeps st) (T.keeps st) fun q hq => Heap.lt_size (N q hq).1)
    (fun fl s' hl => lv _ _ (leave2_to G hl)) fun _ _ y => y
end
noncomputable def Spec2 (w : World) (loose : List Str) (mean : ExcName → Option Value) (mg mb : Str → Option Value) (f : Addr) (args : List Value) (need : Nat) (news : List (Addr × Obj)) (P : Value → List (Addr × Obj) → Prop) : Prop :=
  ∀ (dp un : Nat) (gd : Option (List Code)) (cn : Str) (cs : Scope) (a : Addr) (ccd : Value) (cl : List (Str × Addr)) (outer : List Env) (A₀ : Around) (base h₀ : Heap) (L : Addr) (m : Str → Option Value) (s : Shared)
    (Q E : Value → Shared → Prop),
    Below A₀ base outer h₀ → Fr h₀ L s.heap m → (hd0.heap_1 w.params).In h₀ → News h₀ L s.heap news → Top topProg loose mean mg mb h₀ → cs.kind = .function → dp + need < recursionLimit → un + 8 * need < cLine →
    (∀ r news' h' tk', Fr h₀ L h' m → News h₀ L h' news' → (∀ b o, s.heap.get? b = some o → b ∉ news.map (·.1) → h'.get? b = some o) → P r news' → Q r { s with heap := h', toks := tk' }) →
    wpAny (model PySem.Challenge.rw_il0042_01.prog w) (ktrTop dp un gd cn cs L a ccd cl outer) (call (.ref f) args) Q E s
section
variable {w : World} {loose : List Str} {mean : ExcName → Option Value} {mg mb : Str → Option Value} {f : Addr} {args : List Value} {need : Nat} {news big : List (Addr × Obj)}
    {dp un : Nat} {gd : Option (List Code)} {cn : Str} {cs : Scope} {a : Addr} {ccd : Value} {cl : List (Str × Addr)} {outer : List Env} {A₀ : Around} {base h₀ : Heap} {L : Addr} {m : Str → Option Value} {s : Shared} {Q E : Value → Shared → Prop}
theorem Spec2.use {P : Value → List (Addr × Obj) → Prop} (B : Below A₀ base outer h₀) (F : Fr h₀ L s.heap m) (X : (hd0.heap_1 w.params).In h₀) (N : News h₀ L s.heap big) (T : Top topProg loose mean mg mb h₀) (hk : cs.kind = .function)
    (C : Spec2 w loose mean mg mb f args need news P) (sub : ∀ p ∈ news, p ∈ big) (hd : dp + need < recursionLimit) (hu : un + 8 * need < cLine) (kept : ∀ r n', P r n' → ∀ p ∈ news, p ∈ n')
    (ret : ∀ r news' h' tk', Fr h₀ L h' m → News h₀ L h' (news' ++ big) → P r news' → Q r { s with heap := h', toks := tk' }) :
    wpAny (model PySem.Challenge.rw_il0042_01.prog w) (ktrTop dp un gd cn cs L a ccd cl outer) (call (.ref f) args) Q E s :=
  C dp un gd cn cs a ccd cl outer A₀ base h₀ L m s Q E B F X (fun p hp => N p (sub p hp)) T hk hd hu fun r news' h' tk' F' N' K' P' => ret r news' h' tk' F' (fun p hp => by
    rcases List.mem_append.mp hp with hp | hp
    · exact N' p hp
    · by_cases hq : p.1 ∈ news.map (·.1)
      · obtain ⟨q, hq1, hq2⟩ := List.mem_map.mp hq
        have e : q.2 = p.2 := by
          have e1 := (N q (sub q hq1)).1
          rw [hq2, (N p hp).1] at e1
          exact (Option.some.inj e1).symm
        have : q = p := Prod.ext hq2 e
        exact this ▸ N' q (kept r news' P' q hq1)
      · exact ⟨K' _ _ (N p hp).1 hq, (N p hp).2⟩) P'
end
theorem fr_hide {h₀ h : Heap} {L : Addr} {m : Str → Option Value} (l : List (Str × Value)) (F : Fr h₀ L h m) (hl : ∀ p ∈ l, m p.1 = some p.2) : ∃ mm : Str → Option Value, Fr h₀ L h (fun y => frl l (mm y) y) := ⟨m, fr_list l F hl⟩
theorem allN {α : Type} {P : α → Prop} : ∀ p ∈ ([] : List α), P p := fun _ hp => nomatch hp
theorem items_ind {prog : Program} {w : World} {A : Around} {E : Value → Shared → Prop} {s : Shared} {env : Env} {h₀ : Heap} {target : PySem.Expr} {body : List Stmt} {Q : Flow → Shared → Prop} {I : Addr} {keep : List (Addr × Obj)} {cn : String} {α : Type} (val : α → Value)
    (Inv : List α → (Str → Option Value) → List (Addr × Obj) → Prop)
    (done : ∀ m news h tk, Inv [] m news → Fr h₀ env.locals h m → News h₀ env.locals h news → Q .next { s with heap := h, toks := tk })
    (step : ∀ (Nx : (Str → Option Value) → List (Addr × Obj) → Prop) x r m news h tk o, Inv (x :: r) m news → o.cls = .type cn → Fr h₀ env.locals h m → News h₀ env.locals h ((I, o) :: news) →
      (∀ m' news', Inv r m' news' → Nx m' news') →
      wpAny (model prog w) A (assign target env (val x)) (fun _ s₂ => wpAny (model prog w) A (execs body env) (UnrPostW h₀ env.locals { s with heap := h, toks := tk } [(I, o)] Nx Q) E s₂) E { s with heap := h, toks := tk })
    (keeps : ∀ l m news, Inv l m news → SubL keep news) : ∀ (l : List α) (m : Str → Option Value) (news : List (Addr × Obj)), Inv l m news → ItemsRest prog w A E h₀ env target body Q s [(I, cn)] keep ((l.map val).map .val) m news := by
  intro l
  induction l with
  | nil => intro m news hi; exact ItemsRest.zero fun h tk F N => done m news h tk hi F N
  | cons x r ih =>
    intro m news hi
    exact ItemsRest.val fun h tk F => AllObj.cons fun o hc => AllObj.nil fun N => step _ x r m news h tk o hi hc F N fun m' n' hi' => ⟨keeps r m' n' hi', ih m' n' hi'⟩
end Mine
namespace Mine
open PyProof.Rows.LCg PyProof.Rows.LCt
theorem ite_yes {c : Prop} [Decidable c] {T F : Prop} (h : c) (t : T) : if c then T else F := by rw [if_pos h]; exact t
theorem ite_no {c : Prop} [Decidable c] {T F : Prop} (h : ¬ c) (t : F) : if c then T else F := by rw [if_neg h]; exact t
section
variable {prog : Program} {w : World} {A : Around} {E : Value → Shared → Prop} {s : Shared} {h₀ : Heap} {L : Addr} {m : Str → Option Value} {env : Env}
theorem ne_empty {a b : Addr} {vs : List Value} {k k2 : Nat} {news : List (Addr × Obj)} {Q : Value → Shared → Prop} (N : News h₀ L s.heap news) (ha : (a, W.listOf vs.toArray k) ∈ news) (hb : (b, W.listOf #[] k2) ∈ news) (hu : A.units < cLine)
    (h : Q (.bool (!vs.isEmpty)) s) : wpAny (model prog w) A (compareOp .NotEq (.ref a) (.ref b)) Q E s := by
  have hl : s.heap.IsList a vs.toArray := ⟨_, (N _ ha).1, rfl, k, rfl⟩
  have hr : s.heap.IsList b #[] := ⟨_, (N _ hb).1, rfl, k2, rfl⟩
  show wpAny (model prog w) A (richCompare .NotEq (.ref a) (.ref b)) Q E s
  cases vs with
  | nil =>
    have := PySem.SeqAt.RcNeAt.lists (e := fun _ => true) hl hr rfl hu (fun j h1 _ => absurd h1 (by simp))
    refine this prog w E Q ?_
    exact h
  | cons v r =>
    have := PySem.SeqAt.RcNeAt.lists_lengths hl hr (by simp) hu
    exact this prog w E Q h
noncomputable def TEnd (h₀ : Heap) (L : Addr) (m' : Str → Option Value) (s₁ : Shared) (led : List (Addr × Obj)) (R : Value → Prop) (y : Value) (s₂ : Shared) : Prop :=
  ∃ h' tk, s₂ = { s₁ with heap := h', toks := tk } ∧ Fr h₀ L h' m' ∧ News h₀ L h' led ∧ R y
theorem tend {m' : Str → Option Value} {s₁ : Shared} {led : List (Addr × Obj)} {R : Value → Prop} {y : Value} {h' : Heap} {tk : Nat} (F : Fr h₀ L h' m') (N : News h₀ L h' led) (r : R y) : TEnd h₀ L m' s₁ led R y { s₁ with heap := h', toks := tk } := ⟨h', tk, rfl, F, N, r⟩
theorem tend_comp {m' : Str → Option Value} {s₁ : Shared} {I : Addr} {oI : Obj} {C : Addr} {oC : Obj} {D : Addr} {oD : Obj} {S : List (Addr × Obj) → Prop} {R : Value → Prop} {rest' : Value → List (Addr × Obj) → Prop} {y : Value} {s₂ : Shared} {news : List (Addr × Obj)}
    (h : TEnd h₀ L m' s₁ ((I, oI) :: (C, oC) :: (D, oD) :: news) R y s₂) (off : Off3 I C D news) (hS : S news) (hr : R y → rest' y news) : CompEnd h₀ L m' s₁ I oI C oC D oD S rest' y s₂ := by
  obtain ⟨h', tk, e, F, N, r⟩ := h
  exact ⟨h', tk, news, e, F, N, off, hS, hr r⟩
theorem ints_snoc {ys : List Value} {l : List Int} {i : Int} {u : Tok} (h : IntsAre ys l) : IntsAre (ys ++ [.int i u]) (l ++ [i]) := by
  induction h with
  | nil => exact .cons _ _ .nil
  | cons i t h ih => exact .cons _ _ ih
theorem compT_ints {ct elt : PySem.Expr} {x : Str} {scope : Scope} {cl : List (Str × Addr)} {S : List (Addr × Obj) → Prop} {Fin : List Value → List (Addr × Obj) → Prop} {vs : List Value} {js : List Int} {news : List (Addr × Obj)} (hi : IntsAre vs js) (hS : S news) (t : Int → Bool) (f : Int → Int)
    (turn : ∀ j tj I oI C oC D m₂ h tk (E' : Value → Shared → Prop) ys, j ∈ js → NsObj oC m₂ → m₂ x = some (.int j tj) → Fr h₀ L h m → News h₀ L h ((I, oI) :: (C, oC) :: (D, lst ys) :: news) → Off3 I C D news → ((@Ne Nat I C) ∧ (@Ne Nat I D) ∧ (@Ne Nat C D)) →
      wpAny (model prog w) A (isTrue ct (compEnvC scope cl C env) (eval ct (compEnvC scope cl C env))) (fun ok s' => if ok = true then
        wpAny (model prog w) A (eval elt (compEnvC scope cl C env)) (TEnd h₀ L m { s with heap := h, toks := tk } ((I, oI) :: (C, oC) :: (D, lst ys) :: news) (fun y => t j = true ∧ ∃ u, y = .int (f j) u)) E' s'
        else TEnd h₀ L m { s with heap := h, toks := tk } ((I, oI) :: (C, oC) :: (D, lst ys) :: news) (fun _ => t j = false) Value.none s') E' { s with heap := h, toks := tk })
    (fin : ∀ ys, IntsAre ys ((js.filter t).map f) → Fin ys news) :
    CompRestT prog w A h₀ L m env ct elt x scope cl s S (fun i v => vs.toArray[i]? = some v) Fin vs.toArray.size 0 [] news := by
  have go : ∀ k i ys, i + k = js.length → IntsAre ys (((js.take i).filter t).map f) → CompRestT prog w A h₀ L m env ct elt x scope cl s S (fun i v => vs.toArray[i]? = some v) Fin k i ys news := by
    intro k
    induction k with
    | zero =>
      intro i ys hik hys
      refine CompRestT.zero (fin ys ?_)
      rw [List.take_of_length_le (by omega)] at hys
      exact hys
    | succ k ih =>
      intro i ys hik hys
      refine CompRestT.succ fun v I oI C oC D m₂ h tk E' hv hC hx F N off ne => ?_
      have hlt : i < js.length := by omega
      obtain ⟨tj, hx'⟩ := hi.get i js[i] (by simp [hlt])
      have e : v = .int js[i] tj := by
        have hv' : vs[i]? = some v := by simpa using hv
        rw [hx'] at hv'; exact (Option.some.inj hv').symm
      subst e
      have htake : js.take (i + 1) = js.take i ++ [js[i]] := by rw [List.take_add_one]; simp [hlt]
      refine wpAny_mono (turn js[i] tj I oI C oC D m₂ h tk E' ys (List.getElem_mem hlt) hC hx F N off ne) (fun ok s' hs => ?_) fun _ _ q => q
      cases ok with
      | true =>
        rw [if_pos rfl] at hs ⊢
        refine wpAny_mono hs (fun y s'' hy => tend_comp hy off hS ?_) fun _ _ q => q
        rintro ⟨ht, u, rfl⟩
        refine ih (i + 1) _ (by omega) ?_
        rw [htake, List.filter_append, List.map_append]
        have e1 : [js[i]].filter t = [js[i]] := by simp [ht]
        rw [e1]
        exact ints_snoc hys
      | false =>
        rw [if_neg (by decide)] at hs ⊢
        refine tend_comp hs off hS ?_
        intro ht
        refine ih (i + 1) _ (by omega) ?_
        rw [htake, List.filter_append]
        have e1 : [js[i]].filter t = [] := by simp [ht]
        rw [e1, List.append_nil]
        exact hys
  have hsz : vs.toArray.size = js.length := by rw [List.size_toArray]; exact hi.length
  rw [hsz]
  exact go js.length 0 [] (by omega) .nil
end
noncomputable def MySrc (P : Prop) : Prop := P
theorem my_src {P : Prop} (h : MySrc P) : P := h
noncomputable def MyIter (prog : Program) (w : World) (A : Around) (x : Value) (Q : Value → Shared → Prop) (E : Value → Shared → Prop) (s : Shared) : Prop := wpAny (model prog w) A (pyIter x) Q E s
theorem my_iter {prog : Program} {w : World} {A : Around} {x : Value} {Q : Value → Shared → Prop} {E : Value → Shared → Prop} {s : Shared} (h : MyIter prog w A x Q E s) : wpAny (model prog w) A (pyIter x) Q E s := h
noncomputable def rangeL (a b : Int) : List Int := (List.range (b - a).toNat).map fun i => a + (i : Nat)
theorem ints_of : ∀ (ys : List Value) (l : List Int), ys.length = l.length → (∀ (i : Nat) (v : Value), ys[i]? = some v → ∃ t : Tok, v = Value.int (l.getD i 0) t) → IntsAre ys l := by
  intro ys
  induction ys with
  | nil =>
    intro l hl _
    cases l with
    | nil => exact .nil
    | cons _ _ => cases hl
  | cons y r ih =>
    intro l hl h
    cases l with
    | nil => cases hl
    | cons j l =>
      obtain ⟨t, e⟩ := h 0 y (by simp)
      have e' : y = Value.int j t := e
      subst e'
      exact .cons _ _ (ih l (by simpa using hl) fun i v hv => by
        have := h (i + 1) v (by simpa using hv)
        simpa using this)
theorem list_of_range {prog : Program} {w : World} {A : Around} {E : Value → Shared → Prop} {s : Shared} {h₀ : Heap} {L : Addr} {m : Str → Option Value} {news : List (Addr × Obj)} {r : Addr} {a b : Int} {t u v : Tok} {Q : Value → Shared → Prop} (hh : A.handled = none) (F : Fr h₀ L s.heap m) (N : News h₀ L s.heap news)
    (hr : IsRange s.heap r a b 1 t u v) (ha : 0 ≤ a) (ha2 : a ≤ 100000) (hb : 0 ≤ b) (hb2 : b ≤ 100000)
    (h : ∀ D h' tk ys c, Fr h₀ L h' m → News h₀ L h' ((D, W.listOf ys.toArray c) :: news) → (∀ p ∈ news, p.1 < D) → IntsAre ys (rangeL a b) → Q (.ref D) { s with heap := h', toks := tk }) :
    wpAny (model prog w) A (call (.type "list") [.ref r]) Q E s := by
  have hn : Builtin.Range.rangeSize a b 1 = (((b - a).toNat : Nat) : Int) := by
    unfold Builtin.Range.rangeSize
    rw [if_pos (by decide)]
    by_cases q : a < b
    · rw [if_pos q]; omega
    · rw [if_neg q]; omega
  have hsm : Builtin.Range.small a b 1 = true := small_one (by omega) (by omega) (by omega) (by omega)
  refine call_list_range hh hr hsm hn (by omega) fun h' tk acc' c' hk ho hi => ?_
  refine h _ h' tk acc'.toList c' (F.keeps hk) (fun p hp => ?_) (fun p hp => Heap.lt_size (N p hp).1) ?_
  · rcases List.mem_cons.mp hp with e | hp
    · rw [e]
      refine ⟨ho, Nat.ne_of_gt F.ns.lt, ?_⟩
      cases q : h₀.get? s.heap.objs.size with
      | none => rfl
      | some o' => exact absurd (Heap.lt_size (F.keep _ _ q)) (Nat.lt_irrefl _)
    · exact ⟨hk _ _ (N p hp).1, (N p hp).2⟩
  · refine ints_of _ _ (by simp [rangeL, hi.1]) fun i v hv => ?_
    obtain ⟨t, e⟩ := hi.2 i v (by simpa using hv)
    refine ⟨t, ?_⟩
    have hlt : i < (b - a).toNat := by
      have := (List.getElem?_eq_some_iff.mp hv).1
      rw [Array.length_toList, hi.1] at this
      exact this
    rw [e]
    simp [rangeL, hlt]
theorem and_tt {p : Prop} [Decidable p] {b : Bool} (h : p) (h2 : b = true) : (decide p && b) = true := by rw [h2, decide_eq_true h]; rfl
theorem and_f1 {p : Prop} [Decidable p] {b : Bool} (h : ¬p) : (decide p && b) = false := by rw [decide_eq_false h]; rfl
theorem and_f2 {p : Prop} [Decidable p] {b : Bool} (h : b = false) : (decide p && b) = false := by rw [h, Bool.and_false]
theorem ints_cases {vs : List Value} {js : List Int} (h : IntsAre vs js) : (vs = [] ∧ js = []) ∨ ∃ j0 t0 vs' js', vs = Value.int j0 t0 :: vs' ∧ js = j0 :: js' ∧ IntsAre vs' js' := by
  cases h with
  | nil => exact .inl ⟨rfl, rfl⟩
  | cons i t h => exact .inr ⟨_, _, _, _, rfl, rfl, h⟩
theorem News.subl {h₀ h : Heap} {L : Addr} {all news : List (Addr × Obj)} (N : News h₀ L h all) (sub : SubL news all) : News h₀ L h news := fun p hp => N p (sub.mem p hp)
noncomputable def notA (name : Str) (j : Int) : Bool := (Builtin.Str.occurrences (Txt.slice (Str.ofString "[^a]") (some 2) (some (-1))) (Txt.item name j) 0 (Txt.slice (Str.ofString "[^a]") (some 2) (some (-1))).length 1).isEmpty
noncomputable def lastOf (p : Str) : Str := if p = Str.ofString "\\." then Str.ofString "." else p
noncomputable def stepT (name : Str) (js : List Int) (part : Str) : List Int :=
  if part = Str.ofString "*" then (match js with | [] => [] | j :: _ => rangeL j ((name.length : Int) + 1))
  else if part = Str.ofString "?" then (js.filter (fun j => decide (j < (name.length : Int)))).map (fun j => j + 1)
  else if part = Str.ofString "[^a]" then (js.filter (fun j => decide (j < (name.length : Int)) && notA name j)).map (fun j => j + 1)
  else (js.filter (fun j => Txt.slice name (some j) (some (j + 1)) == lastOf part)).map (fun j => j + 1)
theorem rangeL_mem {a b j : Int} (h : j ∈ rangeL a b) : a ≤ j ∧ j < b := by
  unfold rangeL at h
  obtain ⟨i, hi, rfl⟩ := List.mem_map.mp h
  have := List.mem_range.mp hi
  omega
theorem rangeL_len (a b : Int) : (rangeL a b).length = (b - a).toNat := by simp [rangeL]
theorem filt_b {js : List Int} {t : Int → Bool} {lo hi : Int} (h : ∀ j ∈ js, lo ≤ j ∧ j ≤ hi) : ∀ j ∈ (js.filter t).map (fun j => j + 1), lo ≤ j ∧ j ≤ hi + 1 := fun j hj => by
  obtain ⟨i, hi', rfl⟩ := List.mem_map.mp hj
  have := h i (List.mem_filter.mp hi').1
  omega
theorem filt_l {js : List Int} {t : Int → Bool} {n : Nat} (h : js.length ≤ n) : ((js.filter t).map (fun j => j + 1)).length ≤ n := by
  rw [List.length_map]
  exact Nat.le_trans (List.length_filter_le _ _) h
noncomputable abbrev sval (p : Str × Tok) : Value := .str p.1 p.2
end Mine
namespace Mine
open PyProof.Rows.LCg PyProof.Rows.LCt
theorem wd09_1 : True := by
  (k_with "exec For Name Name cons nil" => (((rename Fr _ _ _ _ => lF'); (with_unfolding_all refine' For_turns lF' ?_; k_whole))))
  trivial
local macro_rules | `(tactic| walk_at "pyIter ref") => `(tactic| ((with_reducible show wpAny _ _ (pyIter (Value.ref _)) (fun it s₂ => TurnsAt _ _ _ _ _ _ _ _ _ it s₂) _ _); refine my_iter ?_))
theorem wd09_2 : True := by
  (k_with "exec Assign cons ListComp" => ((k_dflt (refine LCt.Assign_ListComp_T (F₀ := by k_asm) (by rfl) (by with_unfolding_all rfl) (by with_unfolding_all rfl) (by decide) (by rfl) (by decide) (by rfl) (by rfl) (by rfl) ?_))))
  (k_with "TEnd" => ((refine tend (by with_reducible assumption) (by with_reducible assumption) ?_)))
  (k_with "call type:list" => (((with_reducible show wpAny _ _ (call (Value.type _) [Value.ref _]) _ _ _); refine my_src ?_)))
  (k_with "CompSrcT" => ((refine my_src ?_)))
  (k_with "ite" => (first | refine ite_yes (by decide +kernel) ?_ | refine ite_no (by decide +kernel) ?_ | refine ite_yes (by with_unfolding_all exact rfl) ?_ | with_unfolding_all refine ite_no Bool.false_ne_true ?_))
  (k_with "compareOp NotEq ref ref" => (((with_reducible show wpAny _ _ (compareOp CmpOp.NotEq (Value.ref _) (Value.ref _)) _ _ _); k_dflt (refine' ne_empty ?k1 ?k2 ?k3 ?k4 ?_; (case k1 => k_asm); (case k2 => k_mem); (case k3 => k_mem); (case k4 => ktr_units); k_whole))))
  trivial
noncomputable def takesF (name : Str) (parts : List Str) : Bool := (parts.foldl (stepT name) [0]).any fun x => x == (name.length : Int)
theorem takes_spec (w : World) (loose : List Str) (mean : ExcName → Option Value) (mg mb : Str → Option Value) (pl : Addr) (name : Str) (tn : Tok) (ps : List (Str × Tok)) (n : Nat) (hps : ∀ p ∈ ps, p.1 ∈ ([Str.ofString "*", Str.ofString "a", Str.ofString "?", Str.ofString "b", Str.ofString "[^a]", Str.ofString "\\."] : List Str)) (hl : ps.length ≤ 10) (hn : name.length ≤ 10) :
    Spec2 w loose mean mg mb 201 [.ref pl, .str name tn] 4 [(pl, lstO (ps.map sval) n)] (fun r n' => (∃ tl, n' = tl ++ [(pl, lstO (ps.map sval) n)]) ∧ r = .bool (takesF name (ps.map (·.1)))) := by
  unfold Spec2
  k_fill
  intro dp un gd cn cs a ccd cl outer A₀ base h₀ L m s Q E B F X N T hk hd hu hret
  refine wpAny_call ?_
  k_dflt (refine' code_cells2 ?k1 ?k2 ?k3 ?k4 ?k5 ?kA ?kF ?kK ?k6 ?k7 ?k8 ?k9 ?kB ?kD ?_ ?c2 ?c3 ?c4; (case kA => exact rfl); (case kF => exact rfl); (case kK => assumption); (case k1 => k_asm); (case k2 => k_asm); (case k3 => k_asm); (case k4 => k_asm); (case k5 => k_asm); (case k6 => k_is); (case k7 => k_is); (case k8 => ktr_room); (case k9 => exact BindsTo.of_eq rfl); (case kB => exact rfl); (case kD => decide +kernel); (case c2 => exact rfl); (case c3 => exact rfl); (case c4 => exact rfl); k_whole; intro g' L' h' tk' cells' FG' F' N' Y' B' X' T' l1; (try k_lt l1); k_cells Y'; (try simp only [List.cons_append, List.nil_append] at N'); (try dsimp only); (try k_fold))
  obtain ⟨mm, F'⟩ := fr_hide [(Str.ofString "parts", .ref pl)] F' (all1 rfl)
  simp only [frl] at F'
  k_steps
  unfold MyIter
  rename Fr _ _ _ _ => lF
  rename News _ _ _ _ => lN
  refine iter_listTurns (ax := pl) (lo := lstO (ps.map sval) n) rfl lF lN (List.mem_cons_of_mem _ (List.mem_cons_of_mem _ (List.mem_cons_of_mem _ List.mem_cons_self))) rfl rfl ?_
  intro I hI
  k_lt hI
  clear lF lN
  refine items_ind sval (fun l m news => ∃ ra o1 o2 pv js vs k, news = [(ra, W.listOf vs.toArray k), (L' + 1 + 1, o1), (L' + 1, o2), (pl, lstO (ps.map sval) n)] ∧ m (Str.ofString "reach") = some (.ref ra) ∧ o1.data = .cell pv ∧ o2.data = .cell (some (.str name tn)) ∧ IntsAre vs js ∧ (∀ p ∈ l, p ∈ ps) ∧ (@Ne Nat ra (L' + 1 + 1)) ∧ (@Ne Nat ra I) ∧ js.length ≤ 100 ∧ (∀ j ∈ js, 0 ≤ j ∧ j ≤ 50 - (l.length : Int)) ∧ l.length ≤ 10 ∧ (l.map (·.1)).foldl (stepT name) js = (ps.map (·.1)).foldl (stepT name) [0]) ?done ?step ?keeps ps _ _ ?init
  case step =>
    rintro Nx ⟨x, tx⟩ r m9 news h9 tk9 o ⟨ra, o1, o2, pv, js, vs, k, rfl, e1, hd1, hd2, hi, hmem, hra, hra2, hjl, hjb, hll, hfold⟩ hc F' N' hnext
    have hx := hps _ (hmem _ (.head _))
    obtain ⟨mm, F'⟩ := fr_hide [(Str.ofString "reach", .ref ra)] F' (all1 e1)
    simp only [frl] at F'
    simp only [List.mem_cons, List.mem_nil_iff, or_false] at hx
    rcases hx with rfl | rfl | rfl | rfl | rfl | rfl <;> dsimp only [sval]
    · rcases ints_cases hi with ⟨rfl, rfl⟩ | ⟨j0, t0, vs', js', rfl, rfl, hi'⟩
      · k_steps
        rename Fr _ _ _ _ => lF
        rename News _ _ _ _ => lN
        exact unr_one lF (News.subl lN (by k_subL)) (by k_all) (hnext _ _ ⟨_, _, _, _, [], [], 0, rfl, rfl, (by assumption), hd2, .nil, (fun p hp => hmem p (.tail _ hp)), (by intro e; omega), (by intro e; omega), (by simp), (fun j hj => nomatch hj), (by simp only [List.length_cons] at hll; omega), hfold⟩)
      · have hj0 := hjb j0 (.head _)
        have hg0 : (j0 :: js').getD (Int.toNat 0) 0 = j0 := rfl
        simp only [List.length_cons] at hj0 hll
        k_steps
        rename Fr _ _ _ _ => lF
        rename News _ _ _ _ => lN
        rename IsRange _ _ _ _ _ _ _ _ => lR
        unfold MySrc
        refine' list_of_range ?k0 ?k1 ?k2 ?k3 ?k4 ?k5 ?k6 ?k7 ?_
        case k0 => rfl
        case k1 => exact lF
        case k2 => exact lN
        case k3 => exact lR
        case k4 => omega
        case k5 => omega
        case k6 => omega
        case k7 => omega
        clear lF lN
        intro D9 h8 tk8 ys8 c8 F8 N8 l8 hys
        k_lt l8
        rw [hg0] at hys
        k_steps
        rename Fr _ _ _ _ => lF
        rename News _ _ _ _ => lN
        refine unr_one lF (News.subl lN (by k_subL)) (by k_all) (hnext _ _ ⟨D9, _, _, _, _, ys8, c8, rfl, rfl, (by assumption), hd2, hys, (fun p hp => hmem p (.tail _ hp)), (by intro e; omega), (by intro e; omega), ?_, (fun j hj => by have := rangeL_mem hj; omega), (by omega), hfold⟩)
        rw [rangeL_len]; omega
    · k_steps
      unfold MySrc
      rename Fr _ _ _ _ => lF
      rename News _ _ _ _ => lN
      refine CompSrcT.ledger rfl lF lN (by first | exact .head _ | exact .tail _ (.head _) | exact .tail _ (.tail _ (.head _)) | exact .tail _ (.tail _ (.tail _ (.head _)))) (by rw [sizeLine_eq, List.size_toArray, hi.length]; omega) (fun g => ?_)
      clear lF lN
      refine compT_ints hi (.inr ⟨_, by first | exact .head _ | exact .tail _ (.head _) | exact .tail _ (.tail _ (.head _)) | exact .tail _ (.tail _ (.tail _ (.head _))), rfl, _, rfl⟩) (fun j => Txt.slice name (some j) (some (j + 1)) == Str.ofString "a") (fun j => j + 1) ?_ ?_
      · intro j tj I₁ oI C oC D m₂ h₂ tk₂ E' ys hj hC hx2 F₂ N₂ off ne
        simp only [LCg.Off3, and_true] at off
        have hjj := hjb j hj
        k_steps
        all_goals first
          | exact decide_eq_false (by assumption)
          | exact and_tt (by assumption) (by assumption)
          | exact and_f2 (by assumption)
          | exact and_f1 (by assumption)
      · intro ys hys
        intro D9 h8 tk8 F8 N8 off8
        simp only [LCg.Off1, and_true] at off8
        k_steps
        rename Fr _ _ _ _ => lF
        rename News _ _ _ _ => lN
        exact unr_one lF (News.subl lN (by k_subL)) (by k_all) (hnext _ _ ⟨D9, _, _, _, _, _, _, rfl, rfl, (by assumption), hd2, hys, (fun p hp => hmem p (.tail _ hp)), (by intro e; omega), (by intro e; omega), filt_l hjl, (fun j hj => by have := filt_b hjb j hj; simp only [List.length_cons] at this; omega), (by simp only [List.length_cons] at hll; omega), hfold⟩)
    · k_steps
      unfold MySrc
      rename Fr _ _ _ _ => lF
      rename News _ _ _ _ => lN
      refine CompSrcT.ledger rfl lF lN (by first | exact .head _ | exact .tail _ (.head _) | exact .tail _ (.tail _ (.head _)) | exact .tail _ (.tail _ (.tail _ (.head _)))) (by rw [sizeLine_eq, List.size_toArray, hi.length]; omega) (fun g => ?_)
      clear lF lN
      refine compT_ints hi (.inr ⟨_, by first | exact .head _ | exact .tail _ (.head _) | exact .tail _ (.tail _ (.head _)) | exact .tail _ (.tail _ (.tail _ (.head _))), rfl, _, rfl⟩) (fun j => decide (j < (name.length : Int))) (fun j => j + 1) ?_ ?_
      · intro j tj I₁ oI C oC D m₂ h₂ tk₂ E' ys hj hC hx2 F₂ N₂ off ne
        simp only [LCg.Off3, and_true] at off
        have hjj := hjb j hj
        k_steps
        all_goals first
          | exact decide_eq_false (by assumption)
          | exact and_tt (by assumption) (by assumption)
          | exact and_f2 (by assumption)
          | exact and_f1 (by assumption)
      · intro ys hys
        intro D9 h8 tk8 F8 N8 off8
        simp only [LCg.Off1, and_true] at off8
        k_steps
        rename Fr _ _ _ _ => lF
        rename News _ _ _ _ => lN
        exact unr_one lF (News.subl lN (by k_subL)) (by k_all) (hnext _ _ ⟨D9, _, _, _, _, _, _, rfl, rfl, (by assumption), hd2, hys, (fun p hp => hmem p (.tail _ hp)), (by intro e; omega), (by intro e; omega), filt_l hjl, (fun j hj => by have := filt_b hjb j hj; simp only [List.length_cons] at this; omega), (by simp only [List.length_cons] at hll; omega), hfold⟩)
    · k_steps
      unfold MySrc
      rename Fr _ _ _ _ => lF
      rename News _ _ _ _ => lN
      refine CompSrcT.ledger rfl lF lN (by first | exact .head _ | exact .tail _ (.head _) | exact .tail _ (.tail _ (.head _)) | exact .tail _ (.tail _ (.tail _ (.head _)))) (by rw [sizeLine_eq, List.size_toArray, hi.length]; omega) (fun g => ?_)
      clear lF lN
      refine compT_ints hi (.inr ⟨_, by first | exact .head _ | exact .tail _ (.head _) | exact .tail _ (.tail _ (.head _)) | exact .tail _ (.tail _ (.tail _ (.head _))), rfl, _, rfl⟩) (fun j => Txt.slice name (some j) (some (j + 1)) == Str.ofString "b") (fun j => j + 1) ?_ ?_
      · intro j tj I₁ oI C oC D m₂ h₂ tk₂ E' ys hj hC hx2 F₂ N₂ off ne
        simp only [LCg.Off3, and_true] at off
        have hjj := hjb j hj
        k_steps
        all_goals first
          | exact decide_eq_false (by assumption)
          | exact and_tt (by assumption) (by assumption)
          | exact and_f2 (by assumption)
          | exact and_f1 (by assumption)
      · intro ys hys
        intro D9 h8 tk8 F8 N8 off8
        simp only [LCg.Off1, and_true] at off8
        k_steps
        rename Fr _ _ _ _ => lF
        rename News _ _ _ _ => lN
        exact unr_one lF (News.subl lN (by k_subL)) (by k_all) (hnext _ _ ⟨D9, _, _, _, _, _, _, rfl, rfl, (by assumption), hd2, hys, (fun p hp => hmem p (.tail _ hp)), (by intro e; omega), (by intro e; omega), filt_l hjl, (fun j hj => by have := filt_b hjb j hj; simp only [List.length_cons] at this; omega), (by simp only [List.length_cons] at hll; omega), hfold⟩)
    · k_steps
      unfold MySrc
      rename Fr _ _ _ _ => lF
      rename News _ _ _ _ => lN
      refine CompSrcT.ledger rfl lF lN (by first | exact .head _ | exact .tail _ (.head _) | exact .tail _ (.tail _ (.head _)) | exact .tail _ (.tail _ (.tail _ (.head _)))) (by rw [sizeLine_eq, List.size_toArray, hi.length]; omega) (fun g => ?_)
      clear lF lN
      refine compT_ints hi (.inr ⟨_, by first | exact .head _ | exact .tail _ (.head _) | exact .tail _ (.tail _ (.head _)) | exact .tail _ (.tail _ (.tail _ (.head _))), rfl, _, rfl⟩) (fun j => decide (j < (name.length : Int)) && notA name j) (fun j => j + 1) ?_ ?_
      · intro j tj I₁ oI C oC D m₂ h₂ tk₂ E' ys hj hC hx2 F₂ N₂ off ne
        simp only [LCg.Off3, and_true] at off
        have hjj := hjb j hj
        k_steps
        all_goals first
          | exact decide_eq_false (by assumption)
          | exact and_tt (by assumption) (by assumption)
          | exact and_f2 (by assumption)
          | exact and_f1 (by assumption)
      · intro ys hys
        intro D9 h8 tk8 F8 N8 off8
        simp only [LCg.Off1, and_true] at off8
        k_steps
        rename Fr _ _ _ _ => lF
        rename News _ _ _ _ => lN
        exact unr_one lF (News.subl lN (by k_subL)) (by k_all) (hnext _ _ ⟨D9, _, _, _, _, _, _, rfl, rfl, (by assumption), hd2, hys, (fun p hp => hmem p (.tail _ hp)), (by intro e; omega), (by intro e; omega), filt_l hjl, (fun j hj => by have := filt_b hjb j hj; simp only [List.length_cons] at this; omega), (by simp only [List.length_cons] at hll; omega), hfold⟩)
    · k_steps
      unfold MySrc
      rename Fr _ _ _ _ => lF
      rename News _ _ _ _ => lN
      refine CompSrcT.ledger rfl lF lN (by first | exact .head _ | exact .tail _ (.head _) | exact .tail _ (.tail _ (.head _)) | exact .tail _ (.tail _ (.tail _ (.head _)))) (by rw [sizeLine_eq, List.size_toArray, hi.length]; omega) (fun g => ?_)
      clear lF lN
      refine compT_ints hi (.inr ⟨_, by first | exact .head _ | exact .tail _ (.head _) | exact .tail _ (.tail _ (.head _)) | exact .tail _ (.tail _ (.tail _ (.head _))), rfl, _, rfl⟩) (fun j => Txt.slice name (some j) (some (j + 1)) == Str.ofString ".") (fun j => j + 1) ?_ ?_
      · intro j tj I₁ oI C oC D m₂ h₂ tk₂ E' ys hj hC hx2 F₂ N₂ off ne
        simp only [LCg.Off3, and_true] at off
        have hjj := hjb j hj
        k_steps
        all_goals first
          | exact decide_eq_false (by assumption)
          | exact and_tt (by assumption) (by assumption)
          | exact and_f2 (by assumption)
          | exact and_f1 (by assumption)
      · intro ys hys
        intro D9 h8 tk8 F8 N8 off8
        simp only [LCg.Off1, and_true] at off8
        k_steps
        rename Fr _ _ _ _ => lF
        rename News _ _ _ _ => lN
        exact unr_one lF (News.subl lN (by k_subL)) (by k_all) (hnext _ _ ⟨D9, _, _, _, _, _, _, rfl, rfl, (by assumption), hd2, hys, (fun p hp => hmem p (.tail _ hp)), (by intro e; omega), (by intro e; omega), filt_l hjl, (fun j hj => by have := filt_b hjb j hj; simp only [List.length_cons] at this; omega), (by simp only [List.length_cons] at hll; omega), hfold⟩)
  case keeps =>
    rintro l m9 news ⟨ra, o1, o2, pv, js, vs, k, rfl, _⟩
    exact ⟨.tail _ (.tail _ (.tail _ (.head _))), trivial⟩
  case init =>
    exact ⟨_, _, _, _, [0], _, _, rfl, rfl, (by assumption), (by assumption), .cons _ _ .nil, (fun p hp => hp), (by intro e; omega), (by intro e; omega), (by decide), (fun j hj => by rw [List.mem_singleton.mp hj]; omega), hl, rfl⟩
  case done =>
    rintro m9 news h9 tk9 ⟨ra, o1, o2, pv, js, vs, k, rfl, e1, hd1, hd2, hi, hmem, hra, hra2, hjl, hjb, hll, hfold⟩ F' N'
    obtain ⟨mm, F'⟩ := fr_hide [(Str.ofString "reach", .ref ra)] F' (all1 e1)
    simp only [frl] at F'
    k_steps
    exact leave2 (by assumption) (by assumption) fun kF kN kK => hret _ _ _ _ kF kN kK ⟨⟨[_, _, _], rfl⟩, by rw [takesF, ← hfold]; rfl⟩
theorem wd09_off : True := by
  k_with_none
  trivial
end Mine
namespace Mine
open PyProof.Rows.LCg PyProof.Rows.LCt
section
variable {w : World} {loose : List Str} {mean : ExcName → Option Value} {mg mb : Str → Option Value} {f : Addr} {args : List Value} {need : Nat} {news big : List (Addr × Obj)}
    {dp un : Nat} {gd : Option (List Code)} {cn : Str} {cs : Scope} {a : Addr} {ccd : Value} {cl : List (Str × Addr)} {outer : List Env} {A₀ : Around} {base h₀ : Heap} {L : Addr} {m : Str → Option Value} {s : Shared} {Q E : Value → Shared → Prop}
theorem Spec2.pure {P : Value → Prop} (B : Below A₀ base outer h₀) (F : Fr h₀ L s.heap m) (X : (hd0.heap_1 w.params).In h₀) (N : News h₀ L s.heap big) (T : Top topProg loose mean mg mb h₀) (hk : cs.kind = .function)
    (C : Spec2 w loose mean mg mb f args need news (fun r n' => (∃ tl, n' = tl ++ news) ∧ P r)) (sub : ∀ p ∈ news, p ∈ big) (hd : dp + need < recursionLimit) (hu : un + 8 * need < cLine)
    (ret : ∀ r h' tk', Fr h₀ L h' m → News h₀ L h' big → P r → Q r { s with heap := h', toks := tk' }) :
    wpAny (model PySem.Challenge.rw_il0042_01.prog w) (ktrTop dp un gd cn cs L a ccd cl outer) (call (.ref f) args) Q E s :=
  Spec2.use B F X N T hk C sub hd hu (fun r n' ⟨⟨tl, e⟩, _⟩ p hp => by rw [e]; exact List.mem_append_right _ hp) fun r news' h' tk' F' N' P' => ret r h' tk' F' (fun p hp => N' p (List.mem_append_right _ hp)) P'.2
end
section
variable {prog : Program} {w : World} {A : Around} {E : Value → Shared → Prop} {s : Shared} {h₀ : Heap} {L : Addr} {m : Str → Option Value} {env : Env}
theorem eq_empty {a b : Addr} {vs : List Value} {k k2 : Nat} {news : List (Addr × Obj)} {Q : Value → Shared → Prop} (N : News h₀ L s.heap news) (ha : (a, W.listOf vs.toArray k) ∈ news) (hb : (b, W.listOf #[] k2) ∈ news) (hu : A.units < cLine)
    (h : Q (.bool vs.isEmpty) s) : wpAny (model prog w) A (compareOp .Eq (.ref a) (.ref b)) Q E s := by
  have hl : s.heap.IsList a vs.toArray := ⟨_, (N _ ha).1, rfl, k, rfl⟩
  have hr : s.heap.IsList b #[] := ⟨_, (N _ hb).1, rfl, k2, rfl⟩
  cases vs with
  | nil => exact PySem.SeqAt.eq_listAt (e := fun _ => true) hl hr rfl hu (fun j h1 _ => absurd h1 (by simp)) h
  | cons v r => exact PySem.SeqAt.eq_list_lengthsAt hl hr (by simp) hu h
theorem compT_range {ct elt : PySem.Expr} {x : Str} {scope : Scope} {cl : List (Str × Addr)} {Fin : List Value → List (Addr × Obj) → Prop} {n : Nat} {news : List (Addr × Obj)} (t : Nat → Bool)
    (turn : ∀ (j : Nat) tj I oI C oC D m₂ h tk (E' : Value → Shared → Prop) ys, j < n → NsObj oC m₂ → m₂ x = some (.int (0 + (j : Int)) tj) → Fr h₀ L h m → News h₀ L h ((I, oI) :: (C, oC) :: (D, lst ys) :: news) → Off3 I C D news → ((@Ne Nat I C) ∧ (@Ne Nat I D) ∧ (@Ne Nat C D)) →
      wpAny (model prog w) A (isTrue ct (compEnvC scope cl C env) (eval ct (compEnvC scope cl C env))) (fun ok s' => if ok = true then
        wpAny (model prog w) A (eval elt (compEnvC scope cl C env)) (TEnd h₀ L m { s with heap := h, toks := tk } ((I, oI) :: (C, oC) :: (D, lst ys) :: news) (fun _ => t j = true)) E' s'
        else TEnd h₀ L m { s with heap := h, toks := tk } ((I, oI) :: (C, oC) :: (D, lst ys) :: news) (fun _ => t j = false) Value.none s') E' { s with heap := h, toks := tk })
    (fin : ∀ ys : List Value, ys.length = ((List.range n).filter t).length → Fin ys news) :
    CompRestT prog w A h₀ L m env ct elt x scope cl s (fun _ => True) (fun i v => ∃ t, v = .int (0 + (i : Int)) t) Fin n 0 [] news := by
  have go : ∀ k i (ys : List Value), i + k = n → ys.length = (((List.range n).take i).filter t).length → CompRestT prog w A h₀ L m env ct elt x scope cl s (fun _ => True) (fun i v => ∃ t, v = .int (0 + (i : Int)) t) Fin k i ys news := by
    intro k
    induction k with
    | zero =>
      intro i ys hik hys
      refine CompRestT.zero (fin ys ?_)
      rw [List.take_of_length_le (by simp; omega)] at hys
      exact hys
    | succ k ih =>
      intro i ys hik hys
      refine CompRestT.succ fun v I oI C oC D m₂ h tk E' hv hC hx F N off ne => ?_
      obtain ⟨tj, rfl⟩ := hv
      have hlt : i < n := by omega
      have htake : (List.range n).take (i + 1) = (List.range n).take i ++ [i] := by rw [List.take_add_one]; simp [hlt]
      refine wpAny_mono (turn i tj I oI C oC D m₂ h tk E' ys hlt hC hx F N off ne) (fun ok s' hs => ?_) fun _ _ q => q
      cases ok with
      | true =>
        rw [if_pos rfl] at hs ⊢
        refine wpAny_mono hs (fun y s'' hy => tend_comp hy off trivial ?_) fun _ _ q => q
        intro ht
        refine ih (i + 1) _ (by omega) ?_
        have e1 : [i].filter t = [i] := by simp [ht]
        rw [htake, List.filter_append, e1, List.length_append, List.length_append, hys]
        rfl
      | false =>
        rw [if_neg (by decide)] at hs ⊢
        refine tend_comp hs off trivial ?_
        intro ht
        refine ih (i + 1) _ (by omega) ?_
        have e1 : [i].filter t = [] := by simp [ht]
        rw [htake, List.filter_append, e1, List.append_nil]
        exact hys
  exact go n 0 [] (by omega) rfl
end
end Mine
namespace Mine
open PyProof.Rows.LCg PyProof.Rows.LCt
theorem wd11_1 : True := by
  (k_with "eval ListComp" => ((k_dflt (refine LCt.ListComp_T (F₀ := by k_asm) (by with_unfolding_all rfl) (by decide) (by rfl) (by decide) (by rfl) ?_))))
  (k_with "CompSrcT" => ((refine my_src ?_)))
  (k_with "ite" => (first | refine ite_yes (by decide +kernel) ?_ | refine ite_no (by decide +kernel) ?_ | refine ite_yes (by with_unfolding_all exact rfl) ?_ | with_unfolding_all refine ite_no Bool.false_ne_true ?_))
  (k_with "compareOp NotEq ref ref" => (((with_reducible show wpAny _ _ (compareOp CmpOp.NotEq (Value.ref _) (Value.ref _)) _ _ _); k_dflt (refine' ne_empty ?k1 ?k2 ?k3 ?k4 ?_; (case k1 => k_asm); (case k2 => k_mem); (case k3 => k_mem); (case k4 => ktr_units); k_whole))))
  (k_with "compareOp Eq ref ref" => (((with_reducible show wpAny _ _ (compareOp CmpOp.Eq (Value.ref _) (Value.ref _)) _ _ _); k_dflt (refine' eq_empty ?k1 ?k2 ?k3 ?k4 ?_; (case k1 => k_asm); (case k2 => k_mem); (case k3 => k_mem); (case k4 => ktr_units); k_whole))))
  (k_with "TEnd" => ((refine tend (by with_reducible assumption) (by first | with_reducible assumption | exact news_tail (by with_reducible assumption)) ?_)))
  trivial
theorem not_tt {b : Bool} (h : b = false) : ¬ (b = true) := by rw [h]; exact Bool.false_ne_true
theorem wd11_2 : True := by
  (k_with "ite" => (first | refine ite_no (not_tt (by assumption)) ?_ | refine ite_yes (by decide +kernel) ?_ | refine ite_no (by decide +kernel) ?_ | refine ite_yes (by with_unfolding_all exact rfl) ?_ | with_unfolding_all refine ite_no Bool.false_ne_true ?_))
  (k_with "call ref" => (((with_reducible show wpAny _ _ (call (Value.ref 206) _) _ _ _); refine my_src ?_)))
  trivial
theorem pick1 (v : Value) (vs : List Value) : kms_pick (v :: vs).toArray.toList (some 1) none = vs := by
  simp [kms_pick, kms_lo, kms_hi]
local macro_rules | `(tactic| walk_at "subscriptTail Name Slice ref ref") => `(tactic| ((with_reducible show wpAny _ _ (subscriptTail _ (PySem.Expr.Slice _ _ none _) (Value.ref _) (Value.ref _)) _ _ _); k_dflt (refine' kms_slice_lit ?F ?N ?l ?p ?q ?e ?_ ?s ?t ?z; (case F => k_asm); (case N => k_asm); (case l => exact News.isList (by k_asm) (by k_mem)); (case p => kmk_part); (case q => kmk_part); (case e => exact pick1 _ _); (case s => with_unfolding_all rfl); (case t => kmk_pure); (case z => (rw [sizeLine_eq, List.size_toArray, List.length_cons, List.length_map]; omega)); intro D' h' F' N' l1; (try k_lt l1); (try k_sweep))))
noncomputable def itemIn (it c : Str) : Bool := !(Builtin.Str.occurrences it c 0 it.length 1).isEmpty
noncomputable def fitsF : List Str → Str → Bool
  | [], name => name == Str.ofString ""
  | it :: r, name => if it = Str.ofString "any" then ((List.range (name.length + 1)).any fun k => fitsF r (Txt.slice name (some (0 + (k : Int))) none))
    else (name != Str.ofString "") && (itemIn it (Txt.item name 0) && fitsF r (Txt.slice name (some 1) none))
theorem fits_any {r : List Str} {name : Str} : fitsF (Str.ofString "any" :: r) name = (List.range (name.length + 1)).any fun k => fitsF r (Txt.slice name (some (0 + (k : Int))) none) := by
  show (if Str.ofString "any" = Str.ofString "any" then _ else _) = _
  rw [if_pos rfl]
theorem fits_no {it : Str} {r : List Str} {name : Str} (h : it ≠ Str.ofString "any") : fitsF (it :: r) name = ((name != Str.ofString "") && (itemIn it (Txt.item name 0) && fitsF r (Txt.slice name (some 1) none))) := by
  show (if it = Str.ofString "any" then _ else _) = _
  rw [if_neg h]
theorem fits_n1 {it : Str} {r : List Str} {name : Str} (h : it ≠ Str.ofString "any") (h1 : (name != Str.ofString "") = false) : (name != Str.ofString "") = fitsF (it :: r) name := by rw [fits_no h, h1]; rfl
theorem fits_n2 {it : Str} {r : List Str} {name : Str} (h : it ≠ Str.ofString "any") (h1 : (name != Str.ofString "") = true) (h2 : (Builtin.Str.occurrences it (Txt.item name 0) 0 it.length 1).isEmpty = true) : (!(Builtin.Str.occurrences it (Txt.item name 0) 0 it.length 1).isEmpty) = fitsF (it :: r) name := by
  rw [fits_no h, h1, itemIn, h2]; rfl
theorem fits_n3 {it : Str} {r : List Str} {name : Str} (h : it ≠ Str.ofString "any") (h1 : (name != Str.ofString "") = true) (h2 : (Builtin.Str.occurrences it (Txt.item name 0) 0 it.length 1).isEmpty = false) : fitsF r (Txt.slice name (some 1) none) = fitsF (it :: r) name := by
  rw [fits_no h, h1, itemIn, h2]; simp
theorem any_len {ys : List Value} {l : List Nat} {t : Nat → Bool} (h : ys.length = (l.filter t).length) : (!ys.isEmpty) = l.any t := by
  cases hb : l.any t with
  | true =>
    obtain ⟨x, hx, ht⟩ := List.any_eq_true.mp hb
    have : x ∈ l.filter t := List.mem_filter.mpr ⟨hx, ht⟩
    have := List.length_pos_of_mem this
    cases ys with
    | nil => simp at h; omega
    | cons _ _ => rfl
  | false =>
    have e : l.filter t = [] := by
      rw [List.filter_eq_nil_iff]
      intro x hx ht
      rw [List.any_eq_true.mpr ⟨x, hx, ht⟩] at hb
      cases hb
    rw [e] at h
    cases ys with
    | nil => rfl
    | cons _ _ => simp at h
theorem fits_spec (w : World) (loose : List Str) (mean : ExcName → Option Value) (mg mb : Str → Option Value) : ∀ (ps : List (Str × Tok)) (il : Addr) (name : Str) (tn : Tok) (n : Nat), (∀ p ∈ ps, p.1.length ≤ 10) → ps.length ≤ 10 → name.length ≤ 10 →
    Spec2 w loose mean mg mb 206 [.ref il, .str name tn] (1 + ps.length) [(il, lstO (ps.map sval) n)] (fun r n' => (∃ tl, n' = tl ++ [(il, lstO (ps.map sval) n)]) ∧ r = .bool (fitsF (ps.map (·.1)) name)) := by
  intro ps
  induction ps with
  | nil =>
    intro il name tn n hps hl hn
    unfold Spec2
    k_fill
    intro dp un gd cn cs a ccd cl outer A₀ base h₀ L m s Q E B F X N T hk hd hu hret
    refine wpAny_call ?_
    k_dflt (refine' code_cells2 ?k1 ?k2 ?k3 ?k4 ?k5 ?kA ?kF ?kK ?k6 ?k7 ?k8 ?k9 ?kB ?kD ?_ ?c2 ?c3 ?c4; (case kA => exact rfl); (case kF => exact rfl); (case kK => assumption); (case k1 => k_asm); (case k2 => k_asm); (case k3 => k_asm); (case k4 => k_asm); (case k5 => k_asm); (case k6 => k_is); (case k7 => k_is); (case k8 => ktr_room); (case k9 => exact BindsTo.of_eq rfl); (case kB => exact rfl); (case kD => decide +kernel); (case c2 => exact rfl); (case c3 => exact rfl); (case c4 => exact rfl); k_whole; intro g' L' h' tk' cells' FG' F' N' Y' B' X' T' l1; (try k_lt l1); k_cells Y'; (try simp only [List.cons_append, List.nil_append] at N'); (try dsimp only); (try k_fold))
    obtain ⟨mm, F'⟩ := fr_hide [] F' allN
    simp only [frl] at F'
    dsimp only [List.map, sval] at N'
    k_steps
    dsimp only
    exact leave2 (by assumption) (by assumption) fun kF kN kK => hret _ _ _ _ kF kN kK ⟨⟨[_, _, _], rfl⟩, rfl⟩
  | cons p r ih =>
    obtain ⟨it, ti⟩ := p
    intro il name tn n hps hl hn
    have hit : it.length ≤ 10 := hps (it, ti) (.head _)
    simp only [List.length_cons] at hl
    by_cases hany : it = Str.ofString "any"
    · subst hany
      unfold Spec2
      k_fill
      intro dp un gd cn cs a ccd cl outer A₀ base h₀ L m s Q E B F X N T hk hd hu hret
      refine wpAny_call ?_
      k_dflt (refine' code_cells2 ?k1 ?k2 ?k3 ?k4 ?k5 ?kA ?kF ?kK ?k6 ?k7 ?k8 ?k9 ?kB ?kD ?_ ?c2 ?c3 ?c4; (case kA => exact rfl); (case kF => exact rfl); (case kK => assumption); (case k1 => k_asm); (case k2 => k_asm); (case k3 => k_asm); (case k4 => k_asm); (case k5 => k_asm); (case k6 => k_is); (case k7 => k_is); (case k8 => ktr_room); (case k9 => exact BindsTo.of_eq rfl); (case kB => exact rfl); (case kD => decide +kernel); (case c2 => exact rfl); (case c3 => exact rfl); (case c4 => exact rfl); k_whole; intro g' L' h' tk' cells' FG' F' N' Y' B' X' T' l1; (try k_lt l1); k_cells Y'; (try simp only [List.cons_append, List.nil_append] at N'); (try dsimp only); (try k_fold))
      simp only [List.length_cons] at hd hu
      obtain ⟨mm, F'⟩ := fr_hide [] F' allN
      simp only [frl] at F'
      dsimp only [List.map, sval] at N'
      k_steps
      unfold MySrc
      rename Fr _ _ _ _ => lF
      rename News _ _ _ _ => lN
      rename IsRange _ _ _ _ _ _ _ _ => lR
      refine CompSrcT.range (n := name.length + 1) rfl lF lN lR (small_one (by omega) (by omega) (by omega) (by omega)) (by unfold Builtin.Range.rangeSize; rw [if_pos (by decide), if_pos (by omega)]; omega) (by rw [sizeLine_eq]; omega) (fun g => ?_)
      clear lF lN lR
      refine compT_range (fun k => fitsF (r.map (·.1)) (Txt.slice name (some (0 + (k : Int))) none)) ?_ ?_
      · intro j tj I₁ oI C oC D m₂ h₂ tk₂ E' ys hj hC hx2 F₂ N₂ off ne
        simp only [LCg.Off3, and_true] at off
        k_steps
        unfold MySrc
        k_dflt (refine' Spec2.pure ?k1 ?k2 ?k3 ?k4 ?k5 ?kK (ih _ _ _ _ (fun p hp => hps p (.tail _ hp)) ?q2 ?q3) ?sub ?kd ?ku ?_; (case k1 => k_asm); (case k2 => k_asm); (case k3 => k_asm); (case k4 => k_asm); (case k5 => k_asm); (case kK => first | exact rfl | assumption); (case q2 => omega); (case q3 => omega); (case sub => exact all1 (by k_mem)); (case kd => ktr_room); (case ku => ktr_units))
        intro r9 h9 tk9 F9 N9 P9
        subst P9
        try dsimp only
        k_steps
        all_goals assumption
      · intro ys hys
        intro D9 h8 tk8 F8 N8 off8
        simp only [LCg.Off1, and_true] at off8
        k_steps
        exact leave2 (by assumption) (by assumption) fun kF kN kK => hret _ _ _ _ kF kN kK ⟨⟨[_, _, _, _, _], rfl⟩, congrArg Value.bool ((any_len hys).trans fits_any.symm)⟩
    · have hb9 : (it == Str.ofString "any") = false := beq_eq_false_iff_ne.mpr hany
      unfold Spec2
      k_fill
      intro dp un gd cn cs a ccd cl outer A₀ base h₀ L m s Q E B F X N T hk hd hu hret
      refine wpAny_call ?_
      k_dflt (refine' code_cells2 ?k1 ?k2 ?k3 ?k4 ?k5 ?kA ?kF ?kK ?k6 ?k7 ?k8 ?k9 ?kB ?kD ?_ ?c2 ?c3 ?c4; (case kA => exact rfl); (case kF => exact rfl); (case kK => assumption); (case k1 => k_asm); (case k2 => k_asm); (case k3 => k_asm); (case k4 => k_asm); (case k5 => k_asm); (case k6 => k_is); (case k7 => k_is); (case k8 => ktr_room); (case k9 => exact BindsTo.of_eq rfl); (case kB => exact rfl); (case kD => decide +kernel); (case c2 => exact rfl); (case c3 => exact rfl); (case c4 => exact rfl); k_whole; intro g' L' h' tk' cells' FG' F' N' Y' B' X' T' l1; (try k_lt l1); k_cells Y'; (try simp only [List.cons_append, List.nil_append] at N'); (try dsimp only); (try k_fold))
      simp only [List.length_cons] at hd hu
      obtain ⟨mm, F'⟩ := fr_hide [] F' allN
      simp only [frl] at F'
      dsimp only [List.map, sval] at N'
      k_steps
      · dsimp only
        exact leave2 (by assumption) (by assumption) fun kF kN kK => hret _ _ _ _ kF kN kK ⟨⟨[_, _, _], rfl⟩, congrArg Value.bool (fits_n2 hany (by assumption) (by assumption))⟩
      · unfold MySrc
        k_dflt (refine' Spec2.pure ?k1 ?k2 ?k3 ?k4 ?k5 ?kK (ih _ _ _ _ (fun p hp => hps p (.tail _ hp)) ?q2 ?q3) ?sub ?kd ?ku ?_; (case k1 => k_asm); (case k2 => k_asm); (case k3 => k_asm); (case k4 => k_asm); (case k5 => k_asm); (case kK => first | exact rfl | assumption); (case q2 => omega); (case q3 => omega); (case sub => exact all1 (by k_mem)); (case kd => ktr_room); (case ku => ktr_units))
        intro r9 h9 tk9 F9 N9 P9
        subst P9
        try dsimp only
        exact leave2 (by assumption) (by assumption) fun kF kN kK => hret _ _ _ _ kF kN kK ⟨⟨[_, _, _, _], rfl⟩, congrArg Value.bool (fits_n3 hany (by assumption) (by assumption))⟩
      · dsimp only
        exact leave2 (by assumption) (by assumption) fun kF kN kK => hret _ _ _ _ kF kN kK ⟨⟨[_, _, _], rfl⟩, congrArg Value.bool (fits_n1 hany (by assumption))⟩
theorem wd11_off : True := by
  k_with_none
  trivial
end Mine
namespace Mine
theorem lk_ap : typeLookup (.type "list") "append" = pure (some (.builtin "list.append")) := by rw [typeLookup_type, builtinLookup_eq_fast]; kernel_rfl
theorem lk_md_get : typeLookup (.type "method_descriptor") "__get__" = pure (some (.builtin "method_descriptor.__get__")) := by rw [typeLookup_type, builtinLookup_eq_fast]; kernel_rfl
theorem lk_md_set : typeLookup (.type "method_descriptor") "__set__" = pure none := by rw [typeLookup_type, builtinLookup_eq_fast]; kernel_rfl
theorem lk_md_del : typeLookup (.type "method_descriptor") "__delete__" = pure none := by rw [typeLookup_type, builtinLookup_eq_fast]; kernel_rfl
theorem md_kind : builtinKind "method_descriptor.__get__" = some .slot := by decide +kernel
theorem sub_mdmd : isSubtype (.type "method_descriptor") (.type "method_descriptor") = pure true := by rw [isSubtype_type]; kernel_rfl
theorem sub_ll : isSubtype (.type "list") (.type "list") = pure true := by rw [isSubtype_type]; kernel_rfl
theorem sub_lc : isSubtype (.type "list") (.type (".".intercalate ("list.append".cutAt '.').dropLast)) = pure true := by rw [isSubtype_type]; kernel_rfl
theorem slot_md_get : Slot "method_descriptor" "__get__" "method_descriptor.__get__" :=
  .of (owner := "method_descriptor") (n := "__get__") (by rw [typeLookup_type, builtinLookup_eq_fast]; kernel_rfl) (by decide +kernel) (by decide +kernel) (by decide +kernel)
    (by first | exact .inl (by decide +kernel) | exact .inr (by decide +kernel)) (by rw [isSubtype_type]; kernel_rfl)
theorem entry_md_get : entryFor table "method_descriptor.__get__" = some Builtin.«method_descriptor.__get__» := entryFor_of_tree (by kernel_rfl)
theorem args_md_get (a b c : Value) : argsOk "method_descriptor.__get__" ⟨[a, b, c], []⟩ := by unfold argsOk; kernel_rfl
theorem meets_md_append (a : Addr) (xs : Array Value) (k : Nat) :
    Meets (Builtin.«method_descriptor.__get__» ⟨[.builtin "list.append", .ref a, .type "list"], []⟩) (fun _ R s => s.heap.get? a = some { cls := .type "list", dict := none, data := .seq xs k } ∧
      ∀ tk, R (.ok (.ret (.ref s.heap.objs.size))) { s with heap := s.heap.push { cls := .type "builtin_function_or_method", data := .fields #[.builtin "list.append", .ref a] }, toks := tk }) :=
  Meets.of_wp fun prog w A R s hs => by
    obtain ⟨hp, g, d, tk, os⟩ := s
    obtain ⟨hx, hs⟩ := hs
    have hT : (⟨hp, g, d, tk, os⟩ : Shared).TypeIs (.ref a) "list" := ⟨_, hx, rfl⟩
    have f7 := sub_lc
    repeat (any_goals (first | assumption | wp_step))
    exact ⟨_, rfl, hs _⟩
theorem meets_ga_append (a : Addr) (xs : Array Value) (k : Nat) (u : Tok) :
    Meets (Builtin.«object.__getattribute__» ⟨[.ref a, .str (Str.ofString "append") u], []⟩) (fun _ R s => s.heap.get? a = some { cls := .type "list", dict := none, data := .seq xs k } ∧
      ∀ tk, R (.ok (.ret (.ref s.heap.objs.size))) { s with heap := s.heap.push { cls := .type "builtin_function_or_method", data := .fields #[.builtin "list.append", .ref a] }, toks := tk }) :=
  Meets.of_wp fun prog w A R s hs => by
    obtain ⟨hp, g, d, tk, os⟩ := s
    obtain ⟨hx, hs⟩ := hs
    have hT : (⟨hp, g, d, tk, os⟩ : Shared).TypeIs (.ref a) "list" := ⟨_, hx, rfl⟩
    have f2 := lk_ap
    have f3 := PySem.F.type_list_append
    have f4 := lk_md_get
    have f5 := lk_md_set
    have f6 := lk_md_del
    have f7 := sub_ll
    have f8 := sub_mdmd
    have hM : (⟨hp, g, d, tk, os⟩ : Shared).TypeIs (.builtin "list.append") "method_descriptor" := PySem.F.type_list_append
    unfold Builtin.«object.__getattribute__»
    repeat (any_goals (first | assumption | ((with_reducible show wpAny _ _ (call (Value.builtin "method_descriptor.__get__") [_, _, _]) _ _ _); refine call_meets slot_md_get hM entry_md_get (args_md_get _ _ _) (meets_md_append a xs k) ⟨hx, fun tk => ?_⟩) | wp_step))
    exact wpAny_pure ⟨_, rfl, hs _⟩
theorem getAttr_append {prog : Program} {w : World} {A : Around} {E : Value → Shared → Prop} {s : Shared} {l : Addr} {its : Array Value} {n : Nat} {Q : Value → Shared → Prop} (hx : s.heap.get? l = some { cls := .type "list", data := .seq its n })
    (h : ∀ tk, Q (.ref s.heap.objs.size) { s with heap := s.heap.push { cls := .type "builtin_function_or_method", data := .fields #[.builtin "list.append", .ref l] }, toks := tk }) :
    wpAny (model prog w) A (getAttr (.ref l) (Str.ofString "append") true) Q E s := by
  obtain ⟨hp, g, d, t, os⟩ := s
  have hT : ∀ tk', (⟨hp, g, d, tk', os⟩ : Shared).TypeIs (.ref l) "list" := fun _ => ⟨_, hx, rfl⟩
  have f3 := F.slot_list_getattribute.lookup
  have f4 := F.slot_list_getattribute.bind (.ref l)
  unfold getAttr getAttrBy
  repeat (any_goals (first | assumption | exact hT _ | ((with_reducible show wpAny _ _ (call (Value.builtin "list.__getattribute__") _) _ _ _); refine call_meets F.slot_list_getattribute (hT _) am_entry_list_getattribute (F.args_list_getattribute_2 _ _) (meets_ga_append l its n _) ⟨hx, fun tk => ?_⟩) | wp_step))
  show wpAny _ _ (handedOut (Value.ref _)) Q E _
  exact handed_on rfl (h _)
theorem sub_lm : isSubtype (.type "list") (.type "module") = pure false := by rw [isSubtype_type]; kernel_rfl
theorem call_bound {prog : Program} {w : World} {A : Around} {E : Value → Shared → Prop} {s : Shared} {l O : Addr} {x : Value} {its : Array Value} {n : Nat} {Q : Value → Shared → Prop} (ho : s.heap.get? l = some { cls := .type "list", data := .seq its n }) (hO : s.heap.get? O = some { cls := .type "builtin_function_or_method", data := .fields #[.builtin "list.append", .ref l] })
    (h : ∀ h', Heap.SameBut l s.heap h' → h'.get? l = some { cls := .type "list", data := .seq (its.push x) (n + 1) } → Q .none { s with heap := h' }) (hsz : its.size ≤ sizeLine) :
    wpAny (model prog w) A (call (.ref O) [x]) Q E s := by
  obtain ⟨hp, g, d, t, os⟩ := s
  have hT : (⟨hp, g, d, t, os⟩ : Shared).TypeIs (.ref l) "list" := ⟨_, ho, rfl⟩
  dsimp only at ho hO
  have f3 := sub_lm
  refine wpAny_call (codeAny_of_tree ?_)
  show wpAny _ _ (callAny (.ref O) _) _ _ _
  repeat (any_goals (first | assumption | wp_step))
  refine ⟨Code.quiet_builtin _ (by decide +kernel), codeAny_builtin entry_list_append ?_⟩
  show wpAny _ _ (updateSeq l (·.push x) >>= fun _ => ret .none) _ _ _
  refine wpAny_bind ?_
  refine wpAny_updateSeq ho rfl (wpAny_pure (h _ (Heap.SameBut.update ..) ?_)) 
  rw [Heap.get?_update_self _ ho (by rw [mapSeq_push]; rfl), mapSeq_push]
noncomputable abbrev bndO (l : Addr) : Obj := { cls := .type "builtin_function_or_method", data := .fields #[.builtin "list.append", .ref l] }
section
variable {prog : Program} {w : World} {A : Around} {E : Value → Shared → Prop} {s : Shared} {h₀ : Heap} {L l O : Addr} {m : Str → Option Value} {news news' : List (Addr × Obj)} {its : Array Value} {n : Nat} {x : Value} {Q : Value → Shared → Prop}
theorem getAttr_appendK (F : Fr h₀ L s.heap m) (N : News h₀ L s.heap news) (hm : (l, W.listOf its n) ∈ news)
    (h : ∀ O h' tk, Fr h₀ L h' m → News h₀ L h' ((O, bndO l) :: news) → (∀ p ∈ news, p.1 < O) → Q (.ref O) { s with heap := h', toks := tk }) : wpAny (model prog w) A (getAttr (.ref l) (Str.ofString "append") true) Q E s :=
  getAttr_append (N _ hm).1 fun tk => h _ _ tk (F.push _) (N.push F _) fun p hp => Heap.lt_size (N p hp).1
theorem call_boundK (F : Fr h₀ L s.heap m) (N : News h₀ L s.heap news) (hO : (O, bndO l) ∈ news) (U : Upd l (W.listOf its n) (W.listOf (its.push x) (n + 1)) news news')
    (h : ∀ h', Fr h₀ L h' m → News h₀ L h' news' → Q .none { s with heap := h' }) (hsz : its.size ≤ sizeLine) : wpAny (model prog w) A (call (.ref O) [x]) Q E s := by
  obtain ⟨pre, post, rfl, rfl, a, b⟩ := U.split
  have z := N (l, W.listOf its n) (List.mem_append.mpr (.inr (.head _)))
  exact call_bound z.1 (N _ hO).1 (fun h' hs ho' => h h' (F.change hs z.2.1 z.2.2) (news_set N a b hs ho')) hsz
end
noncomputable def BndAt (q l : Addr) (h : Heap) : Prop := h.get? q = some (bndO l)
theorem bnd_at {h₀ h : Heap} {L q l : Addr} {news : List (Addr × Obj)} (N : News h₀ L h news) (hm : (q, bndO l) ∈ news) : BndAt q l h := (N _ hm).1
theorem keeps_B {M : Model} {q l : Addr} (h : Heap) (X : BndAt q l h) : ∃ k, (k = Keeper.frame ∨ k = Keeper.machine ∨ k = Keeper.boundFrame) ∧ Looks M h (keeperOf (.ref q)) k :=
  ⟨.machine, .inr (.inl rfl), (Looks.ld (part := none) X).andThen .now⟩
theorem callWith_B {M : Model} {A : Around} {E : Value → Shared → Prop} {s : Shared} {env : Env} {pos : Pos} {first : List Value} {Q : Value → Shared → Prop} {h₀ : Heap} {L q l : Addr} {news : List (Addr × Obj)} {e : PySem.Expr} {rest : List PySem.Expr} (_N : News h₀ L s.heap news) (_hm : (q, bndO l) ∈ news)
    (h : wpAny M A (spliced (backTo pos (starEach (e :: rest) env))) (fun vs s₁ => BndAt q l s₁.heap ∧ wpAny M A (call (.ref q) (first ++ vs)) Q E s₁) E s)
    (he : starEach (e :: rest) env = (false, eval e env) :: starEach rest env := by rfl) (hplain : (backTo pos (starEach rest env)).any (·.1) = false := by rfl) :
    wpAny M A (callWith pos (.ref q) first (backTo pos (starEach (e :: rest) env)) []) Q E s := by
  rw [he] at h ⊢
  exact callWith_of (by show ((false || (backTo pos (starEach rest env)).any (·.1)) || false) = false; rw [hplain]; rfl) keeps_B (evalArgs_plain h)
end Mine
namespace Mine
open PySem.Builtin.Str in
theorem sub_kl : isSubtype (.type "KeyError") (.type "LookupError") = pure true := by rw [isSubtype_type]; kernel_rfl
open PySem.Builtin.Str in
theorem tl_keep {prog : Program} {w : World} {A : Around} {E : Value → Shared → Prop} {s : Shared} {d : Addr} {f : Int → Option Value} {c : Nat} {Q : Mapped → Shared → Prop} (hm : s.heap.MapOf (intKind prog w) d f) (hd : (d == sysModules) = false) (hh : A.handled = none) (hv : f c = none)
    (h : ∀ h' tk, (∀ b o, s.heap.get? b = some o → h'.get? b = some o) → Q .keep { s with heap := h', toks := tk }) : wpAny (model prog w) A (tableLookup (.ref d) c) Q E s := by
  unfold tableLookup
  refine wpAny_bind (wpAny_attempt (wpAny_bind (wpAny_mkInt (wpAny_getItem_missing_of (f := f) (k := (c : Int)) (intKind_is prog w _ _) hd hh hm hv fun h' e hx => ?_))))
  obtain ⟨ob, t, ho, hc, hdt⟩ := hx.there
  have hT : ({ s with heap := h', toks := s.toks + 1 + 1 } : Shared).TypeIs (.ref e) "KeyError" := ⟨ob, ho, hc⟩
  have f1 := sub_kl
  show wpAny _ _ (isInstance (.ref e) (.type "LookupError") >>= _) _ _ _
  refine wpAny_bind (wpAny_isInstance hT f1 ?_)
  exact wpAny_bind (wpAny_rule (wpAny_pure (h _ _ hx.keeps)))
open PySem.Builtin.Str in
theorem tl_text {prog : Program} {w : World} {A : Around} {E : Value → Shared → Prop} {s : Shared} {d : Addr} {f : Int → Option Value} {c : Nat} {t : Str} {tk : Tok} {Q : Mapped → Shared → Prop} (hm : s.heap.MapOf (intKind prog w) d f) (hv : f c = some (.str t tk))
    (h : ∀ tk, Q (.text t) { s with toks := tk }) : wpAny (model prog w) A (tableLookup (.ref d) c) Q E s := by
  unfold tableLookup
  refine wpAny_bind (wpAny_attempt (wpAny_bind (wpAny_mkInt (wpAny_getItem_of (f := f) (k := (c : Int)) (intKind_is prog w _ _) hm hv ?_))))
  obtain ⟨hp, g, dr, tk0, os⟩ := s
  repeat (any_goals (first | assumption | wp_step))
  all_goals exact h _
theorem es146 (p : Params) : ∃ es n, (hd0.heap_1 p).lookup 146 = some ⟨.type "dict", none, .dict es n, #[]⟩ ∧ (es.toList.all fun e => match e.key with | .int k _ => e.hash == hashInt k | _ => false) = true ∧ findBy Value.isInt es 97 = none ∧ findBy Value.isInt es 98 = none ∧ (∃ t, findBy Value.isInt es 46 = some (.str (Str.ofString "\\.") t)) :=
  ⟨_, _, by with_unfolding_all exact rfl, by with_unfolding_all exact rfl, by with_unfolding_all exact rfl, by with_unfolding_all exact rfl, _, by with_unfolding_all exact rfl⟩
theorem map146 {prog : Program} {w : World} {h : Heap} (X : (hd0.heap_1 w.params).In h) : ∃ f, h.MapOf (intKind prog w) 146 f ∧ f 97 = none ∧ f 98 = none ∧ ∃ t, f 46 = some (.str (Str.ofString "\\.") t) := by
  obtain ⟨es, n, hl, hk, a, b, c⟩ := es146 w.params
  refine ⟨fun k => findBy Value.isInt es k, ⟨_, es, n, X _ _ hl, ⟨rfl, rfl, rfl⟩, rfl, fun e he => ?_, fun _ => rfl⟩, a, b, c⟩
  have q := List.all_eq_true.mp hk e (Array.mem_toList_iff.mpr he)
  revert q
  cases hh : e.key with
  | int k t => 
    intro q
    exact ⟨k, by simp [intKind, Value.isInt], eq_of_beq q⟩
  | _ => intro q; cases q
open PySem.Builtin.Str in
theorem call_translate_keep {prog : Program} {w : World} {A : Around} {E : Value → Shared → Prop} {s : Shared} {d : Addr} {f : Int → Option Value} {c : Nat} {t : Tok} {Q : Value → Shared → Prop} (hm : s.heap.MapOf (intKind prog w) d f) (hd : (d == sysModules) = false) (hh : A.handled = none) (hv : f c = none) (hc : c < 128)
    (h : ∀ h' tk t', s.toks ≤ t' → (∀ b o, s.heap.get? b = some o → h'.get? b = some o) → Q (.str ⟨#[c]⟩ t') { s with heap := h', toks := tk }) : wpAny (model prog w) A (call (.builtin "str.translate") [.str ⟨#[c]⟩ t, .ref d]) Q E s := by
  refine wpAny_call_entry F.slot_str_translate (typeIs_str _ _ _) F.entry_str_translate ?_ (F.args_str_translate_2 _ _)
  obtain ⟨hp, g, dr, tk0, os⟩ := s
  unfold Builtin.«str.translate»
  repeat (any_goals (first | assumption | ((with_reducible show wpAny _ _ (tableLookup _ _) _ _ _); refine wpAny_with_toks (n := tk0) (Nat.le_refl _) (tl_keep (c := c) hm hd hh hv fun h' tk hk => ?_); intro ht) | wp_step))
  exact ⟨_, rfl, h _ _ _ ht hk⟩
open PySem.Builtin.Str in
theorem call_translate_dot {prog : Program} {w : World} {A : Around} {E : Value → Shared → Prop} {s : Shared} {d : Addr} {f : Int → Option Value} {t u : Tok} {Q : Value → Shared → Prop} (hm : s.heap.MapOf (intKind prog w) d f) (hv : f (46 : Nat) = some (.str (Str.ofString "\\.") u))
    (h : ∀ tk t', s.toks ≤ t' → Q (.str (Str.ofString "\\.") t') { s with toks := tk }) : wpAny (model prog w) A (call (.builtin "str.translate") [.str ⟨#[46]⟩ t, .ref d]) Q E s := by
  refine wpAny_call_entry F.slot_str_translate (typeIs_str _ _ _) F.entry_str_translate ?_ (F.args_str_translate_2 _ _)
  obtain ⟨hp, g, dr, tk0, os⟩ := s
  unfold Builtin.«str.translate»
  repeat (any_goals (first | assumption | ((with_reducible show wpAny _ _ (tableLookup _ _) _ _ _); refine wpAny_with_toks (n := tk0) (by first | exact Nat.le_refl _ | assumption) (tl_text (c := 46) hm hv fun tk => ?_); intro ht) | wp_step))
  exact ⟨_, rfl, h _ _ ht⟩
section
variable {prog : Program} {w : World} {A : Around} {E : Value → Shared → Prop} {s : Shared} {h₀ : Heap} {L : Addr} {m : Str → Option Value} {news : List (Addr × Obj)} {x : Str} {t : Tok} {Q : Value → Shared → Prop}
theorem call_trK (F : Fr h₀ L s.heap m) (X : (hd0.heap_1 w.params).In h₀) (N : News h₀ L s.heap news) (hh : A.handled = none) (hx : x = Str.ofString "a" ∨ x = Str.ofString "b")
    (h : ∀ h' tk t', s.toks ≤ t' → Fr h₀ L h' m → News h₀ L h' news → (∀ b o, s.heap.get? b = some o → h'.get? b = some o) → Q (.str x t') { s with heap := h', toks := tk }) : wpAny (model prog w) A (call (.builtin "str.translate") [.str x t, .ref 146]) Q E s := by
  obtain ⟨f, hm, h1, h2, _⟩ := map146 (prog := prog) (X.keeps F.keep)
  have e : ∀ c : Nat, c < 128 → f c = none → x = ⟨#[c]⟩ → wpAny (model prog w) A (call (.builtin "str.translate") [.str x t, .ref 146]) Q E s := fun c hc hv e => by
    subst e
    exact call_translate_keep hm (by decide) hh hv hc fun h' tk t' ht hk => h h' tk t' ht (F.keptAll hk) (fun p hp => ⟨hk _ _ (N p hp).1, (N p hp).2⟩) hk
  rcases hx with hx | hx
  · exact e 97 (by decide) h1 (hx.trans (by decide +kernel))
  · exact e 98 (by decide) h2 (hx.trans (by decide +kernel))
theorem call_trD (F : Fr h₀ L s.heap m) (X : (hd0.heap_1 w.params).In h₀) (hx : x = Str.ofString ".")
    (h : ∀ tk t', s.toks ≤ t' → Q (.str (Str.ofString "\\.") t') { s with toks := tk }) : wpAny (model prog w) A (call (.builtin "str.translate") [.str x t, .ref 146]) Q E s := by
  obtain ⟨f, hm, _, _, u, h3⟩ := map146 (prog := prog) (X.keeps F.keep)
  have e : x = ⟨#[46]⟩ := hx.trans (by decide +kernel)
  subst e
  exact call_translate_dot hm h3 h
end
noncomputable def Tk (n t : Nat) : Prop := n ≤ t
theorem Tk.succ {n t : Nat} (h : Tk n t) : Tk n (t + 1) := Nat.le_succ_of_le h
theorem Tk.up {n t u : Nat} (h : Tk n t) (k : t ≤ u) : Tk n u := Nat.le_trans h k
noncomputable def TkK (n : Nat) (s' : Shared) (P : Prop) : Prop := Tk n s'.toks → P
theorem tkk {n : Nat} {s' : Shared} {P : Prop} (h : Tk n s'.toks → P) : TkK n s' P := h
theorem wp_tk {α : Type} {M : Model} {A : Around} {t : Sem α} {Q : α → Shared → Prop} {E : Value → Shared → Prop} {s : Shared} {n : Nat} (hn : Tk n s.toks)
    (h : wpAny M A t (fun a s' => TkK n s' (Q a s')) (fun e s' => TkK n s' (E e s')) s) : wpAny M A t Q E s := wpAny_with_toks hn h
noncomputable def Spec3 (w : World) (loose : List Str) (mean : ExcName → Option Value) (mg mb : Str → Option Value) (f : Addr) (args : List Value) (need : Nat) (news : List (Addr × Obj)) (n : Nat) (P : Value → List (Addr × Obj) → Prop) : Prop :=
  ∀ (dp un : Nat) (gd : Option (List Code)) (cn : Str) (cs : Scope) (a : Addr) (ccd : Value) (cl : List (Str × Addr)) (outer : List Env) (A₀ : Around) (base h₀ : Heap) (L : Addr) (m : Str → Option Value) (s : Shared)
    (Q E : Value → Shared → Prop),
    Tk n s.toks → Below A₀ base outer h₀ → Fr h₀ L s.heap m → (hd0.heap_1 w.params).In h₀ → News h₀ L s.heap news → Top topProg loose mean mg mb h₀ → cs.kind = .function → dp + need < recursionLimit → un + 8 * need < cLine →
    (∀ r news' h' tk', Fr h₀ L h' m → News h₀ L h' news' → (∀ b o, s.heap.get? b = some o → b ∉ news.map (·.1) → h'.get? b = some o) → P r news' → Q r { s with heap := h', toks := tk' }) →
    wpAny (model PySem.Challenge.rw_il0042_01.prog w) (ktrTop dp un gd cn cs L a ccd cl outer) (call (.ref f) args) Q E s
/-- from a contract that minds the counter to one that holds wherever it has grown enough -/
theorem Spec3.use {w : World} {loose : List Str} {mean : ExcName → Option Value} {mg mb : Str → Option Value} {f : Addr} {args : List Value} {need n : Nat} {news big : List (Addr × Obj)} {P : Value → List (Addr × Obj) → Prop}
    {dp un : Nat} {gd : Option (List Code)} {cn : Str} {cs : Scope} {a : Addr} {ccd : Value} {cl : List (Str × Addr)} {outer : List Env} {A₀ : Around} {base h₀ : Heap} {L : Addr} {m : Str → Option Value} {s : Shared} {Q E : Value → Shared → Prop}
    (ht : Tk n s.toks) (B : Below A₀ base outer h₀) (F : Fr h₀ L s.heap m) (X : (hd0.heap_1 w.params).In h₀) (N : News h₀ L s.heap big) (T : Top topProg loose mean mg mb h₀) (hk : cs.kind = .function)
    (C : Spec3 w loose mean mg mb f args need news n P) (sub : ∀ p ∈ news, p ∈ big) (hd : dp + need < recursionLimit) (hu : un + 8 * need < cLine) (kept : ∀ r n', P r n' → ∀ p ∈ news, p ∈ n')
    (ret : ∀ r news' h' tk', Fr h₀ L h' m → News h₀ L h' (news' ++ big) → P r news' → Q r { s with heap := h', toks := tk' }) :
    wpAny (model PySem.Challenge.rw_il0042_01.prog w) (ktrTop dp un gd cn cs L a ccd cl outer) (call (.ref f) args) Q E s :=
  C dp un gd cn cs a ccd cl outer A₀ base h₀ L m s Q E ht B F X (fun p hp => N p (sub p hp)) T hk hd hu fun r news' h' tk' F' N' K' P' => ret r news' h' tk' F' (fun p hp => by
    rcases List.mem_append.mp hp with hp | hp
    · exact N' p hp
    · by_cases hq : p.1 ∈ news.map (·.1)
      · obtain ⟨q, hq1, hq2⟩ := List.mem_map.mp hq
        have e : q.2 = p.2 := by
          have e1 := (N q (sub q hq1)).1
          rw [hq2, (N p hp).1] at e1
          exact (Option.some.inj e1).symm
        have : q = p := Prod.ext hq2 e
        exact this ▸ N' q (kept r news' P' q hq1)
      · exact ⟨K' _ _ (N p hp).1 hq, (N p hp).2⟩) P'
theorem Spec3.pure {w : World} {loose : List Str} {mean : ExcName → Option Value} {mg mb : Str → Option Value} {f : Addr} {args : List Value} {need n : Nat} {news big : List (Addr × Obj)} {P : Value → Prop}
    {dp un : Nat} {gd : Option (List Code)} {cn : Str} {cs : Scope} {a : Addr} {ccd : Value} {cl : List (Str × Addr)} {outer : List Env} {A₀ : Around} {base h₀ : Heap} {L : Addr} {m : Str → Option Value} {s : Shared} {Q E : Value → Shared → Prop}
    (ht : Tk n s.toks) (B : Below A₀ base outer h₀) (F : Fr h₀ L s.heap m) (X : (hd0.heap_1 w.params).In h₀) (N : News h₀ L s.heap big) (T : Top topProg loose mean mg mb h₀) (hk : cs.kind = .function)
    (C : Spec3 w loose mean mg mb f args need news n (fun r n' => (∃ tl, n' = tl ++ news) ∧ P r)) (sub : ∀ p ∈ news, p ∈ big) (hd : dp + need < recursionLimit) (hu : un + 8 * need < cLine)
    (ret : ∀ r h' tk', Fr h₀ L h' m → News h₀ L h' big → P r → Q r { s with heap := h', toks := tk' }) :
    wpAny (model PySem.Challenge.rw_il0042_01.prog w) (ktrTop dp un gd cn cs L a ccd cl outer) (call (.ref f) args) Q E s :=
  Spec3.use ht B F X N T hk C sub hd hu (fun r n' ⟨⟨tl, e⟩, _⟩ p hp => by rw [e]; exact List.mem_append_right _ hp) fun r news' h' tk' F' N' P' => ret r h' tk' F' (fun p hp => N' p (List.mem_append_right _ hp)) P'.2
theorem Tk.add {n t : Nat} (h : Tk n t) (k : Nat) : Tk n (t + k) := Nat.le_trans h (Nat.le_add_right _ _)
theorem wd13_1 : True := by
  (k_with "getMethod str" => (((with_reducible show wpAny _ _ (getMethod (Value.str _ _) (PySem.Str.ofString "translate") _) _ _ _); (with_reducible refine GM.of (.str _ _) (typeIs_str _ _ _) PySem.F.slot_str_translate PySem.F.type_str_translate GM.noRef ?_))))
  trivial
local macro_rules | `(tactic| walk_at "call builtin:str.translate") => `(tactic| first
  | (k_dflt (refine' call_trK ?k1 ?k2 ?k3 ?k4 ?k5 ?_; (case k1 => k_asm); (case k2 => k_asm); (case k3 => k_asm); (case k4 => first | assumption | exact rfl); (case k5 => assumption); k_whole); intro h' tk' t' ht' F' N' K'; (try dsimp only [List.length_cons, List.length_nil] at ht'); (try k_sweep))
  | (k_dflt (refine' call_trD ?k1 ?k2 ?k5 ?_; (case k1 => k_asm); (case k2 => k_asm); (case k5 => assumption); k_whole); intro tk' t' ht'; (try dsimp only [List.length_cons, List.length_nil] at ht'); (try k_sweep)))
theorem wd13_2 : True := by
  (k_with "isTrue" => (((fail_if_success (with_reducible show wpAny _ _ _ (fun _ s' => TkK _ s' _) _ _)); refine wp_tk (by ((try dsimp only); (repeat (first | with_reducible assumption | apply Tk.add)))) ?_)))
  (k_with "execs cons" => (((with_reducible refine wpAny_execs_cons ?_); try dsimp only)))
  (k_with "TkK" => ((refine tkk fun l9 => ?_; (try dsimp only at l9); (try dsimp only))))
  trivial
theorem esc_keep (w : World) (loose : List Str) (mean : ExcName → Option Value) (mg mb : Str → Option Value) (n : Nat) (x : Str) (t : Tok) (hx : x = Str.ofString "a" ∨ x = Str.ofString "b") : Spec3 w loose mean mg mb 156 [.str x t] 3 [] n (fun r n' => (∃ tl, n' = tl ++ []) ∧ ∃ u, r = .str x u ∧ n ≤ u) := by
  unfold Spec3
  k_fill
  intro dp un gd cn cs a ccd cl outer A₀ base h₀ L m s Q E hn B F X N T hk hd hu hret
  refine wpAny_call ?_
  k_dflt (refine' code_plain2 ?k1 ?k2 ?k3 ?k4 ?k5 ?kA ?kF ?kK ?k6 ?k7 ?k8 ?k9 ?kB ?_ ?c2 ?c3 ?c4 ?c5; (case kA => exact rfl); (case kF => exact rfl); (case kK => assumption); (case k1 => k_asm); (case k2 => k_asm); (case k3 => k_asm); (case k4 => k_asm); (case k5 => k_asm); (case k6 => k_is); (case k7 => k_is); (case k8 => ktr_room); (case k9 => exact BindsTo.of_eq rfl); (case c5 => decide); (case kB => exact locs rfl); (case c2 => exact rfl); (case c3 => exact rfl); (case c4 => exact rfl); k_whole; intro g' L' h' FG' F' N' B' X' T'; (try dsimp only); (try k_fold))
  k_steps
  have hn' : n ≤ s.toks := hn
  exact leave2 (by assumption) (by assumption) fun kF kN kK => hret _ _ _ _ kF kN kK ⟨⟨[], rfl⟩, _, rfl, by omega⟩
theorem esc_dot (w : World) (loose : List Str) (mean : ExcName → Option Value) (mg mb : Str → Option Value) (n : Nat) (x : Str) (t : Tok) (hx : x = Str.ofString ".") : Spec3 w loose mean mg mb 156 [.str x t] 3 [] n (fun r n' => (∃ tl, n' = tl ++ []) ∧ ∃ u, r = .str (Str.ofString "\\.") u ∧ n ≤ u) := by
  unfold Spec3
  k_fill
  intro dp un gd cn cs a ccd cl outer A₀ base h₀ L m s Q E hn B F X N T hk hd hu hret
  refine wpAny_call ?_
  k_dflt (refine' code_plain2 ?k1 ?k2 ?k3 ?k4 ?k5 ?kA ?kF ?kK ?k6 ?k7 ?k8 ?k9 ?kB ?_ ?c2 ?c3 ?c4 ?c5; (case kA => exact rfl); (case kF => exact rfl); (case kK => assumption); (case k1 => k_asm); (case k2 => k_asm); (case k3 => k_asm); (case k4 => k_asm); (case k5 => k_asm); (case k6 => k_is); (case k7 => k_is); (case k8 => ktr_room); (case k9 => exact BindsTo.of_eq rfl); (case c5 => decide); (case kB => exact locs rfl); (case c2 => exact rfl); (case c3 => exact rfl); (case c4 => exact rfl); k_whole; intro g' L' h' FG' F' N' B' X' T'; (try dsimp only); (try k_fold))
  k_steps
  have hn' : n ≤ s.toks := hn
  exact leave2 (by assumption) (by assumption) fun kF kN kK => hret _ _ _ _ kF kN kK ⟨⟨[], rfl⟩, _, rfl, by omega⟩
theorem wd13_off : True := by
  k_with_none
  trivial
end Mine
namespace Mine
open PyProof.Rows.LCg
section
variable {prog : Program} {w : World} {A : Around} {E : Value → Shared → Prop} {s : Shared} {h₀ : Heap} {L : Addr} {m : Str → Option Value} {env : Env}
/-- what is left of a comprehension over a list, the counter known to be positive -/
noncomputable def PosRest (prog : Program) (w : World) (A : Around) (h₀ : Heap) (L : Addr) (m : Str → Option Value) (env : Env) (elt : PySem.Expr) (x : Str) (scope : Scope) (cl : List (Str × Addr)) (s : Shared) (S : List (Addr × Obj) → Prop)
    (Fin : List Value → List (Addr × Obj) → Prop) : List Value → List Value → List (Addr × Obj) → Prop
  | [], ys, news => Fin ys news
  | v :: r, ys, news => ∀ I oI C oC D m₂ h tk (E' : Value → Shared → Prop), 0 < tk → oI.cls = .type "list_iterator" → NsObj oC m₂ → m₂ x = some v → Fr h₀ L h m → News h₀ L h ((I, oI) :: (C, oC) :: (D, lst ys) :: news) → Off3 I C D news → ((@Ne Nat I C) ∧ (@Ne Nat I D) ∧ (@Ne Nat C D)) →
      wpAny (model prog w) A (eval elt (compEnvC scope cl C env)) (CompEnd h₀ L m { s with heap := h, toks := tk } I oI C oC D (lst ys) S (fun y news' => PosRest prog w A h₀ L m env elt x scope cl s S Fin r (ys ++ [y]) news')) E' { s with heap := h, toks := tk }
theorem ledger_keeps {h h' : Heap} {X : Addr} {news : List (Addr × Obj)} (N : News h₀ L h news) (hk : ∀ b o, b ≠ X → h.get? b = some o → h'.get? b = some o) (off : ∀ p ∈ news, p.1 ≠ X) : News h₀ L h' news := fun p hp => ⟨hk _ _ (off p hp) (N p hp).1, (N p hp).2⟩
theorem pos_loop {elt iter : PySem.Expr} {x : Str} {px : Pos} {scope : Scope} {cl : List (Str × Addr)} {pos : Pos} {s₂ : Shared} {ax I C D : Addr} {its : Array Value} {Fin : List Value → List (Addr × Obj) → Prop} {RR : Result → Shared → Prop}
    (hh : A.handled = none) (hsz : its.size ≤ sizeLine) (hkind : scope.kind = .function) (hx : scope.names.lookup x = some .local) (hIa : ax ≠ I) (hIC : I ≠ C) (hID : I ≠ D) (hCD : C ≠ D) (hIL : I ≠ L) (hCL : C ≠ L) (hDL : D ≠ L) (haC : ax ≠ C)
    (hI₀ : h₀.get? I = none) (hC₀ : h₀.get? C = none) (hD₀ : h₀.get? D = none)
    (hRR : ∀ h tk m' ys news', 0 < tk → Fr h₀ L h m → News h₀ L h ((D, lst ys) :: news') → Off3 I C D news' → h.Ns C m' → Fin ys news' → RR (.ok .next) { s₂ with heap := h, toks := tk }) :
    ∀ (r : List Value) (i : Nat) (ys : List Value) (news : List (Addr × Obj)) (m' : Str → Option Value) (h : Heap) (tk : Nat), 0 < tk → its.toList.drop i = r → ys.length = i → i ≤ its.size → h.IsListIter I ax i → h.IsList ax its → SrcAt h₀ ax its news → Fr h₀ L h m → h.Ns C m' → News h₀ L h ((D, lst ys) :: news) →
      Off3 I C D news → PosRest prog w A h₀ L m env elt x scope cl s₂ (SrcAt h₀ ax its) Fin r ys news →
      codeAny (model prog w) A (.compLoop (.ListComp elt [⟨.Name x px, iter, [], 0⟩] scope pos) 0 (.ref I) (.ref D) (compEnvC scope cl C env)) RR { s₂ with heap := h, toks := tk } := by
  intro r i ys news m' h tk h1 h2 h3 h4 h5 h6 h7 h8 h9 h10 h11 h12
  refine codeAny_compLoop_list
    (fun k s' => ∃ (r : List Value) (i : Nat) (ys : List Value) (news : List (Addr × Obj)) (m' : Str → Option Value) (h : Heap) (tk : Nat), s' = { s₂ with heap := h, toks := tk } ∧ k = r.length ∧ 0 < tk ∧ its.toList.drop i = r ∧ ys.length = i ∧ i ≤ its.size ∧ h.IsListIter I ax i ∧ h.IsList ax its ∧ SrcAt h₀ ax its news ∧
      Fr h₀ L h m ∧ h.Ns C m' ∧ News h₀ L h ((D, lst ys) :: news) ∧ Off3 I C D news ∧ PosRest prog w A h₀ L m env elt x scope cl s₂ (SrcAt h₀ ax its) Fin r ys news) ?_ r.length
    ⟨r, i, ys, news, m', h, tk, rfl, rfl, h1, h2, h3, h4, h5, h6, h7, h8, h9, h10, h11, h12⟩
  clear h1 h2 h3 h4 h5 h6 h7 h8 h9 h10 h11 h12
  rintro k s' ⟨r, i, ys, news, m', h, tk, rfl, rfl, hpos, hr, hyl, hi, hit, hl, hS, F, hn, N, off, R⟩
  have W := Walks.list (prog := prog) (w := w) hh I ax hIa its
  have o3 := off.mem
  cases r with
  | nil =>
    have hi' : i = its.size := by
      have := List.drop_eq_nil_iff.mp hr
      rw [Array.length_toList] at this
      exact Nat.le_antisymm hi this
    subst hi'
    refine wpAny_with_toks (n := tk) (Nat.le_refl _) (W.done _ _ _ ⟨hit, hl⟩ fun h₂ tk₂ hk₂ ht₂ => ?_)
    have kk : ∀ b o, b ≠ I → h.get? b = some o → h₂.get? b = some o := fun b o hb e => hk₂ b o (by simpa using hb) e
    exact hRR h₂ tk₂ _ ys news (Nat.lt_of_lt_of_le hpos ht₂) (fr_but F hk₂ (Ne.symm hIL) hI₀) (ledger_keeps N kk fun p hp => by
      rcases List.mem_cons.mp hp with rfl | hp
      · exact Ne.symm hID
      · exact (o3 p hp).1) off (hn.at' fun o e => kk _ o (Ne.symm hIC) e) R
  | cons v r =>
    have hv : its[i]? = some v := by
      have : (its.toList.drop i)[0]? = some v := by rw [hr]; rfl
      rw [List.getElem?_drop, Nat.add_zero, Array.getElem?_toList] at this
      exact this
    have hlt : i < its.size := (Array.getElem?_eq_some_iff.mp hv).1
    refine wpAny_with_toks (n := tk) (Nat.le_refl _) (W.item i _ _ _ hlt ⟨hit, hl⟩ fun v' h₂ tk₂ hP hst₂ hk₂ ht₂ => ?_)
    have hv' : v' = v := by
      have hP' : its[i]? = some v' := hP
      rw [hv] at hP'; exact (Option.some.inj hP').symm
    subst hv'
    have kk : ∀ b o, b ≠ I → h.get? b = some o → h₂.get? b = some o := fun b o hb e => hk₂ b o (by simpa using hb) e
    refine wpAny_with_toks (n := tk) ht₂ (wpAny_assign_Name (wpAny_storeName_local (lookup_relabel_local hx) (hn.at' fun o e => kk _ o (Ne.symm hIC) e) (fun h₃ hn₃ hs₃ => ?_) (by simp [compEnvC, relabel, hkind])))
    intro ht₃
    have old : ∀ b o, b ≠ C → h₂.get? b = some o → h₃.get? b = some o := fun b o hb e => hs₃.extBut b o hb e
    obtain ⟨oI, heI, hcI⟩ : ∃ o, h₃.get? I = some o ∧ o.cls = .type "list_iterator" := by obtain ⟨o, e, ec, _⟩ := hst₂.1; exact ⟨o, old _ _ hIC e, ec⟩
    obtain ⟨oC, heC, hoC⟩ := ns_obj hn₃
    have F₃ : Fr h₀ L h₃ m := (fr_but F hk₂ (Ne.symm hIL) hI₀).change hs₃ hCL hC₀
    have N₂ : News h₀ L h₂ ((D, lst ys) :: news) := ledger_keeps N kk fun p hp => by
      rcases List.mem_cons.mp hp with rfl | hp
      · exact Ne.symm hID
      · exact (o3 p hp).1
    have N₃ : News h₀ L h₃ ((D, lst ys) :: news) := ledger_keeps N₂ old fun p hp => by
      rcases List.mem_cons.mp hp with rfl | hp
      · exact Ne.symm hCD
      · exact (o3 p hp).2.1
    have N₄ : News h₀ L h₃ ((I, oI) :: (C, oC) :: (D, lst ys) :: news) := fun p hp => by
      rcases List.mem_cons.mp hp with rfl | hp
      · exact ⟨heI, hIL, hI₀⟩
      · rcases List.mem_cons.mp hp with rfl | hp
        · exact ⟨heC, hCL, hC₀⟩
        · exact N₃ p hp
    refine wpAny_with_toks (n := tk) ht₃ (wpAny_mono (R I oI C oC D _ h₃ _ _ (Nat.lt_of_lt_of_le hpos ht₃) hcI hoC (by simp) F₃ N₄ off ⟨hIC, hID, hCD⟩) (fun y s₄ h₄ => ?_) fun _ _ e _ => e)
    intro ht₄
    obtain ⟨h₅, tk₅, news₅, rfl, F₅, N₅, off₅, hS₅, R₅⟩ := h₄
    have zI := (N₅ (I, oI) List.mem_cons_self).1
    have zC := (N₅ (C, oC) (.tail _ (.head _))).1
    have zD := (N₅ (D, lst ys) (.tail _ (.tail _ (.head _)))).1
    have N₅' : News h₀ L h₅ news₅ := fun p hp => N₅ p (.tail _ (.tail _ (.tail _ hp)))
    have o5 := off₅.mem
    have it3 : h₃.IsListIter I ax (i + 1) := by obtain ⟨o, e, q⟩ := hst₂.1; exact ⟨o, old _ _ hIC e, q⟩
    have it5 : h₅.IsListIter I ax (i + 1) := by
      obtain ⟨o, e, q⟩ := it3
      rw [heI] at e; cases e
      exact ⟨oI, zI, q⟩
    have l5 : h₅.IsList ax its := hS₅.list F₅.keep N₅'
    refine append_at (hsz := by show ys.toArray.size ≤ sizeLine; rw [List.size_toArray, hyl]; exact Nat.le_trans hi hsz) zD fun h₆ hs₆ hD₆ => ?_
    have N₆ : News h₀ L h₆ ((D, lst (ys ++ [y])) :: news₅) := fun p hp => by
      rcases List.mem_cons.mp hp with rfl | hp
      · exact ⟨hD₆.trans (congrArg some (lst_snoc ys y)), hDL, hD₀⟩
      · exact ⟨hs₆.extBut _ _ (o5 p hp).2.2 (N₅' p hp).1, (N₅' p hp).2⟩
    have F₆ : Fr h₀ L h₆ m := F₅.change hs₆ hDL hD₀
    refine ⟨r.length, by simp, r, i + 1, ys ++ [y], news₅, _, h₆, tk₅, rfl, rfl, Nat.lt_of_lt_of_le hpos ht₄, ?_, by rw [List.length_append, List.length_singleton, hyl], hlt, ?_, hS₅.list F₆.keep (fun p hp => N₆ p (.tail _ hp)), hS₅, F₆, (hoC.ns zC).sameBut hs₆ hCD, N₆, off₅, R₅⟩
    · rw [← List.drop_drop, hr]; rfl
    · obtain ⟨o, e, q⟩ := it5; exact ⟨o, hs₆.extBut _ _ hID e, q⟩
noncomputable def PosSrc (prog : Program) (w : World) (A : Around) (h₀ : Heap) (L : Addr) (m : Str → Option Value) (env : Env) (elt : PySem.Expr) (x : Str) (scope : Scope) (cl : List (Str × Addr)) (Fin : Shared → List Value → List (Addr × Obj) → Prop) (xv : Value) (s₁ : Shared) : Prop :=
  ∃ ax its news, xv = .ref ax ∧ A.handled = none ∧ 0 < s₁.toks ∧ Fr h₀ L s₁.heap m ∧ News h₀ L s₁.heap news ∧ SrcAt h₀ ax its news ∧ its.size ≤ sizeLine ∧
    ∀ g, PosRest prog w A h₀ L m env elt x scope cl { s₁ with heap := g } (SrcAt h₀ ax its) (Fin { s₁ with heap := g }) its.toList [] news
theorem assign_pos {elt iter : PySem.Expr} {x y : Str} {px py : Pos} {scope : Scope} {cl : List (Str × Addr)} {pos spos : Pos} {Q : Flow → Shared → Prop} (F₀ : Fr h₀ L s.heap m) (hLe : env.locals = L)
    (hsw : swapsWith (.ListComp elt [⟨.Name x px, iter, [], 0⟩] scope pos) (some (.Name y py)) spos.line env = pure true)
    (hclos : closureFor scope env = pure cl) (hcell : ∀ z ∈ scope.names, z.2 ≠ .cell) (hkind : scope.kind = .function)
    (hnames : ∀ z ∈ scope.names, z.2 = .local → scope.names.lookup z.1 = some .local) (hx : scope.names.lookup x = some .local)
    (hy : env.kindOf y = some .local) (hp : (env.scope.kind == .class || (env.scope.kind == .module && env.locals != env.globals)) = false)
    (h : wpAny (model prog w) A (eval iter env) (PosSrc prog w A h₀ L m env elt x scope cl (fun s₂ => FinA h₀ L m s₂ y Q)) E s)
    (hs : ∀ x, foldedSetIterable iter env x = pure x := by intro _; rfl) :
    wpAny (model prog w) A (exec (.Assign [.Name y py] (.ListComp elt [⟨.Name x px, iter, [], 0⟩] scope pos) spos) env) Q E s := by
  subst hLe
  rw [exec_Assign_Name_used _ _ _ _ hsw]
  refine wpAny_bind (wpAny_standAt (wpAny_bind ?_))
  show wpAny _ A (do let _ ← comprehension (.ListComp elt [⟨.Name x px, iter, [], 0⟩] scope pos) scope env _ (newList []) false (eval iter env) (some (assign (.Name y py) env))) _ _ s
  refine wpAny_bind (wpAny_mono (wpAny_comprehension_free (use := some (assign (.Name y py) env)) (Q := fun _ s' => Q .next s') rfl hs hclos hkind hnames
    (wpAny_mono h (fun xv s₁ h₁ => ?_) fun _ _ e => e)) (fun _ s' hq => wpAny_pure (wpAny_pure hq)) fun _ _ e => e)
  obtain ⟨ax, its, news, rfl, hh, hpos, F, N, S, hsz, R⟩ := h₁
  have hl := S.list F.keep N
  have hlt : ax < s₁.heap.objs.size := by obtain ⟨_, e, _⟩ := hl; exact Heap.lt_size e
  refine wpAny_pyIter_list hl ?_
  generalize hg : s₁.heap.push { cls := .type "list_iterator", data := .fields #[.ref ax, .int 0 0] } = g
  have up : ∀ b o, s₁.heap.get? b = some o → g.get? b = some o := fun b o e => hg ▸ Heap.get?_push_of_some _ e
  have hit : g.IsListIter s₁.heap.objs.size ax 0 := hg ▸ ⟨_, Heap.get?_push_size _ rfl, rfl, rfl⟩
  have gsz : g.objs.size = s₁.heap.objs.size + 1 := by rw [← hg, Heap.size_push]
  refine wpAny_newObj_type (wpAny_newFunctionEnv hcell (by intro y hy; simp at hy) (fun h₁ hns₁ hsb₁ => ?_) hkind)
  dsimp only at hns₁ hsb₁ ⊢
  generalize hH2 : g.push { cls := .type "list", dict := none, data := .seq ([] : List Value).toArray } = H2 at hns₁ hsb₁ ⊢
  have hC : H2.objs.size = g.objs.size + 1 := by rw [← hH2, Heap.size_push]
  have old : ∀ b o, s₁.heap.get? b = some o → h₁.get? b = some o := fun b o e => hsb₁.extBut b o (Nat.ne_of_lt (Nat.lt_trans (Heap.lt_size e) (by rw [hC, gsz]; exact Nat.lt_succ_of_lt (Nat.lt_succ_self _)))) (Heap.get?_push_of_some _ (hH2 ▸ Heap.get?_push_of_some _ (up b o e)))
  have hIC : @Ne Nat s₁.heap.objs.size H2.objs.size := by rw [hC, gsz]; exact Nat.ne_of_lt (Nat.lt_succ_of_lt (Nat.lt_succ_self _))
  have hID : @Ne Nat s₁.heap.objs.size g.objs.size := by rw [gsz]; exact Nat.ne_of_lt (Nat.lt_succ_self _)
  have hCD : @Ne Nat H2.objs.size g.objs.size := by rw [hC]; exact Ne.symm (Nat.ne_of_lt (Nat.lt_succ_self _))
  have below : ∀ b : Nat, b < s₁.heap.objs.size → b ≠ s₁.heap.objs.size ∧ b ≠ H2.objs.size ∧ b ≠ g.objs.size := fun b hb => ⟨Nat.ne_of_lt hb, by rw [hC, gsz]; omega, by rw [gsz]; omega⟩
  have fresh₀ : ∀ a : Nat, s₁.heap.objs.size ≤ a → h₀.get? a = none := fun a ha => Heap.get?_none_of_le (Nat.le_trans (Nat.le_of_lt (Nat.lt_of_le_of_lt F.above F.ns.lt)) ha)
  have hI₀ := fresh₀ _ (Nat.le_refl _)
  have hC₀ := fresh₀ H2.objs.size (by rw [hC, gsz]; omega)
  have hD₀ := fresh₀ g.objs.size (by rw [gsz]; omega)
  have bL := below _ F.ns.lt
  have hacc : h₁.get? g.objs.size = some (lst []) := hsb₁.extBut _ _ (Ne.symm hCD) (Heap.get?_push_of_some _ (hH2 ▸ Heap.get?_push_size _ rfl))
  have hit₁ : h₁.IsListIter s₁.heap.objs.size ax 0 := by
    obtain ⟨o, e, q⟩ := hit
    exact ⟨o, hsb₁.extBut _ _ hIC (Heap.get?_push_of_some _ (hH2 ▸ Heap.get?_push_of_some _ e)), q⟩
  have F₁ : Fr h₀ env.locals h₁ m := F.keeps old
  have N₁ : News h₀ env.locals h₁ ((g.objs.size, lst []) :: news) := fun p hp => by
    rcases List.mem_cons.mp hp with rfl | hp
    · exact ⟨hacc, Ne.symm bL.2.2, hD₀⟩
    · exact ⟨old _ _ (N p hp).1, (N p hp).2⟩
  have off₁ : Off3 s₁.heap.objs.size H2.objs.size g.objs.size news := Off3.of fun p hp => below _ (Heap.lt_size (N p hp).1)
  have hns₂ : h₁.Ns H2.objs.size fun _ => none := hns₁
  refine codeAny_compStart_list ?loop ((Walks.list (prog := prog) (w := w) hh s₁.heap.objs.size ax (below _ hlt).1 its).self 0 _ _ _ ⟨hit₁, ⟨_, old _ _ hl.choose_spec.1, hl.choose_spec.2⟩⟩ ?loop)
  case loop =>
    refine pos_loop (s₂ := { s₁ with heap := g }) (Fin := FinA h₀ env.locals m { s₁ with heap := g } y Q) hh hsz hkind hx (below _ hlt).1 hIC hID hCD (Ne.symm bL.1) (Ne.symm bL.2.1) (Ne.symm bL.2.2) (below _ hlt).2.1 hI₀ hC₀ hD₀ ?_ its.toList 0 [] news _ h₁ _ hpos rfl rfl (Nat.zero_le _) hit₁ ⟨_, old _ _ hl.choose_spec.1, hl.choose_spec.2⟩ S F₁ hns₂ N₁ off₁ (R g)
    intro h' tk m' ys news' _ F' N' o3 hn fin
    have om := o3.mem
    show wpAny _ A (assign (.Name y py) env (.ref g.objs.size)) _ _ _
    refine wpAny_assign_Name (wpAny_storeName_local hy F'.ns (fun h₂ hn₂ hs₂ => ?_) hp)
    have hL₀ : h₀.get? env.locals = none := Heap.get?_none_of_le F'.above
    have F₂ : Fr h₀ env.locals h₂ (fun z => if z = y then some (.ref g.objs.size) else m z) := ⟨hn₂, fun b o e => hs₂.extBut b o (fun q => by rw [q, hL₀] at e; cases e) (F'.keep b o e), F'.above⟩
    refine ⟨m', hn.sameBut hs₂ (Ne.symm bL.2.1), fun h'' hs'' => fin g.objs.size h'' _ (F₂.change hs'' (Ne.symm bL.2.1) hC₀) (fun p hp => ?_) o3.one⟩
    have z : h₂.get? p.1 = some p.2 := hs₂.extBut _ _ (N' p hp).2.1 (N' p hp).1
    refine ⟨hs''.extBut _ _ ?_ z, (N' p hp).2⟩
    rcases List.mem_cons.mp hp with rfl | hp
    · exact Ne.symm hCD
    · exact (om p hp).2.1
end
end Mine
namespace Mine
section
open PySem.Builtin PySem.Builtin.Re
theorem slot_re_sub : Slot "re.Pattern" "sub" "re.Pattern.sub" :=
  .of (owner := "re.Pattern") (n := "sub") (by rw [typeLookup_type, builtinLookup_eq_fast]; kernel_rfl) (by decide +kernel) (by decide +kernel) (by decide +kernel)
    (by first | exact .inl (by decide +kernel) | exact .inr (by decide +kernel)) (by rw [isSubtype_type]; kernel_rfl)
theorem type_re_sub : typeOf (.builtin "re.Pattern.sub") = pure (.type "method_descriptor") := by show builtinType _ = _; rw [builtinType_eq_fast]; kernel_rfl
theorem entry_re_sub : entryFor table "re.Pattern.sub" = some Builtin.«re.Pattern.sub» := entryFor_of_tree (by kernel_rfl)
theorem entry_re_loop : entryFor table "re.Pattern.sub.loop" = some Builtin.«re.Pattern.sub.loop» := entryFor_of_tree (by kernel_rfl)
theorem plain_re_loop : plainId "re.Pattern.sub.loop" = true := by decide +kernel
theorem args_re_sub (a b c : Value) : argsOk "re.Pattern.sub" ⟨[a, b, c], []⟩ := by
  unfold argsOk; kernel_rfl
noncomputable def codeA : Array Nat := #[14, 14, 4, 1, 1, 9, 0, 64, 0, 1342177280, 0, 0, 0, 0, 0, 17, 0, 13, 11, 9, 0, 64, 0, 1342177280, 0, 0, 0, 0, 0, 17, 1, 1]
theorem pat144 (p : Params) : ∃ v0 v1 v3 v4 items n, (hd0.heap_1 p).lookup 144 = some ⟨.type "re.Pattern", none, .fields #[v0, v1, .int 1 0, v3, v4, .ref 143, .int 0 0], #[]⟩ ∧
    (hd0.heap_1 p).lookup 143 = some ⟨.type "tuple", none, .seq items n, #[]⟩ ∧ (items.map reRawOf).map (·.toNat) = codeA :=
  ⟨_, _, _, _, _, _, by with_unfolding_all exact rfl, by with_unfolding_all exact rfl, by decide +kernel⟩
noncomputable def drv : Nat → Sre.M → Option Sre.M
  | 0, _ => none
  | k + 1, m => if (m.runFor 4).outcome.isSome then some (m.runFor 4) else drv k (m.runFor 4)
noncomputable def isFailed : Option Sre.M → Bool
  | some m => match m.outcome with
    | some .failed => true
    | _ => false
  | none => false
theorem drive_to {M : Model} {A : Around} {E : Value → Shared → Prop} {s : Shared} {Q : Sre.M → Shared → Prop} : ∀ (k n : Nat) (m m' : Sre.M), k ≤ n → drv k m = some m' → Q m' s → wpAny M A (reDrive n m) Q E s := by
  intro k
  induction k with
  | zero => intro n m m' _ h; cases h
  | succ k ih =>
    intro n m m' hn h hq
    cases n with
    | zero => exact absurd hn (by omega)
    | succ n =>
      unfold drv at h
      show wpAny M A (if (m.runFor reTurnSteps).outcome.isSome then pure (m.runFor reTurnSteps) else do rule "sre.turn"; reDrive n (m.runFor reTurnSteps)) Q E s
      have e : reTurnSteps = 4 := rfl
      rw [e]
      by_cases h1 : (m.runFor 4).outcome.isSome = true
      · rw [if_pos h1] at h ⊢
        cases h
        exact wpAny_pure hq
      · rw [if_neg h1] at h ⊢
        exact wpAny_bind (wpAny_rule (ih n _ _ (by omega) h hq))
theorem next_none {M : Model} {A : Around} {E : Value → Shared → Prop} {s : Shared} {Q : Option Sre.M → Shared → Prop} {t : ReTarget} {st : Nat} {must : Bool} (h : isFailed (drv 30 (Sre.forSearch t.code t.text t.groups st t.lim must)) = true) (hq : Q none s) :
    wpAny M A (reNextFound t st must) Q E s := by
  unfold reNextFound reRunToEnd
  cases hd : drv 30 (Sre.forSearch t.code t.text t.groups st t.lim must) with
  | none => rw [hd] at h; cases h
  | some m =>
    rw [hd] at h
    refine wpAny_bind (drive_to 30 _ _ m (by decide) hd (wpAny_bind ?_))
    refine wpAny_forIn_list _ (fun _ _ s' => s' = s) _ ?_ ?_ _ _ rfl
    · rintro x rest b s' rfl
      by_cases hx : m.seen.has x = true
      · rw [if_pos hx]; exact wpAny_bind (M := M) (A := A) (E := E) (wpAny_rule (wpAny_pure rfl))
      · rw [if_neg hx]; exact wpAny_bind (M := M) (A := A) (E := E) (wpAny_pure (wpAny_pure rfl))
    · rintro b s' rfl
      revert h
      unfold isFailed
      dsimp only
      cases ho : m.outcome with
      | none => intro h; cases h
      | some o =>
        cases o with
        | failed => intro _; exact wpAny_pure hq
        | _ => intro h; cases h
theorem reNamed3 (f x : Value) : reNamed "re.Pattern.sub" "sub" ["repl", "string", "count"] 2 [f, x] [] = pure [some f, some x, none] := by
  rfl

section
variable {prog : Program} {w : World} {A : Around} {E : Value → Shared → Prop} {s : Shared}
theorem whole_144 {x : Str} {t : Tok} {Q : ReTarget → Shared → Prop} (X : (hd0.heap_1 w.params).In s.heap) (hq : Q { pattern := .ref 144, string := .str x t, code := codeA, text := x.cps, kind := 0, groups := 1, pos := 0, lim := x.cps.size } s) :
    wpAny (model prog w) A (reWholeTarget (.ref 144) (.str x t)) Q E s := by
  obtain ⟨v0, v1, v3, v4, items, n, h1, h2, h3⟩ := pat144 w.params
  have g1 := X _ _ h1
  have g2 := X _ _ h2
  unfold reWholeTarget
  refine wpAny_bind (wpAny_fieldsOf g1 rfl ?_)
  refine wpAny_bind ?_
  unfold reTextOf
  refine wpAny_bind (wpAny_pure ?_)
  refine wpAny_pure ?_
  refine wpAny_bind ?_
  repeat wp_step
  have e : Array.map (fun x => x.toNat) (Array.map reRawOf ((some items).getD #[])) = codeA := h3
  rw [e]
  exact hq
theorem slice_0 {a : Array Nat} {y : Array Nat} {k b e : Nat} {Q : Value → Shared → Prop} (hk : k = 0) (he : a.extract b e = y) (hs : (⟨y⟩ : Str).length ≤ sizeLine) (hq : Q (.str ⟨y⟩ s.toks) { s with toks := s.toks + 1 }) : wpAny (model prog w) A (reSlice a k b e) Q E s := by
  subst hk he
  exact wpAny_mkStr hq hs
theorem join_ok {x : Str} (hs : x.length ≤ sizeLine) : JoinOk ⟨#[]⟩ [⟨x.cps⟩] = true := by
  have e : (0 + x.length + 0) = x.length := by omega
  show (!Builtin.Str.tooLong (0 + x.length + 0)) = true
  rw [e]
  simpa [Builtin.Str.tooLong] using hs
theorem join_one (x : Str) : Txt.join ⟨#[]⟩ [⟨x.cps⟩] = x := rfl
theorem loop_144 {f D : Addr} {x : Str} {t : Tok} {Q : Value → Shared → Prop} (X : (hd0.heap_1 w.params).In s.heap) (hD : s.heap.get? D = some { cls := .type "list", data := .seq #[] })
    (hn : isFailed (drv 30 (Sre.forSearch codeA x.cps 1 0 x.cps.size false)) = true) (hx : 0 < x.cps.size) (hs : x.length ≤ sizeLine)
    (h : ∀ h' tk t', (∀ b o, b ≠ D → s.heap.get? b = some o → h'.get? b = some o) → Q (.str x t') { s with heap := h', toks := tk }) :
    wpAny (model prog w) A.in1 (Builtin.«re.Pattern.sub.loop» ⟨[.ref 144, .str x t, .ref f, rawInt 1, rawInt 0, rawInt 0, rawInt 0, rawInt 0, .bool false, .ref D, .bool false], []⟩)
      (fun fin s' => match fin with | .done f => (fun r s' => match r with | Except.ok (Flow.ret v) => Q v s' | Except.ok a => False | Except.error e => E e s') (.ok f) s' | .again c' => c'.quiet = true ∧ codeAny (model prog w) A c' (fun r s' => match r with | Except.ok (Flow.ret v) => Q v s' | Except.ok a => False | Except.error e => E e s') s') (fun e s' => (fun r s' => match r with | Except.ok (Flow.ret v) => Q v s' | Except.ok a => False | Except.error e => E e s') (.error e) s') s := by
  unfold Builtin.«re.Pattern.sub.loop»
  dsimp only [rawInt]
  have hz : (⟨x.cps⟩ : Str).length ≤ sizeLine := hs
  repeat (first | ((with_reducible show wpAny _ _ (reWholeTarget _ _) _ _ _); refine whole_144 X ?_) | ((with_reducible show wpAny _ _ (reNextFound _ _ _) _ _ _); refine next_none hn ?_) | ((with_reducible show wpAny _ _ (reSlice _ _ _ _) _ _ _); first | refine slice_0 (y := x.cps) rfl (Array.extract_size) hz ?_ | refine slice_0 (y := #[]) rfl (by simp) (Nat.zero_le _) ?_) | ((with_reducible show wpAny _ _ (updateSeq _ _) _ _ _); refine wpAny_updateSeq hD rfl ?_ ) | ((with_reducible show wpAny _ _ (seqItems? _) _ _ _); refine wpAny_seqItems (Heap.get?_update_self _ hD (by rw [mapSeq_push]; rfl)) (by rw [mapSeq_push]) ?_) | ((with_reducible show wpAny _ _ (call _ [_, Value.ref _]) _ _ _); refine wpAny_mono (SC.join (x := ⟨#[]⟩) (l := [(⟨x.cps⟩, s.toks)]) (texts := [⟨x.cps⟩]) (Q := fun v s' => ∃ t' k, v = .str x t' ∧ s' = { s with heap := s.heap.update D (Obj.mapSeq fun x_1 => x_1.push (Value.str { cps := x.cps } s.toks)), toks := k }) ⟨_, Heap.get?_update_self _ hD (by rw [mapSeq_push]; rfl), rfl, _, rfl⟩ rfl ?jo ?jq) ?jz fun _ _ q => q) | wp_step)
  case jo => exact join_ok hs
  case jq => intro t' k; exact ⟨t', k, congrArg (Value.str · t') (join_one x), rfl⟩
  case jz =>
    rintro v s' ⟨t', k, rfl, rfl⟩
    repeat wp_step
    refine h _ _ _ fun b o hb e => ?_
    exact (Heap.SameBut.update ..).extBut b o hb e
theorem lk_fc : typeLookup (.type "function") (Str.ofString "__call__") = pure (some (.builtin "function.__call__")) := by rw [typeLookup_type, builtinLookup_eq_fast]; kernel_rfl
theorem isub_sb : isSubtype (.type "str") (.type "bytearray") = pure false := by rw [isSubtype_type]; kernel_rfl
theorem sub_144 {f : Addr} {x : Str} {t : Tok} {o : Obj} {Q : Value → Shared → Prop} (X : (hd0.heap_1 w.params).In s.heap) (hf : s.heap.get? f = some o) (ho : o.cls = .type "function")
    (hn : isFailed (drv 30 (Sre.forSearch codeA x.cps 1 0 x.cps.size false)) = true) (hx : 0 < x.cps.size) (hs : x.length ≤ sizeLine)
    (h : ∀ h' tk t', (∀ b o, s.heap.get? b = some o → h'.get? b = some o) → Q (.str x t') { s with heap := h', toks := tk }) :
    wpAny (model prog w) A (call (.builtin "re.Pattern.sub") [.ref 144, .ref f, .str x t]) Q E s := by
  obtain ⟨v0, v1, v3, v4, items, n, h1, h2, h3⟩ := pat144 w.params
  have g1 := X _ _ h1
  refine wpAny_call (codeAny_call_builtin slot_re_sub.plain entry_re_sub (slot_re_sub.check _ _ _ _ _ _ _ _ ⟨_, g1, rfl⟩ (args_re_sub _ _ _) ?_))
  unfold Builtin.«re.Pattern.sub» reSubstitute
  have hT : s.TypeIs (.ref f) "function" := ⟨_, hf, ho⟩
  have f1 := lk_fc
  have f2 := isub_sb
  dsimp only
  rw [reNamed3]
  repeat (first | ((with_reducible show wpAny _ _ (reWholeTarget _ _) _ _ _); refine whole_144 X ?_) | wp_step)
  refine ⟨plainId_quiet plain_re_loop _, codeAny_builtin entry_re_loop ?_⟩
  rw [Around.under_plainId plain_re_loop]
  refine loop_144 (X.keeps fun b o e => Heap.get?_push_of_some _ e) (Heap.get?_push_size _ rfl) hn hx hs fun h' tk t' hk => h h' tk t' ?_
  intro b o e
  exact hk b o (Nat.ne_of_lt (Heap.lt_size e)) (Heap.get?_push_of_some _ e)
end


theorem plain_re : PlainAttrs "re.Pattern" :=
  ⟨⟨"object.__getattribute__", by rw [typeLookup_type, builtinLookup_eq_fast]; kernel_rfl, by decide +kernel⟩, by rw [typeLookup_type, builtinLookup_eq_fast]; kernel_rfl⟩
theorem getMethod_sub {prog : Program} {w : World} {A : Around} {E : Value → Shared → Prop} {s : Shared} {pl : Sem Bool} {Q : Value × List Value → Shared → Prop} {h₀ : Heap} {L : Addr} {m : Str → Option Value} (F : Fr h₀ L s.heap m) (X : (hd0.heap_1 w.params).In h₀)
    (h : Q (.builtin "re.Pattern.sub", [.ref 144]) s) : wpAny (model prog w) A (getMethod (.ref 144) (Str.ofString "sub") pl) Q E s := by
  obtain ⟨v0, v1, v3, v4, items, n, h1, h2, h3⟩ := pat144 w.params
  have g1 := F.keep _ _ (X _ _ h1)
  exact getMethod_builtin ⟨_, g1, rfl⟩ plain_re slot_re_sub type_re_sub (fun a e => by cases e; exact ⟨_, g1, rfl⟩) h
theorem call_subK {prog : Program} {w : World} {A : Around} {E : Value → Shared → Prop} {s : Shared} {h₀ : Heap} {L : Addr} {m : Str → Option Value} {news : List (Addr × Obj)} {f : Addr} {x : Str} {t : Tok} {o : Obj} {Q : Value → Shared → Prop} (F : Fr h₀ L s.heap m) (X : (hd0.heap_1 w.params).In h₀) (N : News h₀ L s.heap news) (hf : (f, o) ∈ news) (ho : o.cls = .type "function")
    (hn : isFailed (drv 30 (Sre.forSearch codeA x.cps 1 0 x.cps.size false)) = true) (hx : 0 < x.cps.size) (hs : x.length ≤ sizeLine)
    (h : ∀ h' tk t', Fr h₀ L h' m → News h₀ L h' news → Q (.str x t') { s with heap := h', toks := tk }) :
    wpAny (model prog w) A (call (.builtin "re.Pattern.sub") [.ref 144, .ref f, .str x t]) Q E s :=
  sub_144 (X.keeps F.keep) (N _ hf).1 ho hn hx hs fun h' tk t' hk => h h' tk t' (F.keptAll hk) fun p hp => ⟨hk _ _ (N p hp).1, (N p hp).2⟩
end
open PySem.Builtin.Str in
theorem rep_none {prog : Program} {w : World} {A : Around} {E : Value → Shared → Prop} {s : Shared} {x y z : Str} {t u v : Tok} {Q : Value → Shared → Prop} (hc : (occurrences x y 0 x.length (x.length + 1)).isEmpty = true) (h : Q (.str x t) s) :
    wpAny (model prog w) A (call (.builtin "str.replace") [.str x t, .str y u, .str z v]) Q E s := by
  have e : ((occurrences x y 0 x.length (x.length + 1)).isEmpty || (y.length == 0 && z.length == 0)) = true := by rw [hc]; rfl
  exact call_gives F.slot_str_replace (typeIs_str _ _ _) F.entry_str_replace (F.args_str_replace_3 _ _ _) (gives_str_replace x y z t u v (fun h' => by rw [e] at h'; cases h')) (by rw [if_pos e]; exact h)
theorem sub_ss (x y : Str) (u v : Nat) (h0 : 0 < v) (hv : v < u) (hxy : (x == y) = false) : isSame (.str x u) (.str y v) = pure false :=
  isSame_str_other x y u v (by rw [Bool.or_eq_false_iff]; exact ⟨beq_eq_false_iff_ne.mpr (Nat.ne_of_gt (Nat.lt_trans h0 hv)), beq_eq_false_iff_ne.mpr (Nat.ne_of_gt h0)⟩) (beq_eq_false_iff_ne.mpr (Nat.ne_of_gt hv)) hxy
theorem isnot_str {M : Model} {A : Around} {E : Value → Shared → Prop} {s : Shared} {x y : Str} {u v : Nat} {Q : Value → Shared → Prop} (h0 : 0 < v) (hv : v < u) (hxy : (x == y) = false) (h : Q (.bool true) s) : wpAny M A (compareOp .IsNot (.str x u) (.str y v)) Q E s := by
  show wpAny M A (do return .bool (!(← isSame (.str x u) (.str y v)))) Q E s
  rw [sub_ss x y u v h0 hv hxy]
  exact wpAny_bind (wpAny_pure (wpAny_pure h))
theorem lt_tk {t n k : Nat} (h : t < n) (q : Tk n k) : t < k + 1 := Nat.lt_succ_of_lt (Nat.lt_of_lt_of_le h q)
section
variable {prog : Program} {w : World} {M : Model} {A : Around} {E : Value → Shared → Prop} {s : Shared} {env : Env} {n : Nat}
theorem tk_q {α : Type} {t : Sem α} {Q : α → Shared → Prop} (hn : Tk n s.toks) (h : wpAny M A t (fun a s' => TkK n s' (Q a s')) E s) : wpAny M A t Q E s :=
  wp_tk hn (wpAny_mono h (fun _ _ q => q) fun _ _ q _ => q)
theorem execs_tk {st : Stmt} {rest : List Stmt} {Q : Flow → Shared → Prop} (hn : Tk n s.toks)
    (h : wpAny M A (exec st env) (fun f s₂ => TkK n s₂ (match f with | .next => wpAny M A (execs rest env) Q E s₂ | f => Q f s₂)) E s) : wpAny M A (execs (st :: rest) env) Q E s :=
  wpAny_execs_cons (tk_q hn h)
theorem if_tk {test : PySem.Expr} {body orelse : List Stmt} {pos : Pos} {Q : Flow → Shared → Prop} (hn : Tk n s.toks)
    (h : wpAny M A (isTrue test env (eval test env)) (fun b s₂ => TkK n s₂ (if b then wpAny M A (execs body env) Q E s₂ else wpAny M A (execs orelse env) Q E s₂)) E s) : wpAny M A (exec (.If test body orelse pos) env) Q E s :=
  wpAny_If (tk_q hn h)
theorem whl_tk {test : PySem.Expr} {body orelse : List Stmt} {Q : Flow → Shared → Prop} {k : Nat} (hn : Tk n s.toks) (hE : PassesOwn (model prog w) A env E)
    (h : wpAny (model prog w) A (isTrue test env (eval test env)) (fun b s₂ => TkK n s₂ (WhlIf b (wpAny (model prog w) A (execs body env) (WhlPost prog w A E env test body orelse Q k) E s₂) (wpAny (model prog w) A (execs orelse env) Q E s₂))) E s) :
    WhlRest prog w A E env test body orelse Q (k + 1) s := whl_turn hE (tk_q hn h)
end
noncomputable def TabOk (ps : Array Value) : Prop := ps = #[] ∨ ∃ c', ps = #[rawInt 151, rawInt 39, .ref c']
theorem lam_any {M : Model} {A : Around} {E : Value → Shared → Prop} {s : Shared} {h₀ : Heap} {L a P : Addr} {m mg mb : Str → Option Value} {cn : Str} {cs : Scope} {cl : List (Str × Addr)} {news : List (Addr × Obj)} {g : Obj → List (Addr × Obj)}
  {loose : List Str} {mean : ExcName → Option Value} {params : Arguments} {body : PySem.Expr} {scope : Scope} {ps : Array Value} {a1 a2 : Nat} {Q : Value → Shared → Prop} (F : Fr h₀ L s.heap m) (N : News h₀ L s.heap news) (T : Top topProg loose mean mg mb h₀) (C : CodeHd h₀ 162 P) (U : UpdF P (tabObj ps) news g) (ht : TabOk ps)
    (hd : defaultsOf params (envX cn cs L a (.ref 162) cl) = ([], [])) (hcl : closureFor scope (envX cn cs L a (.ref 162) cl) = pure [])
    (h : ∀ f fo ps' h' tk, TabOk ps' → Fr h₀ L h' m → News h₀ L h' ((f, fo) :: g (tabObj ps')) → fo.cls = .type "function" → (∀ q ∈ news, q.1 < f) → Q (.ref f) { s with heap := h', toks := tk }) :
    wpAny M A (eval (.Lambda params body scope ⟨151, 39, a1, a2⟩) (envX cn cs L a (.ref 162) cl)) Q E s := by
  refine kla_eval hd ?_
  rcases ht with rfl | ⟨c', rfl⟩
  · refine kla_nest F N T C rfl U trivial rfl hcl fun f c' oc vs t ctv h' tk F' N' _ _ l1 l2 => ?_
    refine h f (kla_obj "<lambda>" ((envX cn cs L a (.ref 162) cl).qual ++ "<lambda>") params body scope [] ((mg "__name__").getD .none) c' ctv) _ h' tk (.inr ⟨c', rfl⟩) F' (fun p hp => N' p ?_) rfl fun q hq => Nat.lt_trans (l1 q hq) l2
    rcases List.mem_cons.mp hp with rfl | hp
    · exact .head _
    · exact .tail _ (.tail _ hp)
  · obtain ⟨own, rest, e, hgr, h1, h2⟩ := U.split
    have hm : (P, tabObj #[rawInt 151, rawInt 39, .ref c']) ∈ news := by rw [e]; exact List.mem_append_right _ (.head _)
    refine kla_hit F N T C rfl hm (by simp [TriplesOk, rawInt]) (by rfl) hcl fun f ctv h' tk F' N' l1 => ?_
    refine h f (kla_obj "<lambda>" ((envX cn cs L a (.ref 162) cl).qual ++ "<lambda>") params body scope [] ((mg "__name__").getD .none) c' ctv) _ h' tk (.inr ⟨c', rfl⟩) F' (fun p hp => N' p ?_) rfl l1
    rcases List.mem_cons.mp hp with rfl | hp
    · exact .head _
    · rw [hgr] at hp
      rw [e]
      exact .tail _ hp
theorem wd15_1 : True := by
  (k_with "getAttr ref" => (((with_reducible show wpAny _ _ (getAttr (Value.ref _) (PySem.Str.ofString "append") _) _ _ _); k_dflt (refine' getAttr_appendK ?k1 ?k2 ?k3 ?_; (case k1 => k_asm); (case k2 => k_asm); (case k3 => k_mem); k_whole); intro O' h' tk' F' N' l1; (try k_lt l1); (try k_sweep))))
  (k_with "call ref" => (((with_reducible show wpAny _ _ (call (Value.ref _) [_]) _ _ _); k_dflt (refine' call_boundK ?k1 ?k2 ?k3 ?k4 ?_ ?z; (case k1 => k_asm); (case k2 => k_asm); (case k3 => k_mem); (case k4 => k_upd); (case z => size_fits); k_whole); intro h' F' N'; (try k_sweep))))
  (k_with "callWith ref" => ((k_dflt (refine' callWith_B ?k1 ?k2 ?_; (case k1 => k_asm); (case k2 => k_mem); k_whole))))
  (k_with "And" => ((refine And.intro (bnd_at (by k_asm) (by k_mem)) ?_)))
  (k_with "ite" => (first | refine ite_yes (by decide +kernel) ?_ | refine ite_no (by decide +kernel) ?_ | refine ite_yes (by with_unfolding_all exact rfl) ?_ | with_unfolding_all refine ite_no Bool.false_ne_true ?_))
  (k_with "TkK" => ((refine tkk fun l9 => ?_; (try dsimp only at l9); (try dsimp only))))
  (k_with "compareOp IsNot str str" => ((refine isnot_str (by assumption) (by first | omega | exact lt_tk (by assumption) (by assumption)) (by decide +kernel) ?_)))
  (k_with "call builtin:str.replace" => ((refine rep_none (by decide +kernel) ?_)))
  (k_with "execs cons" => (first | ((with_reducible refine execs_tk (by ((try dsimp only); (repeat (first | with_reducible assumption | apply Tk.add)))) ?_); try dsimp only) | ((with_reducible refine wpAny_execs_cons ?_); try dsimp only)))
  (k_with "exec If" => ((refine if_tk (by ((try dsimp only); (repeat (first | with_reducible assumption | apply Tk.add)))) ?_)))
  (k_with "eval FormattedValue" => (((fail_if_success (with_reducible show wpAny _ _ _ (fun _ s' => TkK _ s' _) _ _)); refine tk_q (by ((try dsimp only); (repeat (first | with_reducible assumption | apply Tk.add)))) ?_)))
  (k_with "WhlRest" => ((refine' whl_tk (by ((try dsimp only); (repeat (first | with_reducible assumption | apply Tk.add)))) ?hE ?_; (case hE => first | passes_own | with_unfolding_all passes_own))))
  (k_with "subscriptTail Name Name str int" => ((refine item_str (by decide +kernel) (by decide +kernel) (by decide +kernel) ?_; intro _)))
  trivial
local macro_rules | `(tactic| walk_at "call ref") => `(tactic| ((with_reducible show wpAny _ _ (call (Value.ref 156) [Value.str _ _]) _ _ _); first
  | (k_dflt (refine' Spec3.pure ?kt ?k1 ?k2 ?k3 ?k4 ?k5 ?kK (esc_keep _ _ _ _ _ _ _ _ (by decide +kernel)) ?ks ?kd ?ku ?_; (case kt => first | (((try dsimp only); (repeat (first | with_reducible assumption | apply Tk.add))); done) | exact (Nat.zero_le _ : Tk 0 _)); (case k1 => k_asm); (case k2 => k_asm); (case k3 => k_asm); (case k4 => k_asm); (case k5 => k_asm); (case kK => first | exact rfl | assumption); (case ks => exact allN); (case kd => ktr_room); (case ku => ktr_units); (intro r9 h9 tk9 F9 N9 P9); (obtain ⟨u9, e9, l9⟩ := P9; subst e9); (try dsimp only); (try k_sweep)))
  | (k_dflt (refine' Spec3.pure ?kt ?k1 ?k2 ?k3 ?k4 ?k5 ?kK (esc_dot _ _ _ _ _ _ _ _ (by decide +kernel)) ?ks ?kd ?ku ?_; (case kt => first | (((try dsimp only); (repeat (first | with_reducible assumption | apply Tk.add))); done) | exact (Nat.zero_le _ : Tk 0 _)); (case k1 => k_asm); (case k2 => k_asm); (case k3 => k_asm); (case k4 => k_asm); (case k5 => k_asm); (case kK => first | exact rfl | assumption); (case ks => exact allN); (case kd => ktr_room); (case ku => ktr_units); (intro r9 h9 tk9 F9 N9 P9); (obtain ⟨u9, e9, l9⟩ := P9; subst e9); (try dsimp only); (try k_sweep)))))
theorem wd15_2 : True := by
  (k_with "getMethod ref" => (((with_reducible show wpAny _ _ (getMethod (Value.ref 144) _ _) _ _ _); (refine getMethod_sub (by k_asm) (by k_asm) ?_))))
  (k_with "call builtin:re.Pattern.sub" => ((k_dflt (refine' call_subK ?k1 ?k2 ?k3 ?k4 ?k5 ?k6 ?k7 ?k8 ?_; (case k1 => k_asm); (case k2 => k_asm); (case k3 => k_asm); (case k4 => k_mem); (case k5 => assumption); (case k6 => decide +kernel); (case k7 => decide +kernel); (case k8 => decide +kernel)); (intro h8 tk8 t8 F8 N8); (try dsimp only); (try k_sweep))))
  trivial
local macro_rules | `(tactic| walk_at "eval Lambda") => `(tactic| (k_dflt (refine' lam_any ?F ?N ?T ?C ?U ?t ?d ?cl ?_; (case F => k_asm); (case N => k_asm); (case T => k_asm); (case C => kn_code); (case U => k_updF); (case t => assumption); (case d => exact rfl); (case cl => exact rfl); k_whole); intro f' fo' ps' h' tk' O' F' N' c' l1; (try dsimp only at N'); (try k_lt l1)))
theorem tr0 (w : World) (loose : List Str) (mean : ExcName → Option Value) (mg mb : Str → Option Value) (n : Nat) (t t2 t3 : Nat) (ht0 : 0 < t2) (ht2 : t2 < n) :
    Spec3 w loose mean mg mb 163 [.str (Str.ofString "*") t, .str (Str.ofString "*") t2, .str (Str.ofString "?") t3] 5 [] n (fun r n' => ∃ D tl, ∃ ps : List (Str × Tok), ∃ k, r = .ref D ∧ n' = (D, lstO (ps.map sval) k) :: tl ∧ ps.map (·.1) = [Str.ofString "*"]) := by
  unfold Spec3
  k_fill
  intro dp un gd cn cs a ccd cl outer A₀ base h₀ L m s Q E hn B F X N T hk hd hu hret
  refine wpAny_call ?_
  k_dflt (refine' code_plain2 ?k1 ?k2 ?k3 ?k4 ?k5 ?kA ?kF ?kK ?k6 ?k7 ?k8 ?k9 ?kB ?_ ?c2 ?c3 ?c4 ?c5; (case kA => exact rfl); (case kF => exact rfl); (case kK => assumption); (case k1 => k_asm); (case k2 => k_asm); (case k3 => k_asm); (case k4 => k_asm); (case k5 => k_asm); (case k6 => k_is); (case k7 => k_is); (case k8 => ktr_room); (case k9 => exact BindsTo.of_eq rfl); (case c5 => decide); (case kB => exact locs rfl); (case c2 => exact rfl); (case c3 => exact rfl); (case c4 => exact rfl); k_whole; intro g' L' h' FG' F' N' B' X' T'; (try dsimp only); (try k_fold))
  k_steps
  all_goals try exact bnd_at (by k_asm) (by k_mem)
  all_goals exact leave2 (by assumption) (by assumption) fun kF kN kK => hret _ _ _ _ kF (fun p hp => kN p (.tail _ (.tail _ hp))) kK ⟨_, [], [(_, _)], _, rfl, rfl, rfl⟩
theorem tr1 (w : World) (loose : List Str) (mean : ExcName → Option Value) (mg mb : Str → Option Value) (n : Nat) (t t2 t3 : Nat) (ht0 : 0 < t2) (ht2 : t2 < n) :
    Spec3 w loose mean mg mb 163 [.str (Str.ofString "a*") t, .str (Str.ofString "*") t2, .str (Str.ofString "?") t3] 5 [] n (fun r n' => ∃ D tl, ∃ ps : List (Str × Tok), ∃ k, r = .ref D ∧ n' = (D, lstO (ps.map sval) k) :: tl ∧ ps.map (·.1) = [Str.ofString "a", Str.ofString "*"]) := by
  unfold Spec3
  k_fill
  intro dp un gd cn cs a ccd cl outer A₀ base h₀ L m s Q E hn B F X N T hk hd hu hret
  refine wpAny_call ?_
  k_dflt (refine' code_plain2 ?k1 ?k2 ?k3 ?k4 ?k5 ?kA ?kF ?kK ?k6 ?k7 ?k8 ?k9 ?kB ?_ ?c2 ?c3 ?c4 ?c5; (case kA => exact rfl); (case kF => exact rfl); (case kK => assumption); (case k1 => k_asm); (case k2 => k_asm); (case k3 => k_asm); (case k4 => k_asm); (case k5 => k_asm); (case k6 => k_is); (case k7 => k_is); (case k8 => ktr_room); (case k9 => exact BindsTo.of_eq rfl); (case c5 => decide); (case kB => exact locs rfl); (case c2 => exact rfl); (case c3 => exact rfl); (case c4 => exact rfl); k_whole; intro g' L' h' FG' F' N' B' X' T'; (try dsimp only); (try k_fold))
  k_steps
  all_goals try exact bnd_at (by k_asm) (by k_mem)
  all_goals exact leave2 (by assumption) (by assumption) fun kF kN kK => hret _ _ _ _ kF (fun p hp => kN p (.tail _ (.tail _ hp))) kK ⟨_, [], [(_, _), (_, _)], _, rfl, rfl, rfl⟩
theorem tr2 (w : World) (loose : List Str) (mean : ExcName → Option Value) (mg mb : Str → Option Value) (n : Nat) (t t2 t3 : Nat) (ht0 : 0 < t2) (ht2 : t2 < n) :
    Spec3 w loose mean mg mb 163 [.str (Str.ofString "?") t, .str (Str.ofString "*") t2, .str (Str.ofString "?") t3] 5 [] n (fun r n' => ∃ D tl, ∃ ps : List (Str × Tok), ∃ k, r = .ref D ∧ n' = (D, lstO (ps.map sval) k) :: tl ∧ ps.map (·.1) = [Str.ofString "?"]) := by
  unfold Spec3
  k_fill
  intro dp un gd cn cs a ccd cl outer A₀ base h₀ L m s Q E hn B F X N T hk hd hu hret
  refine wpAny_call ?_
  k_dflt (refine' code_plain2 ?k1 ?k2 ?k3 ?k4 ?k5 ?kA ?kF ?kK ?k6 ?k7 ?k8 ?k9 ?kB ?_ ?c2 ?c3 ?c4 ?c5; (case kA => exact rfl); (case kF => exact rfl); (case kK => assumption); (case k1 => k_asm); (case k2 => k_asm); (case k3 => k_asm); (case k4 => k_asm); (case k5 => k_asm); (case k6 => k_is); (case k7 => k_is); (case k8 => ktr_room); (case k9 => exact BindsTo.of_eq rfl); (case c5 => decide); (case kB => exact locs rfl); (case c2 => exact rfl); (case c3 => exact rfl); (case c4 => exact rfl); k_whole; intro g' L' h' FG' F' N' B' X' T'; (try dsimp only); (try k_fold))
  k_steps
  all_goals try exact bnd_at (by k_asm) (by k_mem)
  all_goals exact leave2 (by assumption) (by assumption) fun kF kN kK => hret _ _ _ _ kF (fun p hp => kN p (.tail _ (.tail _ hp))) kK ⟨_, [], [(_, _)], _, rfl, rfl, rfl⟩
theorem tr3 (w : World) (loose : List Str) (mean : ExcName → Option Value) (mg mb : Str → Option Value) (n : Nat) (t t2 t3 : Nat) (ht0 : 0 < t2) (ht2 : t2 < n) :
    Spec3 w loose mean mg mb 163 [.str (Str.ofString "*b") t, .str (Str.ofString "*") t2, .str (Str.ofString "?") t3] 5 [] n (fun r n' => ∃ D tl, ∃ ps : List (Str × Tok), ∃ k, r = .ref D ∧ n' = (D, lstO (ps.map sval) k) :: tl ∧ ps.map (·.1) = [Str.ofString "*", Str.ofString "b"]) := by
  unfold Spec3
  k_fill
  intro dp un gd cn cs a ccd cl outer A₀ base h₀ L m s Q E hn B F X N T hk hd hu hret
  refine wpAny_call ?_
  k_dflt (refine' code_plain2 ?k1 ?k2 ?k3 ?k4 ?k5 ?kA ?kF ?kK ?k6 ?k7 ?k8 ?k9 ?kB ?_ ?c2 ?c3 ?c4 ?c5; (case kA => exact rfl); (case kF => exact rfl); (case kK => assumption); (case k1 => k_asm); (case k2 => k_asm); (case k3 => k_asm); (case k4 => k_asm); (case k5 => k_asm); (case k6 => k_is); (case k7 => k_is); (case k8 => ktr_room); (case k9 => exact BindsTo.of_eq rfl); (case c5 => decide); (case kB => exact locs rfl); (case c2 => exact rfl); (case c3 => exact rfl); (case c4 => exact rfl); k_whole; intro g' L' h' FG' F' N' B' X' T'; (try dsimp only); (try k_fold))
  k_steps
  all_goals try exact bnd_at (by k_asm) (by k_mem)
  all_goals exact leave2 (by assumption) (by assumption) fun kF kN kK => hret _ _ _ _ kF (fun p hp => kN p (.tail _ (.tail _ hp))) kK ⟨_, [], [(_, _), (_, _)], _, rfl, rfl, rfl⟩
theorem tr5 (w : World) (loose : List Str) (mean : ExcName → Option Value) (mg mb : Str → Option Value) (n : Nat) (t t2 t3 : Nat) (ht0 : 0 < t2) (ht2 : t2 < n) :
    Spec3 w loose mean mg mb 163 [.str (Str.ofString ".?") t, .str (Str.ofString "*") t2, .str (Str.ofString "?") t3] 5 [] n (fun r n' => ∃ D tl, ∃ ps : List (Str × Tok), ∃ k, r = .ref D ∧ n' = (D, lstO (ps.map sval) k) :: tl ∧ ps.map (·.1) = [Str.ofString "\\.", Str.ofString "?"]) := by
  unfold Spec3
  k_fill
  intro dp un gd cn cs a ccd cl outer A₀ base h₀ L m s Q E hn B F X N T hk hd hu hret
  refine wpAny_call ?_
  k_dflt (refine' code_plain2 ?k1 ?k2 ?k3 ?k4 ?k5 ?kA ?kF ?kK ?k6 ?k7 ?k8 ?k9 ?kB ?_ ?c2 ?c3 ?c4 ?c5; (case kA => exact rfl); (case kF => exact rfl); (case kK => assumption); (case k1 => k_asm); (case k2 => k_asm); (case k3 => k_asm); (case k4 => k_asm); (case k5 => k_asm); (case k6 => k_is); (case k7 => k_is); (case k8 => ktr_room); (case k9 => exact BindsTo.of_eq rfl); (case c5 => decide); (case kB => exact locs rfl); (case c2 => exact rfl); (case c3 => exact rfl); (case c4 => exact rfl); k_whole; intro g' L' h' FG' F' N' B' X' T'; (try dsimp only); (try k_fold))
  k_steps
  all_goals try exact bnd_at (by k_asm) (by k_mem)
  all_goals exact leave2 (by assumption) (by assumption) fun kF kN kK => hret _ _ _ _ kF (fun p hp => kN p (.tail _ (.tail _ hp))) kK ⟨_, [], [(_, _), (_, _)], _, rfl, rfl, rfl⟩
theorem tr4 (w : World) (loose : List Str) (mean : ExcName → Option Value) (mg mb : Str → Option Value) (n : Nat) (t t2 t3 : Nat) (p0 : Array Value) (hp0 : TabOk p0) (ht0 : 0 < t2) (ht2 : t2 < n) :
    Spec3 w loose mean mg mb 163 [.str (Str.ofString "[!a]*") t, .str (Str.ofString "*") t2, .str (Str.ofString "?") t3] 5 [(158, tabObj p0)] n (fun r n' => ∃ D tl, ∃ ps : List (Str × Tok), ∃ k ps', TabOk ps' ∧ r = .ref D ∧ n' = (D, lstO (ps.map sval) k) :: (tl ++ [(158, tabObj ps')]) ∧ ps.map (·.1) = [Str.ofString "[^a]", Str.ofString "*"]) := by
  unfold Spec3
  k_fill
  intro dp un gd cn cs a ccd cl outer A₀ base h₀ L m s Q E hn B F X N T hk hd hu hret
  refine wpAny_call ?_
  k_dflt (refine' code_plain2 ?k1 ?k2 ?k3 ?k4 ?k5 ?kA ?kF ?kK ?k6 ?k7 ?k8 ?k9 ?kB ?_ ?c2 ?c3 ?c4 ?c5; (case kA => exact rfl); (case kF => exact rfl); (case kK => assumption); (case k1 => k_asm); (case k2 => k_asm); (case k3 => k_asm); (case k4 => k_asm); (case k5 => k_asm); (case k6 => k_is); (case k7 => k_is); (case k8 => ktr_room); (case k9 => exact BindsTo.of_eq rfl); (case c5 => decide); (case kB => exact locs rfl); (case c2 => exact rfl); (case c3 => exact rfl); (case c4 => exact rfl); k_whole; intro g' L' h' FG' F' N' B' X' T'; (try dsimp only); (try k_fold))
  have C9 := codeHd_of_K (c := 162) (P := 158) X' (by kernel_rfl)
  k_steps
  all_goals try exact bnd_at (by k_asm) (by k_mem)
  all_goals exact leave2 (by assumption) (by assumption) fun kF kN kK => hret _ _ _ _ kF (fun p hp => kN p (.tail _ (.tail _ (.tail _ hp)))) kK ⟨_, [], [(_, _), (_, _)], _, _, by assumption, rfl, rfl, (show [Str.empty ++ Str.ofString "[" ++ Str.ofString "^a" ++ Str.ofString "]", Str.ofString "*"] = [Str.ofString "[^a]", Str.ofString "*"] by decide +kernel)⟩
theorem wd15_off : True := by
  k_with_none
  trivial
end Mine
namespace Mine
open PyProof.Rows.LCg PyProof.Rows.LCt
section
variable {prog : Program} {w : World} {A : Around} {E : Value → Shared → Prop} {s : Shared} {h₀ : Heap} {L : Addr} {m : Str → Option Value} {env : Env}
theorem take_snoc {α : Type} {l : List α} {i : Nat} (h : i < l.length) : l.take (i + 1) = l.take i ++ [l[i]] := by
  rw [List.take_add_one]; simp [h]
theorem take_split {α : Type} {l : List α} {i : Nat} (h : i < l.length) : l = l.take i ++ l[i] :: l.drop (i + 1) := by
  have h1 : l = l.take i ++ l.drop i := (List.take_append_drop i l).symm
  have h2 : l.drop i = l[i] :: l.drop (i + 1) := List.drop_eq_getElem_cons h
  rw [← h2, ← h1]
theorem compU_ind {α : Type} {elt : PySem.Expr} {x : Str} {scope : Scope} {cl : List (Str × Addr)} {S : List (Addr × Obj) → Prop} {Fin : List Value → List (Addr × Obj) → Prop} {news : List (Addr × Obj)} {P : Nat → Value → Prop} (l : List α) (Inv : List α → List Value → List (Addr × Obj) → Prop)
    (turn : ∀ pre a post ys news v, l = pre ++ a :: post → P pre.length v → Inv pre ys news → ∀ I oI C oC D m₂ h tk (E' : Value → Shared → Prop), NsObj oC m₂ → m₂ x = some v → Fr h₀ L h m → News h₀ L h ((I, oI) :: (C, oC) :: (D, lst ys) :: news) → Off3 I C D news → ((@Ne Nat I C) ∧ (@Ne Nat I D) ∧ (@Ne Nat C D)) →
      wpAny (model prog w) A (eval elt (compEnvC scope cl C env)) (CompEnd h₀ L m { s with heap := h, toks := tk } I oI C oC D (lst ys) S (fun y news' => Inv (pre ++ [a]) (ys ++ [y]) news')) E' { s with heap := h, toks := tk })
    (fin : ∀ ys news, Inv l ys news → Fin ys news) (n : Nat) (hn : n = l.length) (h0 : Inv [] [] news) :
    CompRest prog w A h₀ L m env elt x scope cl s S P Fin n 0 [] news := by
  have go : ∀ k i ys news, i + k = l.length → Inv (l.take i) ys news → CompRest prog w A h₀ L m env elt x scope cl s S P Fin k i ys news := by
    intro k
    induction k with
    | zero =>
      intro i ys news hik hi
      rw [List.take_of_length_le (by omega)] at hi
      exact CompRest.zero (fin _ _ hi)
    | succ k ih =>
      intro i ys news hik hi
      refine CompRest.succ fun v I oI C oC D m₂ h tk E' hv hC hx F N off ne => ?_
      have hlt : i < l.length := by omega
      refine wpAny_mono (turn (l.take i) l[i] (l.drop (i + 1)) ys news v (take_split hlt) (by rw [List.length_take, Nat.min_eq_left (Nat.le_of_lt hlt)]; exact hv) hi I oI C oC D m₂ h tk E' hC hx F N off ne) (fun y s' hy => ?_) fun _ _ q => q
      obtain ⟨h', tk', news', e, F', N', off', hS', hi'⟩ := hy
      exact ⟨h', tk', news', e, F', N', off', hS', ih (i + 1) _ _ (by omega) (by rw [take_snoc hlt]; exact hi')⟩
  subst hn
  exact go l.length 0 [] news (by omega) h0
theorem compT_ind {α : Type} {ct elt : PySem.Expr} {x : Str} {scope : Scope} {cl : List (Str × Addr)} {S : List (Addr × Obj) → Prop} {Fin : List Value → List (Addr × Obj) → Prop} {news : List (Addr × Obj)} {P : Nat → Value → Prop} (l : List α) (Inv : List α → List Value → List (Addr × Obj) → Prop)
    (turn : ∀ pre a post ys news v, l = pre ++ a :: post → P pre.length v → Inv pre ys news → ∀ I oI C oC D m₂ h tk (E' : Value → Shared → Prop), NsObj oC m₂ → m₂ x = some v → Fr h₀ L h m → News h₀ L h ((I, oI) :: (C, oC) :: (D, lst ys) :: news) → Off3 I C D news → ((@Ne Nat I C) ∧ (@Ne Nat I D) ∧ (@Ne Nat C D)) →
      wpAny (model prog w) A (isTrue ct (compEnvC scope cl C env) (eval ct (compEnvC scope cl C env))) (fun ok s' => if ok = true then
        wpAny (model prog w) A (eval elt (compEnvC scope cl C env)) (CompEnd h₀ L m { s with heap := h, toks := tk } I oI C oC D (lst ys) S (fun y news' => Inv (pre ++ [a]) (ys ++ [y]) news')) E' s'
        else CompEnd h₀ L m { s with heap := h, toks := tk } I oI C oC D (lst ys) S (fun _ news' => Inv (pre ++ [a]) ys news') Value.none s') E' { s with heap := h, toks := tk })
    (fin : ∀ ys news, Inv l ys news → Fin ys news) (n : Nat) (hn : n = l.length) (h0 : Inv [] [] news) :
    CompRestT prog w A h₀ L m env ct elt x scope cl s S P Fin n 0 [] news := by
  have go : ∀ k i ys news, i + k = l.length → Inv (l.take i) ys news → CompRestT prog w A h₀ L m env ct elt x scope cl s S P Fin k i ys news := by
    intro k
    induction k with
    | zero =>
      intro i ys news hik hi
      rw [List.take_of_length_le (by omega)] at hi
      exact CompRestT.zero (fin _ _ hi)
    | succ k ih =>
      intro i ys news hik hi
      refine CompRestT.succ fun v I oI C oC D m₂ h tk E' hv hC hx F N off ne => ?_
      have hlt : i < l.length := by omega
      refine wpAny_mono (turn (l.take i) l[i] (l.drop (i + 1)) ys news v (take_split hlt) (by rw [List.length_take, Nat.min_eq_left (Nat.le_of_lt hlt)]; exact hv) hi I oI C oC D m₂ h tk E' hC hx F N off ne) (fun ok s' hs => ?_) fun _ _ q => q
      cases ok with
      | true =>
        rw [if_pos rfl] at hs ⊢
        refine wpAny_mono hs (fun y s'' hy => ?_) fun _ _ q => q
        obtain ⟨h', tk', news', e, F', N', off', hS', hi'⟩ := hy
        exact ⟨h', tk', news', e, F', N', off', hS', ih (i + 1) _ _ (by omega) (by rw [take_snoc hlt]; exact hi')⟩
      | false =>
        rw [if_neg (by decide)] at hs ⊢
        obtain ⟨h', tk', news', e, F', N', off', hS', hi'⟩ := hs
        exact ⟨h', tk', news', e, F', N', off', hS', ih (i + 1) _ _ (by omega) (by rw [take_snoc hlt]; exact hi')⟩
  subst hn
  exact go l.length 0 [] news (by omega) h0
end
end Mine
namespace Mine
open PyProof.Rows.LCg PyProof.Rows.LCt
noncomputable abbrev Row := Addr × List (Str × Tok) × Nat
noncomputable abbrev rv (p : Row) : Value := .ref p.1
noncomputable abbrev fs (l : List (Str × Tok)) : List Str := l.map (·.1)
noncomputable def rs (p : Row) : List Str := fs p.2.1
noncomputable abbrev rowO (p : Row) : Obj := lstO (p.2.1.map sval) p.2.2
noncomputable def RowIn (news : List (Addr × Obj)) (p : Row) : Prop := (p.1, rowO p) ∈ news
noncomputable def strsOf (l : List Value) : List Str := l.map fun v => match v with | .str x _ => x | _ => Str.empty
theorem strsOf_sval (l : List (Str × Tok)) : strsOf (l.map sval) = fs l := by simp [strsOf, fs, sval]
theorem lstO_inj {a b : List Value} {i j : Nat} (h : lstO a i = lstO b j) : a = b := by
  have h' : ({ cls := .type "list", data := .seq a.toArray i } : Obj) = { cls := .type "list", data := .seq b.toArray j } := h
  injection h' with _ _ hd _
  injection hd with h1 h2
  have := congrArg Array.toList h1
  simpa using this
theorem lstS_inj {a b : List (Str × Tok)} {i j : Nat} (h : lstO (a.map sval) i = lstO (b.map sval) j) : fs a = fs b := by
  rw [← strsOf_sval a, ← strsOf_sval b, lstO_inj h]
theorem all_range_getD {a b : List Str} (h : a.length = b.length) : ((List.range a.length).all fun j => a.getD j Str.empty == b.getD j Str.empty) = (a == b) := by
  rw [Bool.eq_iff_iff, List.all_eq_true, beq_iff_eq]
  constructor
  · intro q
    apply List.ext_getElem h
    intro i h1 h2
    have := q i (List.mem_range.mpr h1)
    rw [beq_iff_eq] at this
    simpa [List.getD_eq_getElem?_getD, h1, h2] using this
  · rintro rfl j _
    exact beq_self_eq_true _
section
variable {prog : Program} {w : World} {A : Around} {E : Value → Shared → Prop} {s : Shared} {h₀ : Heap} {L a b D : Addr} {m : Str → Option Value} {news : List (Addr × Obj)} {Q : Value → Shared → Prop}
theorem eq_svals {r q : List (Str × Tok)} {n k : Nat} (ha : s.heap.get? a = some (lstO (r.map sval) n)) (hb : s.heap.get? b = some (lstO (q.map sval) k)) (hu : A.units < cLine) : SeqAt.RcAt A s (.ref a) (.ref b) (fs r == fs q) := by
  have hl : s.heap.IsList a (r.map sval).toArray := ⟨_, ha, rfl, n, rfl⟩
  have hr : s.heap.IsList b (q.map sval).toArray := ⟨_, hb, rfl, k, rfl⟩
  by_cases hlen : r.length = q.length
  · have := SeqAt.RcAt.lists (e := fun j => (fs r).getD j Str.empty == (fs q).getD j Str.empty) hl hr (by simp [hlen]) hu (fun j h1 h2 => ?_)
    · have e : ((List.range (r.map sval).toArray.size).all fun j => (fs r).getD j Str.empty == (fs q).getD j Str.empty) = (fs r == fs q) := by
        have e1 : (r.map sval).toArray.size = (fs r).length := by simp [fs]
        rw [e1]
        exact all_range_getD (by simp [fs, hlen])
      rw [e] at this
      exact this
    · simp only [List.size_toArray, List.length_map] at h1 h2
      have e1 : (r.map sval).toArray[j]'(by simpa using h1) = .str (r[j]).1 (r[j]).2 := by simp [sval]
      have e2 : (q.map sval).toArray[j]'(by simpa using h2) = .str (q[j]).1 (q[j]).2 := by simp [sval]
      have e3 : (fs r).getD j Str.empty = r[j].1 := by simp [fs, h1]
      have e4 : (fs q).getD j Str.empty = q[j].1 := by simp [fs, h2]
      rw [e1, e2]
      show SeqAt.EqAt A.in1 s _ _ ((fs r).getD j Str.empty == (fs q).getD j Str.empty)
      rw [e3, e4]
      exact SeqAt.EqAt.str_str _ _ _ _
  · have e : (fs r == fs q) = false := by
      rw [beq_eq_false_iff_ne]
      intro e
      have := congrArg List.length e
      simp only [fs, List.length_map] at this
      exact hlen this
    rw [e]
    exact SeqAt.RcAt.lists_lengths hl hr (by simp [hlen]) hu
theorem eqat_svals {r q : List (Str × Tok)} {n k : Nat} (ha : s.heap.get? a = some (lstO (r.map sval) n)) (hb : s.heap.get? b = some (lstO (q.map sval) k)) (hu : A.units < cLine) : SeqAt.EqAt A s (.ref a) (.ref b) (fs r == fs q) := by
  by_cases hab : a = b
  · subst hab
    have e : fs r = fs q := lstS_inj (Option.some.inj (ha.symm.trans hb))
    rw [e, beq_self_eq_true]
    exact SeqAt.EqAt.same _
  · exact SeqAt.EqAt.of_refs hab (eq_svals ha hb hu)
theorem eq_strs {r q : List (Str × Tok)} {n k : Nat} (N : News h₀ L s.heap news) (ha : (a, lstO (r.map sval) n) ∈ news) (hb : (b, lstO (q.map sval) k) ∈ news) (hu : A.units < cLine) (h : Q (.bool (fs r == fs q)) s) : wpAny (model prog w) A (compareOp .Eq (.ref a) (.ref b)) Q E s :=
  eq_svals (N _ ha).1 (N _ hb).1 hu prog w E Q h
theorem notin_rows {rows : List Row} {r : List (Str × Tok)} {n k : Nat} (N : News h₀ L s.heap news) (ha : (a, lstO (r.map sval) n) ∈ news) (hb : (D, lstO (rows.map rv) k) ∈ news) (hr : ∀ p ∈ rows, RowIn news p) (hu : A.units + 8 < cLine)
    (h : Q (.bool (!(rows.map rs).any fun q => q == fs r)) s) : wpAny (model prog w) A (compareOp .NotIn (.ref a) (.ref D)) Q E s := by
  have hl : s.heap.IsList D (rows.map rv).toArray := ⟨_, (N _ hb).1, rfl, k, rfl⟩
  have hsame : ∀ p ∈ rows, ((rows.any fun q => (rv p == rv q) && (rs q == fs r)) = (rs p == fs r)) := by
    intro p hp
    rw [Bool.eq_iff_iff, List.any_eq_true]
    constructor
    · rintro ⟨q, hq, hqq⟩
      rw [Bool.and_eq_true, beq_iff_eq] at hqq
      have e1 : p.1 = q.1 := by injection hqq.1
      have hP := (N _ (hr p hp)).1
      have hQ := (N _ (hr q hq)).1
      dsimp only at hP hQ
      rw [e1, hQ] at hP
      have e2 : rs q = rs p := lstS_inj (Option.some.inj hP)
      rw [← e2]; exact hqq.2
    · intro hpq
      exact ⟨p, hp, by rw [hpq, Bool.and_true]; exact beq_self_eq_true _⟩
  refine SeqAt.notIn_listAt (fun y => rows.any fun p => (y == rv p) && (rs p == fs r)) hl (fun y hy => ?_) ?_
  · have hy' : y ∈ rows.map rv := by simpa using hy
    obtain ⟨p, hp, rfl⟩ := List.mem_map.mp hy'
    show SeqAt.EqAt _ s _ _ (rows.any fun q => (rv p == rv q) && (rs q == fs r))
    rw [hsame p hp]
    exact eqat_svals (N _ (hr p hp)).1 (N _ ha).1 (by show A.in1.units < cLine; simp only [Around.in1]; omega)
  · have e : ((rows.map rv).toArray.any fun y => rows.any fun p => (y == rv p) && (rs p == fs r)) = (rows.map rs).any fun q => q == fs r := by
      rw [List.any_toArray, List.any_map, List.any_map]
      rw [Bool.eq_iff_iff, List.any_eq_true, List.any_eq_true]
      constructor
      · rintro ⟨p, hp, h1⟩
        exact ⟨p, hp, (hsame p hp).symm.trans h1⟩
      · rintro ⟨p, hp, h1⟩
        exact ⟨p, hp, (hsame p hp).trans h1⟩
    rw [e]
    exact h
theorem extend_any {vs ys : List Value} {n k : Nat} {rest : List (Addr × Obj)} (F : Fr h₀ L s.heap m) (N : News h₀ L s.heap ((D, lstO vs n) :: rest)) (hd : ∀ p ∈ rest, p.1 ≠ D) (hb : (b, lstO ys k) ∈ rest) (hv : vs.length ≤ 1000) (hy : ys.length ≤ 1000)
    (h : ∀ h' n2, Fr h₀ L h' m → News h₀ L h' ((D, lstO (vs ++ ys) n2) :: rest) → Q .none { s with heap := h' }) : wpAny (model prog w) A (call (.builtin "list.extend") [.ref D, .ref b]) Q E s := by
  have hz : sizeLine ≥ 100000 := by decide
  cases ys with
  | nil =>
    refine kxn_extend F N (List.mem_cons_of_mem _ hb) rfl (.head hd) ?_ (by simp; omega) (by simp; omega) (fun h' F' N' => ?_)
    · simp [Builtin.List.listTooLong]; omega
    · rw [← List.append_nil vs] at N'
      exact h h' n F' N'
  | cons y r =>
    refine kl_extend F N (List.mem_cons_of_mem _ hb) rfl (by simp) (.head hd) ?_ (by simp; omega) (by simp at hy ⊢; omega) (fun h' F' N' => ?_)
    · simp [Builtin.List.listTooLong] at hy ⊢; omega
    · refine h h' (n + 1) F' ?_
      simpa using N'
theorem join_K {r : List (Str × Tok)} {k : Nat} {t : Tok} {x : Str} (N : News h₀ L s.heap news) (ha : (a, lstO (r.map sval) k) ∈ news) (hok : JoinOk x (fs r) = true)
    (h : ∀ t' tk, Q (.str (Txt.join x (fs r)) t') { s with toks := tk }) : wpAny (model prog w) A (call (.builtin "str.join") [.str x t, .ref a]) Q E s := by
  have e : r.map sval = strValues r := by
    unfold strValues
    rfl
  exact SC.join (l := r) (texts := fs r) ⟨_, e ▸ (N _ ha).1, rfl, k, rfl⟩ rfl hok h
theorem sorted_K {r : List (Str × Tok)} {k : Nat} (F : Fr h₀ L s.heap m) (N : News h₀ L s.heap news) (ha : (a, lstO (r.map sval) k) ∈ news) (hl : r.length < 64)
    (h : ∀ D' h' r' n, Fr h₀ L h' m → News h₀ L h' ((D', lstO (r'.map sval) n) :: news) → (∀ p ∈ news, p.1 < D') → (fs r').Perm (fs r) → sortedS (fs r') = true → Q (.ref D') { s with heap := h' }) :
    wpAny (model prog w) A (call (.builtin "sorted") [.ref a]) Q E s := by
  have hS : ∀ r : List (Str × Tok), StrsAre (r.map sval) (fs r) := by
    intro r
    induction r with
    | nil => exact .nil
    | cons p r ih => exact .cons _ _ ih
  have hT : ∀ (vs : List Value) (ss : List Str), StrsAre vs ss → ∃ r : List (Str × Tok), vs = r.map sval ∧ ss = fs r := by
    intro vs ss hs
    induction hs with
    | nil => exact ⟨[], rfl, rfl⟩
    | cons x t _ ih =>
      obtain ⟨r, h1, h2⟩ := ih
      exact ⟨(x, t) :: r, by rw [h1]; rfl, by rw [h2]; rfl⟩
  refine sorted_N_str F N ⟨_, (N _ ha).1, rfl, k, rfl⟩ (hS r) (by simpa using hl) fun h' vs' ss' e F' N' h1 h2 h3 => ?_
  obtain ⟨r', e1, e2⟩ := hT _ _ h1
  subst e1 e2
  exact h _ h' r' e F' N' (fun p hp => Nat.lt_succ_of_lt (Heap.lt_size (N p hp).1)) h2 h3
end
end Mine
namespace Mine
open PyProof.Rows.LCg PyProof.Rows.LCt
noncomputable abbrev RowsIn (news : List (Addr × Obj)) (rows : List Row) : Prop := ∀ p ∈ rows, RowIn news p
theorem RowsIn.cons {news : List (Addr × Obj)} {rows : List Row} {q : Addr × Obj} (h : RowsIn news rows) : RowsIn (q :: news) rows := fun p hp => List.mem_cons_of_mem _ (h p hp)
theorem RowsIn.sub {news news' : List (Addr × Obj)} {rows : List Row} (h : RowsIn news rows) (k : ∀ p ∈ news, p ∈ news') : RowsIn news' rows := fun p hp => k _ (h p hp)
theorem RowsIn.nil {news : List (Addr × Obj)} : RowsIn news [] := fun p hp => nomatch hp
theorem RowsIn.snoc {news : List (Addr × Obj)} {rows : List Row} {p : Row} (h : RowsIn news rows) (k : RowIn news p) : RowsIn news (rows ++ [p]) := fun q hq => (List.mem_append.mp hq).elim (h q) fun e => by rw [List.mem_singleton.mp e]; exact k
theorem RowsIn.append {news : List (Addr × Obj)} {rows rows' : List Row} (h : RowsIn news rows) (k : RowsIn news rows') : RowsIn news (rows ++ rows') := fun q hq => (List.mem_append.mp hq).elim (h q) (k q)
noncomputable abbrev Off (tl : List (Addr × Obj)) (d : Addr) : Prop := ∀ p ∈ tl, p.1 ≠ d
theorem Off.of_lt {tl : List (Addr × Obj)} {d : Addr} (h : AllLt d tl) : Off tl d := fun p hp => Nat.ne_of_lt (of_allLt h p hp)
theorem Off.cons {tl : List (Addr × Obj)} {d : Addr} {q : Addr × Obj} (h : Off tl d) (k : q.1 ≠ d) : Off (q :: tl) d := fun p hp => by
  rcases List.mem_cons.mp hp with e | hp
  · rw [e]; exact k
  · exact h p hp
theorem Off.append {tl tl' : List (Addr × Obj)} {d : Addr} (h : Off tl d) (k : Off tl' d) : Off (tl ++ tl') d := fun p hp => (List.mem_append.mp hp).elim (h p) (k p)
theorem off3_of {I C D : Addr} {tl : List (Addr × Obj)} (h1 : Off tl I) (h2 : Off tl C) (h3 : Off tl D) : Off3 I C D tl := Off3.of fun p hp => ⟨h1 p hp, h2 p hp, h3 p hp⟩
theorem Off.of3a {I C D : Addr} {tl : List (Addr × Obj)} (h : Off3 I C D tl) : Off tl I := fun p hp => (h.mem p hp).1
theorem Off.of3b {I C D : Addr} {tl : List (Addr × Obj)} (h : Off3 I C D tl) : Off tl C := fun p hp => (h.mem p hp).2.1
theorem Off.of3c {I C D : Addr} {tl : List (Addr × Obj)} (h : Off3 I C D tl) : Off tl D := fun p hp => (h.mem p hp).2.2
theorem Off.of1 {D : Addr} : ∀ {tl : List (Addr × Obj)}, Off1 D tl → Off tl D := by
  intro tl
  induction tl with
  | nil => intro _ p hp; cases hp
  | cons q r ih => intro h; exact Off.cons (ih h.2) h.1
theorem len_any {prog : Program} {w : World} {A : Around} {E : Value → Shared → Prop} {s : Shared} {h₀ : Heap} {L D : Addr} {news : List (Addr × Obj)} {vs : List Value} {n : Nat} {Q : Value → Shared → Prop} (N : News h₀ L s.heap news) (hm : (D, lstO vs n) ∈ news) (hb : vs.length ≤ 1000000)
    (h : Q (.int (vs.length : Nat) (s.toks + 1)) { s with toks := s.toks + 1 + 1 }) : wpAny (model prog w) A (call (.builtin "len") [.ref D]) Q E s := by
  have hl : s.heap.IsList D vs.toArray := ⟨_, (N _ hm).1, rfl, n, rfl⟩
  have hs : vs.toArray.size = vs.length := by simp
  refine len_list hl (by rw [hs]; omega) ?_
  rw [hs]; exact h
theorem extend_F {prog : Program} {w : World} {A : Around} {E : Value → Shared → Prop} {s : Shared} {h₀ : Heap} {L D b : Addr} {m : Str → Option Value} {news : List (Addr × Obj)} {g : Obj → List (Addr × Obj)} {vs ys : List Value} {n k : Nat} {Q : Value → Shared → Prop} (F : Fr h₀ L s.heap m) (N : News h₀ L s.heap news) (hb : (b, lstO ys k) ∈ news) (hbD : b ≠ D)
    (U : UpdF D (lstO vs n) news g) (hv : vs.length ≤ 1000) (hy : ys.length ≤ 1000) (h : ∀ h' n2, Fr h₀ L h' m → News h₀ L h' (g (lstO (vs ++ ys) n2)) → Q .none { s with heap := h' }) : wpAny (model prog w) A (call (.builtin "list.extend") [.ref D, .ref b]) Q E s := by
  obtain ⟨own, rest, e, hgr, h1, h2⟩ := U.split
  subst e
  refine extend_any (n := n) (k := k) (rest := own ++ rest) F (fun p hp => N p ?_) (fun p hp => ?_) ?_ hv hy fun h' n2 F' N' => h h' n2 F' fun p hp => N' p ?_
  · grind
  · rcases List.mem_append.mp hp with hp | hp
    · exact h1 p hp
    · exact h2 p hp
  · rcases List.mem_append.mp hb with hp | hp
    · exact List.mem_append_left _ hp
    · rcases List.mem_cons.mp hp with hp | hp
      · exact absurd (congrArg Prod.fst hp) hbD
      · exact List.mem_append_right _ hp
  · rw [hgr] at hp
    grind
noncomputable def treeStep (acc : List (List Str)) (row : List Str) : List (List Str) := acc ++ (((List.range row.length).map fun i => row.take (i + 1)).filter fun r => !(acc.any fun q => q == r))
theorem pickT {vs : List Value} {k : Int} (h0 : 0 ≤ k) : kms_pick vs.toArray.toList none (some k) = vs.take k.toNat := by
  simp only [kms_pick, kms_lo, kms_hi, List.drop_zero, Nat.sub_zero]
  rw [if_neg (by omega)]
  exact List.take_eq_take_iff.mpr (by simp)
theorem pickS {l : List (Str × Tok)} {k : Int} (h0 : 0 ≤ k) : kms_pick (l.map sval).toArray.toList none (some k) = (l.take k.toNat).map sval := by
  rw [pickT h0, List.map_take]
noncomputable def nm (i : Int) : Str := [Str.ofString "a", Str.ofString "ab", Str.ofString "b", Str.ofString ".a"].getD i.toNat Str.empty
noncomputable def baseRows : List (List Str) := [[Str.ofString "a", Str.ofString "ab"], [Str.ofString "ab", Str.ofString "b"], [Str.ofString "b", Str.ofString ".a", Str.ofString "a"]]
noncomputable def mkRow (n : Int) : List Str := [nm (Int.fmod (Int.fdiv n 3) 4), nm (Int.fmod (Int.fdiv n 12) 4), nm (Int.fmod (Int.fdiv n 48) 4)].take (Int.fmod n 3 + 1).toNat
noncomputable def treeF (js : List Int) : List (List Str) := (baseRows ++ js.map mkRow).foldl treeStep []
theorem sub_names {prog : Program} {w : World} {A : Around} {E : Value → Shared → Prop} {s : Shared} {h₀ : Heap} {L D : Addr} {news : List (Addr × Obj)} {n : Nat} {x : Int} {u t1 t2 t3 t4 : Tok} {value slice : PySem.Expr} {Q : Value → Shared → Prop} (N : News h₀ L s.heap news)
    (hm : (D, W.listOf #[.str (Str.ofString "a") t1, .str (Str.ofString "ab") t2, .str (Str.ofString "b") t3, .str (Str.ofString ".a") t4] n) ∈ news) (h : ∀ t, Q (.str (nm (Int.fmod x 4)) t) s)
    (hs : subscripted slice false (.ref D) (.int (Int.fmod x 4) u) = operate [.ref D, .int (Int.fmod x 4) u] (getItem (.ref D) (.int (Int.fmod x 4) u)) := by with_unfolding_all rfl) :
    wpAny (model prog w) A (subscriptTail value slice (.ref D) (.int (Int.fmod x 4) u)) Q E s := by
  have h0 : 0 ≤ Int.fmod x 4 := Int.fmod_nonneg_of_pos _ (by decide)
  have h1 : Int.fmod x 4 < 4 := Int.fmod_lt_of_pos _ (by decide)
  have hx : ∃ t, [Value.str (Str.ofString "a") t1, .str (Str.ofString "ab") t2, .str (Str.ofString "b") t3, .str (Str.ofString ".a") t4][(Int.fmod x 4).toNat]? = some (.str (nm (Int.fmod x 4)) t) := by
    generalize Int.fmod x 4 = k at h0 h1
    obtain rfl | rfl | rfl | rfl : k = 0 ∨ k = 1 ∨ k = 2 ∨ k = 3 := by omega
    · exact ⟨t1, rfl⟩
    · exact ⟨t2, rfl⟩
    · exact ⟨t3, rfl⟩
    · exact ⟨t4, rfl⟩
  obtain ⟨t, ht⟩ := hx
  exact sub_any N hm h0 (by omega) ht (h t) hs
theorem add_at {prog : Program} {w : World} {A : Around} {E : Value → Shared → Prop} {s : Shared} {Q : Value → Shared → Prop} {a b : Addr} (k : ∀ x, x = a → wpAny (model prog w) A (binaryOp .Add (.ref x) (.ref b)) Q E s) : wpAny (model prog w) A (binaryOp .Add (.ref a) (.ref b)) Q E s := k a rfl
theorem ce_at {h₀ : Heap} {L : Addr} {m : Str → Option Value} {s₁ s₂ : Shared} {I C D a : Addr} {oI oC oD : Obj} {S : List (Addr × Obj) → Prop} {rest : Value → List (Addr × Obj) → Prop} (k : ∀ y, y = a → CompEnd h₀ L m s₁ I oI C oC D oD S rest (.ref y) s₂) : CompEnd h₀ L m s₁ I oI C oC D oD S rest (.ref a) s₂ := k a rfl
theorem ne_cell {h₀ h : Heap} {L a b : Addr} {news : List (Addr × Obj)} {vs : List Value} {n : Nat} {o : Obj} {pv : Option Value} (N : News h₀ L h news) (h1 : (a, lstO vs n) ∈ news) (h2 : (b, o) ∈ news) (hd : o.data = .cell pv) : @Ne Nat a b := fun e => by
  have e1 := (N _ h1).1
  have e2 := (N _ h2).1
  dsimp only at e1 e2
  rw [e, e2] at e1
  have e3 := Option.some.inj e1
  rw [e3] at hd
  cases hd
theorem range_at {n : Nat} {pre post : List Nat} {a : Nat} (h : List.range n = pre ++ a :: post) : a = pre.length ∧ a < n := by
  have h1 : (List.range n)[pre.length]? = some a := by rw [h]; simp
  rw [List.getElem?_eq_some_iff] at h1
  obtain ⟨h2, h3⟩ := h1
  simp at h2 h3
  omega
theorem base_of {h₀ h : Heap} {L : Addr} {news : List (Addr × Obj)} {P : Prop} (_N : News h₀ L h news) (k : ∀ B, B = news → P) : P := k news rfl
local macro_rules | `(tactic| k_mem) => `(tactic| assumption)
local macro_rules | `(tactic| k_all) => `(tactic| assumption)
theorem wd17_1 : True := by
  (k_with "exec For Name BinOp cons nil" => (((rename Fr _ _ _ _ => lF'); (with_unfolding_all refine' For_turns lF' ?_; k_whole))))
  trivial
local macro_rules | `(tactic| walk_at "pyIter ref") => `(tactic| ((with_reducible show wpAny _ _ (pyIter (Value.ref _)) (fun it s₂ => TurnsAt _ _ _ _ _ _ _ _ _ it s₂) _ _); refine my_iter ?_))
theorem wd17_2 : True := by
  (k_with "eval ListComp" => ((k_dflt (first | ((with_reducible show wpAny _ _ (PySem.eval (PySem.Expr.ListComp _ [⟨_, _, [], _⟩] _ _) _) _ _ _); refine LCg.ListComp_U (F₀ := by k_asm) (by with_unfolding_all rfl) (by decide) (by rfl) (by decide) (by rfl) ?_) | refine LCt.ListComp_T (F₀ := by k_asm) (by with_unfolding_all rfl) (by decide) (by rfl) (by decide) (by rfl) ?_))))
  (k_with "CompSrcT" => ((refine my_src ?_)))
  (k_with "CompSrc" => ((refine my_src ?_)))
  (k_with "CompEnd" => ((refine my_src ?_)))
  (k_with "subscriptTail Name BinOp ref int" => ((k_dflt (refine' sub_names ?k1 ?k2 ?_ ?k7; (case k1 => k_asm); (case k2 => k_mem); (case k7 => with_unfolding_all rfl)); intro t')))
  (k_with "subscriptTail Name Slice ref ref" => ((refine my_src ?_)))
  (k_with "binaryOp Add ref ref" => ((refine my_src ?_)))
  (k_with "call builtin:len" => (((with_reducible show wpAny _ _ (call (Value.builtin "len") [Value.ref _]) _ _ _); k_dflt (refine' len_any ?k1 ?k2 ?k3 ?_; (case k1 => k_asm); (case k2 => k_mem); (case k3 => (simp only [List.length_map]; omega)); k_whole))))
  (k_with "compareOp NotIn ref ref" => (((with_reducible show wpAny _ _ (compareOp CmpOp.NotIn (Value.ref _) (Value.ref _)) _ _ _); k_dflt (refine' notin_rows ?k1 ?k2 ?k3 ?k4 ?k5 ?_; (case k1 => k_asm); (case k2 => k_mem); (case k3 => k_mem); (case k4 => (repeat (first | assumption | apply RowsIn.cons))); (case k5 => ktr_units); k_whole))))
  (k_with "call builtin:list.extend" => ((refine my_src ?_)))
  trivial
noncomputable def TreeInv (js : List Int) (sl : Addr) (vs : List Value) (n : Nat) (L' : Nat) (I X : Addr) (xs : List Row) (l : List Row) (news : List (Addr × Obj)) : Prop :=
  ∃ rr acc k o1 o2 pv tl2, news = (rr, lstO (acc.map rv) k) :: (L' + 1 + 1 + 1, o1) :: (L' + 1 + 1, o2) :: tl2 ∧ o1.data = .cell pv ∧ o2.data = .cell (some (.ref rr)) ∧ RowsIn tl2 acc ∧ RowsIn tl2 xs ∧ (∃ pre, xs = pre ++ l ∧ acc.length ≤ 3 * pre.length) ∧ (X, lstO (xs.map rv) 0) ∈ tl2 ∧ (sl, lstO vs n) ∈ tl2 ∧
    Off tl2 rr ∧ Off tl2 (L' + 1 + 1 + 1) ∧ Off tl2 (L' + 1 + 1) ∧ Off tl2 I ∧ (@Ne Nat rr (L' + 1 + 1 + 1)) ∧ (@Ne Nat rr (L' + 1 + 1)) ∧ (@Ne Nat rr I) ∧ (l.map rs).foldl treeStep (acc.map rs) = treeF js
theorem tree_spec (w : World) (loose : List Str) (mean : ExcName → Option Value) (mg mb : Str → Option Value) (sl : Addr) (vs : List Value) (js : List Int) (hi : IntsAre vs js) (hj : js.length ≤ 5) (n : Nat) :
    Spec2 w loose mean mg mb 196 [.ref sl] 4 [(sl, lstO vs n)] (fun r n' => ∃ D rows k, r = .ref D ∧ (D, lstO (rows.map rv) k) ∈ n' ∧ RowsIn n' rows ∧ rows.map rs = treeF js ∧ (sl, lstO vs n) ∈ n') := by
  unfold Spec2
  k_fill
  intro dp un gd cn cs a ccd cl outer A₀ base h₀ L m s Q E B F X N T hk hd hu hret
  refine wpAny_call ?_
  k_dflt (refine' code_cells2 ?k1 ?k2 ?k3 ?k4 ?k5 ?kA ?kF ?kK ?k6 ?k7 ?k8 ?k9 ?kB ?kD ?_ ?c2 ?c3 ?c4; (case kA => exact rfl); (case kF => exact rfl); (case kK => assumption); (case k1 => k_asm); (case k2 => k_asm); (case k3 => k_asm); (case k4 => k_asm); (case k5 => k_asm); (case k6 => k_is); (case k7 => k_is); (case k8 => ktr_room); (case k9 => exact BindsTo.of_eq rfl); (case kB => exact rfl); (case kD => decide +kernel); (case c2 => exact rfl); (case c3 => exact rfl); (case c4 => exact rfl); k_whole; intro g' L' h' tk' cells' FG' F' N' Y' B' X' T' l1; (try k_lt l1); k_cells Y'; (try simp only [List.cons_append, List.nil_append] at N'); (try dsimp only); (try k_fold))
  obtain ⟨mm, F'⟩ := fr_hide [(Str.ofString "script", .ref sl)] F' (all1 rfl)
  simp only [frl] at F'
  k_steps
  unfold MySrc
  rename Fr _ _ _ _ => lF
  rename News _ _ _ _ => lN
  refine base_of lN fun B hB => ?_
  refine CompSrc.ledger rfl lF lN (by k_mem) (by rw [sizeLine_eq, List.size_toArray, hi.length]; omega) (fun g => ?_)
  rw [← hB]
  clear lF lN
  refine compU_ind js (fun pre ys news => ∃ tl rows0, news = B ++ tl ∧ ys = rows0.map rv ∧ rows0.map rs = pre.map mkRow ∧ RowsIn tl rows0 ∧ ∀ q ∈ B, Off tl q.1) ?_ ?_ _ (by rw [List.size_toArray]; exact hi.length) ⟨[], [], by simp, rfl, rfl, allN, fun q hq p hp => nomatch hp⟩
  · rintro pre a post ys news v hl hP ⟨tl, rows0, rfl, rfl, hrs, hin, hoff⟩ I₁ oI C oC D m₂ h₂ tk₂ E' hC hx2 F₂ N₂ off ne
    obtain ⟨ta, rfl⟩ : ∃ ta, v = .int a ta := by
      obtain ⟨ta, e⟩ := hi.get pre.length a (by rw [hl]; simp)
      have hP' : vs[pre.length]? = some v := by simpa using hP
      rw [e] at hP'
      exact ⟨ta, (Option.some.inj hP').symm⟩
    have hfm : 0 ≤ Int.fmod a 3 := Int.fmod_nonneg_of_pos _ (by decide)
    have hfm3 : Int.fmod a 3 < 3 := Int.fmod_lt_of_pos _ (by decide)
    have hBs : SrcAt g' sl vs.toArray B := .inr ⟨lstO vs n, by subst hB; k_mem, rfl, _, rfl⟩
    subst hB
    simp only [List.cons_append, List.nil_append] at N₂ off
    simp only [LCg.Off3] at off
    obtain ⟨b1, b2, b3, b4, b5, b6, b7, b8, b9, b10, bt⟩ := off
    k_steps
    unfold MySrc
    with_reducible show wpAny _ _ (subscriptTail _ (PySem.Expr.Slice _ _ none _) (Value.ref _) (Value.ref _)) _ _ _
    refine' kms_slice_lit ?jF ?jN ?jl ?jp ?jq ?je ?_ ?js ?jt ?jz
    case jF => k_asm
    case jN => k_asm
    case jl => exact News.isList (by k_asm) (by k_mem)
    case jp => kmk_part
    case jq => kmk_part
    case je => exact pickS (l := [(_, _), (_, _), (_, _)]) (by omega)
    case js => with_unfolding_all rfl
    case jt => kmk_pure
    case jz => exact Nat.le_of_ble_eq_true rfl
    intro y h9 F9 N9 l9
    k_steps
    unfold MySrc
    refine base_of N9 fun B9 hB9 => ?_
    obtain ⟨l0, hy, hf⟩ : ∃ l0 : List (Str × Tok), (y, lstO ((l0.take (Int.fmod a 3 + 1).toNat).map sval) 0) ∈ B9 ∧ fs l0 = [nm (Int.fmod (Int.fdiv a 3) 4), nm (Int.fmod (Int.fdiv a 12) 4), nm (Int.fmod (Int.fdiv a 48) 4)] := by
      subst hB9
      exact ⟨[(_, _), (_, _), (_, _)], by k_mem, rfl⟩
    rw [hB9] at hy
    refine CompEnd.intro F9 N9 _ ?sub ?off ?S ⟨(y, lstO ((l0.take (Int.fmod a 3 + 1).toNat).map sval) 0) :: tl, rows0 ++ [(y, l0.take (Int.fmod a 3 + 1).toNat, 0)], rfl, by rw [List.map_append]; rfl, ?e2, ?e3, ?e4⟩
    case e3 => exact RowsIn.append (RowsIn.cons hin) (all1 (.head _))
    case e2 =>
      have e9 : rs (y, l0.take (Int.fmod a 3 + 1).toNat, 0) = mkRow a := by
        show List.map (·.1) (l0.take _) = _
        rw [List.map_take]
        show (fs l0).take _ = _
        rw [hf]; rfl
      rw [List.map_append, List.map_append, hrs]
      simp only [List.map_cons, List.map_nil, e9]
    case e4 => exact fun q hq => Off.cons (hoff q hq) (Nat.ne_of_gt (l9 q (.tail _ (.tail _ (.tail _ (.tail _ (List.mem_append_left tl hq)))))))
    case S => exact hBs.elim .inl fun ⟨o, q1, q2⟩ => .inr ⟨o, List.mem_append_left _ q1, q2⟩
    case off => exact ⟨b1, b2, b3, b4, b5, b6, b7, b8, b9, b10, ⟨Nat.ne_of_gt (l9 _ (.tail _ (.head _))), Nat.ne_of_gt (l9 _ (.tail _ (.tail _ (.head _)))), Nat.ne_of_gt (l9 _ (.tail _ (.tail _ (.tail _ (.head _)))))⟩, bt⟩
    case sub =>
      try simp only [List.cons_append, List.nil_append]
      repeat (refine allC (by first | exact hy | k_mem) ?_)
      intro p hp
      repeat (first | exact hp | refine List.mem_cons_of_mem _ ?_)
  · rintro ys news ⟨tl, rows0, rfl, rfl, hrs, hin, hoff⟩
    intro D9 h8 tk8 F8 N8 off8
    subst hB
    simp only [List.cons_append, List.nil_append] at N8 off8
    simp only [LCg.Off1] at off8
    have hr0 : rows0.length ≤ 5 := by
      have := congrArg List.length hrs
      simp only [List.length_map] at this
      omega
    k_steps
    unfold MySrc
    rename Fr _ _ _ _ => lF
    rename News _ _ _ _ => lN
    refine base_of lN fun B hB => ?_
    refine add_at fun lx hlx => ?_
    obtain ⟨a1, a2, a3, t1, t2, t3, t4, t5, t6, t7, rr, kk, o1, o2, pv, hr1, hr2, hr3, hrr, ho1, ho2, hd1, hd2, hlx, hsl, hn1, hn2, hn3, hn4, ht1, ht2, ht3⟩ : ∃ a1 a2 a3 t1 t2 t3 t4 t5 t6 t7 rr kk o1 o2 pv, (a1, lstO ([(Str.ofString "a", t1), (Str.ofString "ab", t2)].map sval) 0) ∈ B ∧ (a2, lstO ([(Str.ofString "ab", t3), (Str.ofString "b", t4)].map sval) 0) ∈ B ∧ (a3, lstO ([(Str.ofString "b", t5), (Str.ofString ".a", t6), (Str.ofString "a", t7)].map sval) 0) ∈ B ∧
        (rr, lstO [] kk) ∈ B ∧ (L' + 1 + 1 + 1, o1) ∈ B ∧ (L' + 1 + 1, o2) ∈ B ∧ o1.data = .cell pv ∧ o2.data = .cell (some (.ref rr)) ∧ (lx, W.listOf #[.ref a1, .ref a2, .ref a3] 0) ∈ B ∧ (sl, lstO vs n) ∈ B ∧ (@Ne Nat a1 rr) ∧ (@Ne Nat a2 rr) ∧ (@Ne Nat a3 rr) ∧ (@Ne Nat sl rr) ∧ Off tl rr ∧ Off tl (L' + 1 + 1 + 1) ∧ Off tl (L' + 1 + 1) := by
      subst hB hlx
      exact ⟨_, _, _, _, _, _, _, _, _, _, _, _, _, _, _, by k_mem, by k_mem, by k_mem, by k_mem, by k_mem, by k_mem, by assumption, by assumption, by k_mem, by k_mem, by k_ne, by k_ne, by k_ne, by k_ne, hoff (_, _) (by k_mem), hoff (_, _) (by k_mem), hoff (_, _) (by k_mem)⟩
    have hD9 : (D9, lstO (rows0.map rv) (rows0.map rv).length) ∈ B := by subst hB; exact .head _
    have htl : ∀ p ∈ tl, p ∈ B := by subst hB; intro p hp; simp only [List.mem_cons]; grind
    rw [← hB] at lN
    have hq1 := ne_cell lN hrr ho1 hd1
    have hq2 := ne_cell lN hrr ho2 hd2
    refine kmk_add_lit (zs := List.map rv ((a1, [(Str.ofString "a", t1), (Str.ofString "ab", t2)], 0) :: (a2, [(Str.ofString "ab", t3), (Str.ofString "b", t4)], 0) :: (a3, [(Str.ofString "b", t5), (Str.ofString ".a", t6), (Str.ofString "a", t7)], 0) :: rows0)) lF lN (News.isList lN hlx) (News.isList lN hD9) rfl ?_ ?jz
    case jz => simp only [List.length_map, sizeLine_eq, List.length_cons, List.length_nil]; omega
    generalize hxs : ((a1, [(Str.ofString "a", t1), (Str.ofString "ab", t2)], 0) :: (a2, [(Str.ofString "ab", t3), (Str.ofString "b", t4)], 0) :: (a3, [(Str.ofString "b", t5), (Str.ofString ".a", t6), (Str.ofString "a", t7)], 0) :: rows0 : List Row) = xs
    have hxin : RowsIn ((a1, lstO ([(Str.ofString "a", t1), (Str.ofString "ab", t2)].map sval) 0) :: (a2, lstO ([(Str.ofString "ab", t3), (Str.ofString "b", t4)].map sval) 0) :: (a3, lstO ([(Str.ofString "b", t5), (Str.ofString ".a", t6), (Str.ofString "a", t7)].map sval) 0) :: tl) xs := by
      subst hxs
      exact allC (.head _) (allC (.tail _ (.head _)) (allC (.tail _ (.tail _ (.head _))) (RowsIn.cons (RowsIn.cons (RowsIn.cons hin)))))
    have hx3 : ∀ p ∈ xs, p.2.1.length ≤ 3 := by
      subst hxs
      refine allC (Nat.le_of_ble_eq_true rfl) (allC (Nat.le_of_ble_eq_true rfl) (allC (Nat.le_of_ble_eq_true rfl) fun p hp => ?_))
      have : rs p ∈ js.map mkRow := hrs ▸ List.mem_map_of_mem hp
      obtain ⟨j, _, hj⟩ := List.mem_map.mp this
      have e := congrArg List.length hj
      simp only [rs, fs, List.length_map, mkRow, List.length_take, List.length_cons, List.length_nil] at e
      omega
    have hxf : (xs.map rs).foldl treeStep [] = treeF js := by
      subst hxs
      rw [treeF, ← hrs]; rfl
    have hxl : xs.length ≤ 8 := by
      subst hxs
      simp only [List.length_cons]; omega
    intro X9 h9 F9 N9 l9
    have N10 : News _ _ _ ((rr, lstO (([] : List Row).map rv) kk) :: (L' + 1 + 1 + 1, o1) :: (L' + 1 + 1, o2) :: (X9, lstO (xs.map rv) 0) :: (sl, lstO vs n) :: (a1, lstO ([(Str.ofString "a", t1), (Str.ofString "ab", t2)].map sval) 0) :: (a2, lstO ([(Str.ofString "ab", t3), (Str.ofString "b", t4)].map sval) 0) :: (a3, lstO ([(Str.ofString "b", t5), (Str.ofString ".a", t6), (Str.ofString "a", t7)].map sval) 0) :: tl) :=
      fun p hp => N9 p (allC (.tail _ hrr) (allC (.tail _ ho1) (allC (.tail _ ho2) (allC (.head _) (allC (.tail _ hsl) (allC (.tail _ hr1) (allC (.tail _ hr2) (allC (.tail _ hr3) fun p hp => .tail _ (htl p hp)))))))) p hp)
    have cX1 := ne_cell N10 (a := X9) (vs := xs.map rv) (n := 0) (by k_mem) (.tail _ (.head _)) hd1
    have cX2 := ne_cell N10 (a := X9) (vs := xs.map rv) (n := 0) (by k_mem) (.tail _ (.tail _ (.head _))) hd2
    have cs1 := ne_cell N10 (a := sl) (by k_mem) (.tail _ (.head _)) hd1
    have cs2 := ne_cell N10 (a := sl) (by k_mem) (.tail _ (.tail _ (.head _))) hd2
    have ca1 := ne_cell N10 (a := a1) (by k_mem) (.tail _ (.head _)) hd1
    have ca2 := ne_cell N10 (a := a1) (by k_mem) (.tail _ (.tail _ (.head _))) hd2
    have cb1 := ne_cell N10 (a := a2) (by k_mem) (.tail _ (.head _)) hd1
    have cb2 := ne_cell N10 (a := a2) (by k_mem) (.tail _ (.tail _ (.head _))) hd2
    have cc1 := ne_cell N10 (a := a3) (by k_mem) (.tail _ (.head _)) hd1
    have cc2 := ne_cell N10 (a := a3) (by k_mem) (.tail _ (.tail _ (.head _))) hd2
    clear N9
    k_steps
    unfold MyIter
    refine iter_listTurns (ax := X9) (lo := lstO (xs.map rv) 0) rfl F9 N10 (by k_mem) rfl rfl ?_
    intro I hI
    refine items_ind rv (fun l m news => TreeInv js sl vs n L' I X9 xs l news) ?done ?step ?keeps xs _ _ ?init
    case init =>
      refine ⟨rr, [], kk, o1, o2, pv, _, rfl, hd1, hd2, RowsIn.nil, RowsIn.cons (RowsIn.cons hxin), ⟨[], rfl, by simp⟩, .head _, .tail _ (.head _), ?_, ?_, ?_, fun p hp => Nat.ne_of_lt (hI p (.tail _ (.tail _ (.tail _ hp)))), hq1, hq2, Nat.ne_of_lt (hI _ (.head _)), hxf⟩
      · exact Off.cons (Off.cons (Off.cons (Off.cons (Off.cons ht1 hn3) hn2) hn1) hn4) (Nat.ne_of_gt (l9 _ hrr))
      · exact Off.cons (Off.cons (Off.cons (Off.cons (Off.cons ht2 cc1) cb1) ca1) cs1) cX1
      · exact Off.cons (Off.cons (Off.cons (Off.cons (Off.cons ht3 cc2) cb2) ca2) cs2) cX2
    case keeps =>
      rintro l m9 news ⟨rr, acc, k, o1, o2, pv, tl2, rfl, _, _, _, _, _, hX, _⟩
      exact ⟨.tail _ (.tail _ (.tail _ hX)), trivial⟩
    case done =>
      rintro m9 news h10 tk10 ⟨rr, acc, k, o1, o2, pv, tl2, rfl, hd1, hd2, hacc, hxin, _, hX, hsl, ho1, ho2, ho3, ho4, hq1, hq2, hq3, hfold⟩ F10 N11
      obtain ⟨mm9, F10⟩ := fr_hide [] F10 allN
      simp only [frl] at F10
      k_steps
      exact leave2 (by assumption) (by assumption) fun kF kN kK => hret _ _ _ _ kF kN kK ⟨rr, acc, k, rfl, .head _, RowsIn.cons (RowsIn.cons (RowsIn.cons hacc)), hfold, .tail _ (.tail _ (.tail _ hsl))⟩
    case step =>
      rintro Nx ⟨ap, rl, kp⟩ r m9 news h10 tk10 o ⟨rr, acc, k, o1, o2, pv, tl2, rfl, hd1, hd2, hacc, hxin, ⟨pre9, hpre9, hal⟩, hX, hsl, ho1, ho2, ho3, ho4, hq1, hq2, hq3, hfold⟩ hc F10 N11 hnext
      have hin9 : (ap, rl, kp) ∈ xs := by rw [hpre9]; simp
      have hrow : (ap, lstO (rl.map sval) kp) ∈ tl2 := hxin _ hin9
      have hl3 : rl.length ≤ 3 := hx3 _ hin9
      have hL1 : @Ne Nat (L' + 1 + 1 + 1) I := Nat.ne_of_lt (hI _ (.tail _ (.head _)))
      have hL2 : @Ne Nat (L' + 1 + 1) I := Nat.ne_of_lt (hI _ (.tail _ (.tail _ (.head _))))
      obtain ⟨mm9, F10⟩ := fr_hide [] F10 allN
      simp only [frl] at F10
      k_steps
      unfold MySrc
      rename IsRange _ _ _ _ _ _ _ _ => lR
      rename Fr _ _ _ _ => lF
      rename News _ _ _ _ => lN
      obtain ⟨o', hd1', lN2⟩ : ∃ o' : Obj, o'.data = .cell (some (.ref ap)) ∧ News _ _ _ ((rr, lstO (acc.map rv) k) :: (L' + 1 + 1 + 1, o') :: (L' + 1 + 1, o2) :: (I, o) :: tl2) :=
        ⟨_, by assumption, fun p hp => lN p (allC (.tail _ (.head _)) (allC (.tail _ (.tail _ (.head _))) (allC (.tail _ (.tail _ (.tail _ (.head _)))) (allC (.head _) fun p hp => .tail _ (.tail _ (.tail _ (.tail _ hp)))))) p hp)⟩
      simp only [List.length_map] at lR
      have hrs9 : Builtin.Range.rangeSize 1 ((rl.length : Int) + 1) 1 = ((rl.length : Nat) : Int) := by
        unfold Builtin.Range.rangeSize
        rw [if_pos (by decide)]
        by_cases q : (1 : Int) < (rl.length : Int) + 1
        · rw [if_pos q]; omega
        · rw [if_neg q]; omega
      refine CompSrcT.range (n := rl.length) rfl lF lN2 lR (small_one (by omega) (by omega) (by omega) (by omega)) hrs9 (by rw [sizeLine_eq]; omega) (fun g => ?_)
      clear lN lN2 lF
      refine compT_ind (List.range rl.length) (fun pre ys news => ∃ tl3 nr, news = (rr, lstO (acc.map rv) k) :: (L' + 1 + 1 + 1, o') :: (L' + 1 + 1, o2) :: (I, o) :: tl3 ∧ (∀ p ∈ tl2, p ∈ tl3) ∧ Off tl3 rr ∧ Off tl3 (L' + 1 + 1 + 1) ∧ Off tl3 (L' + 1 + 1) ∧ Off tl3 I ∧ ys = nr.map rv ∧ RowsIn tl3 nr ∧
        nr.map rs = (pre.map fun i => (fs rl).take (i + 1)).filter (fun q => !((acc.map rs).any fun z => z == q))) ?_ ?_ _ (by simp) ⟨tl2, [], rfl, fun p hp => hp, ho1, ho2, ho3, ho4, rfl, RowsIn.nil, rfl⟩
      · rintro pre a post ys news v hl ⟨tv, rfl⟩ ⟨tl3, nr, rfl, hsub, q1, q2, q3, q4, rfl, hnr, hfil⟩ I₁ oI C oC Dc m₂ h₂ tk₂ E' hC hx2 F₂ N₂ off ne
        obtain ⟨ha, han⟩ := range_at hl
        simp only [LCg.Off3] at off
        obtain ⟨b1, b2, b3, b4, bt⟩ := off
        have hrow3 := hsub _ hrow
        have hacc3 : RowsIn tl3 acc := RowsIn.sub hacc hsub
        have hk9 : (1 + (pre.length : Int)).toNat = pre.length + 1 := by omega
        have hfs : fs (List.take (1 + (pre.length : Int)).toNat rl) = (fs rl).take (a + 1) := by rw [hk9, ha, fs, List.map_take]
        k_steps
        unfold MySrc
        with_reducible show wpAny _ _ (subscriptTail _ (PySem.Expr.Slice _ _ none _) (Value.ref _) (Value.ref _)) _ _ _
        refine' kms_slice_lit ?jF ?jN ?jl ?jp ?jq ?je ?_ ?js ?jt ?jz
        case jF => k_asm
        case jN => k_asm
        case jl => exact News.isList (by k_asm) (by k_mem)
        case jp => kmk_part
        case jq => kmk_part
        case je => exact pickS (l := rl) (by omega)
        case js => with_unfolding_all rfl
        case jt => kmk_pure
        case jz => (simp only [List.size_toArray, List.length_map, sizeLine_eq]; omega)
        intro y1 h1 F1 N1 l1
        k_lt l1
        k_steps
        · unfold MySrc
          rename (_ = true) => hany
          refine CompEnd.intro F1 N1 _ ?sub ?off trivial ⟨tl3, nr, rfl, hsub, q1, q2, q3, q4, rfl, hnr, ?g5⟩
          case off => exact ⟨b1, b2, b3, b4, bt⟩
          case g5 =>
            have hp9 : (!((acc.map rs).any fun z => z == (fs rl).take (a + 1))) = false := by rw [← hfs, hany]; rfl
            rw [List.map_append, List.filter_append, hfil]
            simp only [List.map_cons, List.map_nil, List.filter_cons, hp9, Bool.false_eq_true, if_false, List.filter_nil, List.append_nil]
          case sub =>
            repeat (refine allC (by k_mem) ?_)
            intro p hp
            repeat (first | exact hp | refine List.mem_cons_of_mem _ ?_)
        · rename (_ = false) => hany
          unfold MySrc
          with_reducible show wpAny _ _ (subscriptTail _ (PySem.Expr.Slice _ _ none _) (Value.ref _) (Value.ref _)) _ _ _
          refine' kms_slice_lit ?jF ?jN ?jl ?jp ?jq ?je ?_ ?js ?jt ?jz
          case jF => k_asm
          case jN => k_asm
          case jl => exact News.isList (by k_asm) (by k_mem)
          case jp => kmk_part
          case jq => kmk_part
          case je => exact pickS (l := rl) (by omega)
          case js => with_unfolding_all rfl
          case jt => kmk_pure
          case jz => (simp only [List.size_toArray, List.length_map, sizeLine_eq]; omega)
          intro y2 h2 F2 N2 l2
          have l3 := l2
          k_lt l3
          k_steps
          unfold MySrc
          refine CompEnd.intro F2 N2 _ ?sub ?off trivial ⟨(y2, lstO ((rl.take (1 + (pre.length : Int)).toNat).map sval) 0) :: tl3, nr ++ [(y2, rl.take (1 + (pre.length : Int)).toNat, 0)], rfl, fun p hp => .tail _ (hsub p hp), ?g1, ?g2, ?g3, ?g4, by rw [List.map_append]; rfl, RowsIn.append (RowsIn.cons hnr) (all1 (.head _)), ?g5⟩
          case g1 => exact Off.cons q1 (Nat.ne_of_gt (l2 _ (.tail _ (.tail _ (.tail _ (.tail _ (.head _)))))))
          case g2 => exact Off.cons q2 (Nat.ne_of_gt (l2 _ (.tail _ (.tail _ (.tail _ (.tail _ (.tail _ (.head _))))))))
          case g3 => exact Off.cons q3 (Nat.ne_of_gt (l2 _ (.tail _ (.tail _ (.tail _ (.tail _ (.tail _ (.tail _ (.head _)))))))))
          case g4 => exact Off.cons q4 (Nat.ne_of_gt (l2 _ (.tail _ (.tail _ (.tail _ (.tail _ (.tail _ (.tail _ (.tail _ (.head _))))))))))
          case g5 =>
            have e9 : rs (y2, rl.take (1 + (pre.length : Int)).toNat, 0) = (fs rl).take (a + 1) := hfs
            have hp9 : (!((acc.map rs).any fun z => z == (fs rl).take (a + 1))) = true := by rw [← hfs, hany]; rfl
            rw [List.map_append, List.map_append, List.filter_append, hfil]
            simp only [List.map_cons, List.map_nil, e9, List.filter_cons, hp9, if_true, List.filter_nil]
          case off => exact ⟨b1, b2, b3, b4, ⟨Nat.ne_of_gt (l2 _ (.tail _ (.head _))), Nat.ne_of_gt (l2 _ (.tail _ (.tail _ (.head _)))), Nat.ne_of_gt (l2 _ (.tail _ (.tail _ (.tail _ (.head _)))))⟩, bt⟩
          case sub =>
            repeat (refine allC (by k_mem) ?_)
            intro p hp
            repeat (first | exact hp | refine List.mem_cons_of_mem _ ?_)
      · rintro ys news ⟨tl3, nr, rfl, hsub, q1, q2, q3, q4, rfl, hnr, hfil⟩
        intro D9 h8 tk8 F8 N8 off8
        simp only [LCg.Off1] at off8
        have hnl : nr.length ≤ 3 := by
          have e := congrArg List.length hfil
          rw [List.length_map] at e
          have e2 := List.length_filter_le (fun q => !((acc.map rs).any fun z => z == q)) ((List.range rl.length).map fun i => (fs rl).take (i + 1))
          rw [List.length_map, List.length_range] at e2
          omega
        have hal2 : acc.length ≤ 100 := by
          have := congrArg List.length hpre9
          rw [List.length_append] at this
          omega
        k_steps
        unfold MySrc
        rename Fr _ _ _ _ => lF
        rename News _ _ _ _ => lN
        refine' extend_F lF lN ?x1 ?x2 ?x3 ?x4 ?x5 ?_
        case x1 => k_mem
        case x2 => k_ne
        case x3 => k_updF
        case x4 => rw [List.length_map]; omega
        case x5 => rw [List.length_map]; omega
        clear lF lN
        intro h11 n2 F11 N11
        k_steps
        refine unr_one F11 (fun p hp => N11 p (allC (.tail _ (.tail _ (.tail _ (.tail _ (.head _))))) (allC (.tail _ (.head _)) (allC (.tail _ (.tail _ (.head _))) (allC (.tail _ (.tail _ (.tail _ (.head _)))) fun p hp => .tail _ (.tail _ (.tail _ (.tail _ (.tail _ hp))))))) p hp)) (allC hq3 (allC hL1 (allC hL2 q4))) (hnext _ _ ⟨rr, acc ++ nr, n2, o', o2, _, tl3, ?e1, hd1', hd2, RowsIn.append (RowsIn.sub hacc hsub) hnr, RowsIn.sub hxin hsub, ⟨pre9 ++ [(ap, rl, kp)], ?e2, ?e3⟩, hsub _ hX, hsub _ hsl, q1, q2, q3, q4, hq1, hq2, hq3, ?e4⟩)
        case e1 => rw [List.map_append]
        case e2 => rw [hpre9, List.append_assoc]; rfl
        case e3 => simp only [List.length_append, List.length_cons, List.length_nil]; omega
        case e4 =>
          have e : (acc ++ nr).map rs = treeStep (acc.map rs) (rs (ap, rl, kp)) := by
            have e3 : (rs (ap, rl, kp)).length = rl.length := by simp [rs, fs]
            rw [List.map_append, hfil, treeStep, e3]; rfl
          rw [e]; exact hfold
theorem wd17_off : True := by
  k_with_none
  trivial
end Mine
namespace Mine
open PyProof.Rows.LCg PyProof.Rows.LCt
theorem Spec3.frame {w : World} {loose : List Str} {mean : ExcName → Option Value} {mg mb : Str → Option Value} {f : Addr} {args : List Value} {need n : Nat} {news rest : List (Addr × Obj)} {P : Value → List (Addr × Obj) → Prop}
    (C : Spec3 w loose mean mg mb f args need news n P) (hoff : ∀ p ∈ rest, p.1 ∉ news.map (·.1)) : Spec3 w loose mean mg mb f args need (news ++ rest) n (fun r n' => ∃ n1, n' = n1 ++ rest ∧ P r n1) := by
  intro dp un gd cn cs a ccd cl outer A₀ base h₀ L m s Q E hn B F X N T hk hd hu hret
  refine C dp un gd cn cs a ccd cl outer A₀ base h₀ L m s Q E hn B F X (fun p hp => N p (List.mem_append_left _ hp)) T hk hd hu fun r news' h' tk' F' N' K' P' => hret r (news' ++ rest) h' tk' F' (fun p hp => ?_) (fun b o e nb => K' b o e fun hb => nb ?_) ⟨news', rfl, P'⟩
  · rcases List.mem_append.mp hp with hp | hp
    · exact N' p hp
    · exact ⟨K' _ _ (N p (List.mem_append_right _ hp)).1 (hoff p hp), (N p (List.mem_append_right _ hp)).2⟩
  · rw [List.map_append]; exact List.mem_append_left _ hb
theorem Spec3.mono {w : World} {loose : List Str} {mean : ExcName → Option Value} {mg mb : Str → Option Value} {f : Addr} {args : List Value} {need n : Nat} {news : List (Addr × Obj)} {P P' : Value → List (Addr × Obj) → Prop}
    (C : Spec3 w loose mean mg mb f args need news n P) (h : ∀ r n', P r n' → P' r n') : Spec3 w loose mean mg mb f args need news n P' := by
  intro dp un gd cn cs a ccd cl outer A₀ base h₀ L m s Q E hn B F X N T hk hd hu hret
  exact C dp un gd cn cs a ccd cl outer A₀ base h₀ L m s Q E hn B F X N T hk hd hu fun r news' h' tk' F' N' K' P' => hret r news' h' tk' F' N' K' (h r news' P')
theorem Spec3.useF {w : World} {loose : List Str} {mean : ExcName → Option Value} {mg mb : Str → Option Value} {f : Addr} {args : List Value} {need n : Nat} {news big : List (Addr × Obj)} {P : Value → List (Addr × Obj) → Prop}
    {dp un : Nat} {gd : Option (List Code)} {cn : Str} {cs : Scope} {a : Addr} {ccd : Value} {cl : List (Str × Addr)} {outer : List Env} {A₀ : Around} {base h₀ : Heap} {L : Addr} {m : Str → Option Value} {s : Shared} {Q E : Value → Shared → Prop}
    (ht : Tk n s.toks) (B : Below A₀ base outer h₀) (F : Fr h₀ L s.heap m) (X : (hd0.heap_1 w.params).In h₀) (N : News h₀ L s.heap big) (T : Top topProg loose mean mg mb h₀) (hk : cs.kind = .function)
    (C : Spec3 w loose mean mg mb f args need news n P) (rest : List (Addr × Obj)) (sub : ∀ p ∈ news ++ rest, p ∈ big) (hoff : ∀ p ∈ rest, p.1 ∉ news.map (·.1)) (hd : dp + need < recursionLimit) (hu : un + 8 * need < cLine)
    (ret : ∀ r n1 h' tk', Fr h₀ L h' m → News h₀ L h' (n1 ++ rest) → P r n1 → Q r { s with heap := h', toks := tk' }) :
    wpAny (model PySem.Challenge.rw_il0042_01.prog w) (ktrTop dp un gd cn cs L a ccd cl outer) (call (.ref f) args) Q E s :=
  (C.frame hoff) dp un gd cn cs a ccd cl outer A₀ base h₀ L m s Q E ht B F X (fun p hp => N p (sub p hp)) T hk hd hu fun r news' h' tk' F' N' K' ⟨n1, e, P'⟩ => ret r n1 h' tk' F' (e ▸ N') P'
noncomputable def partsOf (p : Str) : List Str :=
  if p = Str.ofString "*" then [Str.ofString "*"] else if p = Str.ofString "a*" then [Str.ofString "a", Str.ofString "*"] else if p = Str.ofString "?" then [Str.ofString "?"] else if p = Str.ofString "*b" then [Str.ofString "*", Str.ofString "b"]
  else if p = Str.ofString "[!a]*" then [Str.ofString "[^a]", Str.ofString "*"] else [Str.ofString "\\.", Str.ofString "?"]
noncomputable def pats : List Str := [Str.ofString "*", Str.ofString "a*", Str.ofString "?", Str.ofString "*b", Str.ofString "[!a]*", Str.ofString ".?"]
noncomputable def TrP (pat : Str) (r : Value) (n' : List (Addr × Obj)) : Prop := ∃ D tl, ∃ ps : List (Str × Tok), ∃ k ps', TabOk ps' ∧ r = .ref D ∧ n' = (D, lstO (ps.map sval) k) :: (tl ++ [(158, tabObj ps')]) ∧ fs ps = partsOf pat
theorem tr_up {w : World} {loose : List Str} {mean : ExcName → Option Value} {mg mb : Str → Option Value} {args : List Value} {n : Nat} {pat : Str} {o : List Str} {p0 : Array Value} (hp0 : TabOk p0) (ho : o = partsOf pat)
    (C : Spec3 w loose mean mg mb 163 args 5 [] n (fun r n' => ∃ D tl, ∃ ps : List (Str × Tok), ∃ k, r = .ref D ∧ n' = (D, lstO (ps.map sval) k) :: tl ∧ ps.map (·.1) = o)) : Spec3 w loose mean mg mb 163 args 5 [(158, tabObj p0)] n (TrP pat) := by
  have C2 := Spec3.frame (rest := [(158, tabObj p0)]) C (fun p hp hm => nomatch hm)
  refine Spec3.mono C2 ?_
  rintro r n' ⟨n1, rfl, D, tl, ps, k, e1, rfl, e3⟩
  exact ⟨D, tl, ps, k, p0, hp0, e1, rfl, e3.trans ho⟩
theorem tr_spec (w : World) (loose : List Str) (mean : ExcName → Option Value) (mg mb : Str → Option Value) (n : Nat) (pat : Str) (hp : pat ∈ pats) (t t2 t3 : Nat) (p0 : Array Value) (hp0 : TabOk p0) (ht0 : 0 < t2) (ht2 : t2 < n) :
    Spec3 w loose mean mg mb 163 [.str pat t, .str (Str.ofString "*") t2, .str (Str.ofString "?") t3] 5 [(158, tabObj p0)] n (TrP pat) := by
  simp only [pats, List.mem_cons, List.mem_nil_iff, or_false] at hp
  rcases hp with rfl | rfl | rfl | rfl | rfl | rfl
  · exact tr_up hp0 (by decide +kernel) (tr0 _ _ _ _ _ _ _ _ _ ht0 ht2)
  · exact tr_up hp0 (by decide +kernel) (tr1 _ _ _ _ _ _ _ _ _ ht0 ht2)
  · exact tr_up hp0 (by decide +kernel) (tr2 _ _ _ _ _ _ _ _ _ ht0 ht2)
  · exact tr_up hp0 (by decide +kernel) (tr3 _ _ _ _ _ _ _ _ _ ht0 ht2)
  · refine Spec3.mono (tr4 _ _ _ _ _ _ _ _ _ p0 hp0 ht0 ht2) ?_
    rintro r n' ⟨D, tl, ps, k, ps', h0, e1, e2, e3⟩
    exact ⟨D, tl, ps, k, ps', h0, e1, e2, e3.trans (by decide +kernel)⟩
  · exact tr_up hp0 (by decide +kernel) (tr5 _ _ _ _ _ _ _ _ _ ht0 ht2)
section
variable {prog : Program} {w : World} {A : Around} {E : Value → Shared → Prop} {s : Shared} {h₀ : Heap} {L : Addr} {m : Str → Option Value} {env : Env}
theorem pos_ind {α : Type} {elt : PySem.Expr} {x : Str} {scope : Scope} {cl : List (Str × Addr)} {S : List (Addr × Obj) → Prop} {Fin : List Value → List (Addr × Obj) → Prop} {news : List (Addr × Obj)} (val : α → Value) (l : List α) (Inv : List α → List Value → List (Addr × Obj) → Prop)
    (turn : ∀ pre a post ys news, l = pre ++ a :: post → Inv pre ys news → ∀ I oI C oC D m₂ h tk (E' : Value → Shared → Prop), 0 < tk → oI.cls = .type "list_iterator" → NsObj oC m₂ → m₂ x = some (val a) → Fr h₀ L h m → News h₀ L h ((I, oI) :: (C, oC) :: (D, lst ys) :: news) → Off3 I C D news → ((@Ne Nat I C) ∧ (@Ne Nat I D) ∧ (@Ne Nat C D)) →
      wpAny (model prog w) A (eval elt (compEnvC scope cl C env)) (CompEnd h₀ L m { s with heap := h, toks := tk } I oI C oC D (lst ys) S (fun y news' => Inv (pre ++ [a]) (ys ++ [y]) news')) E' { s with heap := h, toks := tk })
    (fin : ∀ ys news, Inv l ys news → Fin ys news) (h0 : Inv [] [] news) :
    PosRest prog w A h₀ L m env elt x scope cl s S Fin (l.map val) [] news := by
  have go : ∀ (post pre : List α) ys news, l = pre ++ post → Inv pre ys news → PosRest prog w A h₀ L m env elt x scope cl s S Fin (post.map val) ys news := by
    intro post
    induction post with
    | nil =>
      intro pre ys news hl hi
      rw [List.append_nil] at hl
      exact fin _ _ (hl ▸ hi)
    | cons a post ih =>
      intro pre ys news hl hi
      intro I oI C oC D m₂ h tk E' htk hcI hC hx F N off ne
      refine wpAny_mono (turn pre a post ys news hl hi I oI C oC D m₂ h tk E' htk hcI hC hx F N off ne) (fun y s' hy => ?_) fun _ _ q => q
      obtain ⟨h', tk', news', e, F', N', off', hS', hi'⟩ := hy
      exact ⟨h', tk', news', e, F', N', off', hS', ih (pre ++ [a]) _ _ (by rw [hl, List.append_assoc]; rfl) hi'⟩
  exact go l [] [] news rfl h0
end
end Mine
namespace Mine
noncomputable def kids (P : List (Str × Str)) (parts : List (List Str)) (e : Str × Int) : List (Str × Int) :=
  (P.filter fun p => p.1 == e.1 && takesF p.2 (parts.getD e.2.toNat [])).map fun p => (joinF e.1 p.2, e.2 + 1)
noncomputable def lv (P : List (Str × Str)) (parts : List (List Str)) : Nat → Str × Int → List Str
  | 0, e => [e.1]
  | f + 1, e => (kids P parts e).flatMap (lv P parts f)
noncomputable def wt (P : List (Str × Str)) (parts : List (List Str)) : Nat → Str × Int → Nat
  | 0, _ => 1
  | f + 1, e => 1 + ((kids P parts e).map (wt P parts f)).sum
noncomputable def lvE (P : List (Str × Str)) (parts : List (List Str)) (e : Str × Int) : List Str := lv P parts (2 - e.2).toNat e
noncomputable def wtE (P : List (Str × Str)) (parts : List (List Str)) (e : Str × Int) : Nat := wt P parts (2 - e.2).toNat e
noncomputable def leS (x y : Str) : Prop := ¬ (y.cps.toList < x.cps.toList)
noncomputable def ltS (x y : Str) : Prop := x.cps.toList < y.cps.toList
noncomputable def Hp (es : List (Str × Int)) : Prop := ∀ i, 0 < i → i < es.length → ltE (es.getD i (Str.ofString "", 0)) (es.getD ((i - 1) / 2) (Str.ofString "", 0)) = false
noncomputable def ents (ps : List Itm') : List (Str × Int) := ps.map (·.2)
noncomputable def GoodP (P : List (Str × Str)) : Prop := ∀ p ∈ P, p.2.length ≤ 10 ∧ p.1.length ≤ 50 ∧ (joinF p.1 p.2).length ≤ 50 ∧ ltS p.1 (joinF p.1 p.2)
noncomputable def WI (P : List (Str × Str)) (parts : List (List Str)) (es : List (Str × Int)) (told : List Str) : Prop :=
  Hp es ∧ told.Pairwise leS ∧ (∀ t ∈ told, ∀ e ∈ es, ltE e (t, 2) = false) ∧ (told ++ es.flatMap (lvE P parts)).Perm (lvE P parts (Str.ofString "", 0)) ∧ (∀ e ∈ es, (e.2 = 0 ∨ e.2 = 1 ∨ e.2 = 2) ∧ e.1.length ≤ 50) ∧ told.length + (es.map (wtE P parts)).sum ≤ 2000
theorem kids_yes {P : List (Str × Str)} {parts : List (List Str)} {e : Str × Int} {p : Str × Str} (h1 : p.1 = e.1) (h2 : takesF p.2 (parts.getD e.2.toNat []) = true) : kids (P ++ [p]) parts e = kids P parts e ++ [(joinF e.1 p.2, e.2 + 1)] := by
  unfold kids
  rw [List.filter_append, List.map_append]
  have : (p.1 == e.1 && takesF p.2 (parts.getD e.2.toNat [])) = true := by rw [h1, h2, beq_self_eq_true]; rfl
  simp only [List.filter_cons, this, if_true, List.filter_nil, List.map_cons, List.map_nil]
theorem kids_no {P : List (Str × Str)} {parts : List (List Str)} {e : Str × Int} {p : Str × Str} (h : (p.1 == e.1) = false ∨ takesF p.2 (parts.getD e.2.toNat []) = false) : kids (P ++ [p]) parts e = kids P parts e := by
  unfold kids
  rw [List.filter_append, List.map_append]
  have : (p.1 == e.1 && takesF p.2 (parts.getD e.2.toNat [])) = false := by
    rcases h with h | h
    · rw [h]; rfl
    · rw [h, Bool.and_false]
  simp only [List.filter_cons, this, Bool.false_eq_true, if_false, List.filter_nil, List.map_nil, List.append_nil]
theorem parts_in {q : Str} : (∀ x ∈ partsOf q, x ∈ ([Str.ofString "*", Str.ofString "a", Str.ofString "?", Str.ofString "b", Str.ofString "[^a]", Str.ofString "\\."] : List Str)) ∧ (partsOf q).length ≤ 2 := by
  unfold partsOf
  repeat' split
  all_goals (constructor <;> simp)
theorem sl_irrefl (a : List Nat) : ¬ a < a := List.lt_irrefl a
theorem sl_trans {a b c : List Nat} (h : a < b) (k : b < c) : a < c := List.lt_trans h k
theorem sl_tri (a b : List Nat) : a < b ∨ a = b ∨ b < a := by
  by_cases h : a < b
  · exact .inl h
  · by_cases k : b < a
    · exact .inr (.inr k)
    · exact .inr (.inl (List.le_antisymm k h))
theorem str_ext {a b : Str} (h : a.cps.toList = b.cps.toList) : a = b := by
  cases a; cases b
  simp only [Str.mk.injEq]
  exact Array.toList_inj.mp h
theorem ltE_iff {e f : Str × Int} : ltE e f = true ↔ (e.1.cps.toList < f.1.cps.toList ∨ (e.1 = f.1 ∧ e.2 < f.2)) := by
  unfold ltE
  by_cases h : e.1 = f.1
  · rw [if_pos (beq_iff_eq.mpr h), h]
    by_cases k : e.2 = f.2
    · rw [if_pos (beq_iff_eq.mpr k)]
      constructor
      · intro q; cases q
      · rintro (q | ⟨_, q⟩)
        · exact absurd q (sl_irrefl _)
        · omega
    · rw [if_neg (fun q => k (beq_iff_eq.mp q)), decide_eq_true_iff]
      constructor
      · exact fun q => .inr ⟨rfl, q⟩
      · rintro (q | ⟨_, q⟩)
        · exact absurd q (sl_irrefl _)
        · exact q
  · rw [if_neg (fun q => h (beq_iff_eq.mp q)), decide_eq_true_iff]
    constructor
    · exact .inl
    · rintro (q | ⟨q, _⟩)
      · exact q
      · exact absurd q h
theorem ltE_irrefl (e : Str × Int) : ltE e e = false := by
  cases h : ltE e e with
  | false => rfl
  | true =>
    rcases ltE_iff.mp h with q | ⟨_, q⟩
    · exact absurd q (sl_irrefl _)
    · omega
theorem ltE_trans {a b c : Str × Int} (h : ltE a b = true) (k : ltE b c = true) : ltE a c = true := by
  rw [ltE_iff] at h k ⊢
  rcases h with h | ⟨h1, h2⟩ <;> rcases k with k | ⟨k1, k2⟩
  · exact .inl (sl_trans h k)
  · exact .inl (k1 ▸ h)
  · exact .inl (h1 ▸ k)
  · exact .inr ⟨h1.trans k1, by omega⟩
theorem ltE_cot {a b c : Str × Int} (h : ltE a c = true) : ltE a b = true ∨ ltE b c = true := by
  simp only [ltE_iff] at h ⊢
  rcases sl_tri a.1.cps.toList b.1.cps.toList with q | q | q
  · exact .inl (.inl q)
  · have q' := str_ext q
    rcases h with h | ⟨h1, h2⟩
    · exact .inr (.inl (q ▸ h))
    · by_cases k : a.2 < b.2
      · exact .inl (.inr ⟨q', k⟩)
      · exact .inr (.inr ⟨q' ▸ h1, by omega⟩)
  · rcases h with h | ⟨h1, h2⟩
    · exact .inr (.inl (sl_trans q h))
    · exact .inr (.inl (h1 ▸ q))
theorem leE_trans {a b c : Str × Int} (h : ltE b a = false) (k : ltE c b = false) : ltE c a = false := by
  cases q : ltE c a with
  | false => rfl
  | true =>
    rcases ltE_cot (b := b) q with q | q
    · rw [k] at q; cases q
    · rw [h] at q; cases q
theorem ltE_asymm {a b : Str × Int} (h : ltE a b = true) : ltE b a = false := by
  cases q : ltE b a with
  | false => rfl
  | true => have := ltE_trans h q; rw [ltE_irrefl] at this; cases this
noncomputable abbrev gi (ps : List Itm') (i : Nat) : Itm' := ps.getD i nilI
noncomputable abbrev le (p q : Itm') : Prop := ltE q.2 p.2 = false
theorem le_refl' (p : Itm') : le p p := ltE_irrefl _
theorem le_trans' {p q r : Itm'} (h : le p q) (k : le q r) : le p r := leE_trans h k
theorem gi_set {ps : List Itm'} {i j : Nat} {x : Itm'} (h : i < ps.length) : gi (ps.set i x) j = if i = j then x else gi ps j := by
  simp only [gi, List.getD_eq_getElem?_getD, List.getElem?_set]
  by_cases e : i = j
  · subst e; simp [h]
  · simp [e]
theorem set_perm {ps : List Itm'} {i : Nat} {x : Itm'} (h : i < ps.length) : (gi ps i :: ps.set i x).Perm (x :: ps) := by
  have e1 : gi ps i = ps[i] := by simp [gi, h]
  rw [e1, List.set_eq_take_append_cons_drop, if_pos h]
  have e2 : ps = ps.take i ++ ps[i] :: ps.drop (i + 1) := by
    rw [← List.drop_eq_getElem_cons h, List.take_append_drop]
  calc (ps[i] :: (ps.take i ++ x :: ps.drop (i + 1))).Perm (ps[i] :: (x :: (ps.take i ++ ps.drop (i + 1)))) := List.Perm.cons _ List.perm_middle
    _ |>.Perm (x :: (ps[i] :: (ps.take i ++ ps.drop (i + 1)))) := List.Perm.swap ..
    _ |>.Perm (x :: (ps.take i ++ ps[i] :: ps.drop (i + 1))) := List.Perm.cons _ List.perm_middle.symm
    _ |>.Perm (x :: ps) := by rw [← e2]
noncomputable def HpI (ps : List Itm') : Prop := ∀ i, 0 < i → i < ps.length → le (gi ps ((i - 1) / 2)) (gi ps i)
theorem sd_heap (x : Itm') : ∀ (f : Nat) (ps : List Itm') (p : Nat), p < ps.length → p ≤ f →
    (∀ i, 0 < i → i < ps.length → i ≠ p → le (gi (ps.set p x) ((i - 1) / 2)) (gi (ps.set p x) i)) →
    (0 < p → ∀ c, 0 < c → c < ps.length → (c - 1) / 2 = p → le (gi (ps.set p x) ((p - 1) / 2)) (gi (ps.set p x) c)) →
    HpI (sdGo f ps x p) ∧ (sdGo f ps x p).Perm (ps.set p x) := by
  intro f
  induction f with
  | zero =>
    intro ps p hp hf A B
    have e : p = 0 := by omega
    subst e
    exact ⟨fun i h0 h1 => A i h0 (by simpa [sdGo] using h1) (by omega), List.Perm.refl _⟩
  | succ f ih =>
    intro ps p hp hf A B
    by_cases h0 : 0 < p
    · have hq : (p - 1) / 2 < p := by omega
      have hqne : p ≠ (p - 1) / 2 := by omega
      have hpar : gi (ps.set p x) ((p - 1) / 2) = gi ps ((p - 1) / 2) := by rw [gi_set hp, if_neg hqne]
      cases hl : ltE x.2 (ps.getD ((p - 1) / 2) nilI).2 with
      | true =>
        rw [sdGo_yes h0 hl]
        have hlt : ltE x.2 (gi ps ((p - 1) / 2)).2 = true := hl
        have hxp : le x (gi ps ((p - 1) / 2)) := ltE_asymm hlt
        have hq2 : (p - 1) / 2 < (ps.set p (ps.getD ((p - 1) / 2) nilI)).length := by rw [List.length_set]; omega
        have key : ∀ j, gi ((ps.set p (ps.getD ((p - 1) / 2) nilI)).set ((p - 1) / 2) x) j = if (p - 1) / 2 = j then x else if p = j then gi ps ((p - 1) / 2) else gi ps j := fun j => by
          rw [gi_set hq2, gi_set hp]
        have old : ∀ j, gi (ps.set p x) j = if p = j then x else gi ps j := fun j => gi_set hp
        have r := ih (ps.set p (ps.getD ((p - 1) / 2) nilI)) ((p - 1) / 2) hq2 (by omega) ?_ ?_
        · refine ⟨r.1, r.2.trans ?_⟩
          have s1 := set_perm (x := x) hq2
          have s2 := set_perm (x := ps.getD ((p - 1) / 2) nilI) hp
          have s3 := set_perm (x := x) hp
          rw [show gi (ps.set p (ps.getD ((p - 1) / 2) nilI)) ((p - 1) / 2) = gi ps ((p - 1) / 2) by rw [gi_set hp, if_neg hqne]] at s1
          have t1 : (gi ps p :: gi ps ((p - 1) / 2) :: (ps.set p (ps.getD ((p - 1) / 2) nilI)).set ((p - 1) / 2) x).Perm (gi ps ((p - 1) / 2) :: gi ps p :: ps.set p x) :=
            (List.Perm.cons _ s1).trans ((List.Perm.swap ..).trans ((List.Perm.cons _ s2).trans ((List.Perm.swap ..).trans (List.Perm.cons _ s3.symm))))
          exact ((t1.trans (List.Perm.swap ..)).cons_inv).cons_inv
        · intro i hi0 hi1 hne
          rw [List.length_set] at hi1
          rw [key, key]
          by_cases e1 : i = p
          · subst e1
            rw [if_pos rfl, if_neg hne.symm, if_pos rfl]
            exact hxp
          · have np : ¬ p = i := fun e => e1 e.symm
            have Ai := A i hi0 hi1 e1
            rw [old, old, if_neg np] at Ai
            rw [if_neg (show ¬ (p - 1) / 2 = i from hne.symm), if_neg np]
            by_cases e2 : (i - 1) / 2 = p
            · rw [if_neg (show ¬ (p - 1) / 2 = (i - 1) / 2 by omega), if_pos (show p = (i - 1) / 2 from e2.symm)]
              have Bi := B h0 i hi0 hi1 e2
              rw [hpar, old, if_neg np] at Bi
              exact Bi
            · have np2 : ¬ p = (i - 1) / 2 := fun e => e2 e.symm
              rw [if_neg np2] at Ai
              by_cases e3 : (p - 1) / 2 = (i - 1) / 2
              · rw [if_pos e3]
                rw [← e3] at Ai
                exact le_trans' hxp Ai
              · rw [if_neg e3, if_neg np2]
                exact Ai
        · intro hq0 c hc0 hc1 hcp
          rw [List.length_set] at hc1
          rw [key, key, if_neg (by omega), if_neg (by omega), if_neg (by omega)]
          have Ap := A ((p - 1) / 2) hq0 (by omega) (by omega)
          rw [old, old, if_neg (by omega), if_neg hqne] at Ap
          by_cases e1 : p = c
          · rw [if_pos e1]; exact Ap
          · rw [if_neg e1]
            have Ac := A c hc0 hc1 (fun e => e1 e.symm)
            rw [old, old, if_neg (by omega), if_neg e1, hcp] at Ac
            exact le_trans' Ap Ac
      | false =>
        rw [sdGo_no h0 hl]
        refine ⟨fun i hi0 hi1 => ?_, List.Perm.refl _⟩
        rw [List.length_set] at hi1
        by_cases e1 : i = p
        · subst e1
          rw [hpar, gi_set hp, if_pos rfl]
          exact hl
        · exact A i hi0 hi1 e1
    · have e : p = 0 := by omega
      subst e
      rw [sdGo_stop h0]
      exact ⟨fun i hi0 hi1 => A i hi0 (by simpa using hi1) (by omega), List.Perm.refl _⟩
theorem hp_ents {ps : List Itm'} : Hp (ents ps) ↔ HpI ps := by
  have e : ∀ i, (ents ps).getD i (Str.ofString "", 0) = (gi ps i).2 := by
    intro i
    simp only [ents, gi, List.getD_eq_getElem?_getD, List.getElem?_map]
    cases h : ps[i]? <;> simp [nilI]
  have el : (ents ps).length = ps.length := by simp [ents]
  constructor
  · intro h i h0 h1
    have := h i h0 (by rw [el]; exact h1)
    rw [e, e] at this
    exact this
  · intro h i h0 h1
    rw [el] at h1
    rw [e, e]
    exact h i h0 h1
theorem set_self {ps : List Itm'} {i : Nat} (h : i < ps.length) : ps.set i (ps.getD i nilI) = ps := by
  have : ps.getD i nilI = ps[i] := by simp [h]
  rw [this]; simp
theorem push_heapI {ps : List Itm'} {x : Itm'} (h : HpI ps) : HpI (pushF ps x) ∧ (pushF ps x).Perm (x :: ps) := by
  have hp : ps.length < (ps ++ [x]).length := by simp
  have r := sd_heap ((ps ++ [x]).getD ps.length nilI) ps.length (ps ++ [x]) ps.length hp (Nat.le_refl _) ?_ ?_
  · rw [set_self hp] at r
    exact ⟨r.1, r.2.trans (List.perm_append_singleton x ps)⟩
  · intro i h0 h1 hne
    rw [set_self hp]
    simp only [List.length_append, List.length_singleton] at h1
    have hi : i < ps.length := by omega
    have e1 : ∀ j, j < ps.length → gi (ps ++ [x]) j = gi ps j := fun j hj => by simp [gi, List.getD_eq_getElem?_getD, List.getElem?_append_left hj]
    rw [e1 _ hi, e1 _ (by omega)]
    exact h i h0 hi
  · intro h0 c hc0 hc1 hcp
    simp only [List.length_append, List.length_singleton] at hc1
    omega
theorem su_heap (x : Itm') : ∀ (f : Nat) (ps : List Itm') (p : Nat), p < ps.length → ps.length ≤ f + p →
    (∀ i, 0 < i → i < ps.length → i ≠ p → (i - 1) / 2 ≠ p → le (gi ps ((i - 1) / 2)) (gi ps i)) →
    (0 < p → ∀ c, 0 < c → c < ps.length → (c - 1) / 2 = p → le (gi ps ((p - 1) / 2)) (gi ps c)) →
    (suGo f ps p).2 < (suGo f ps p).1.length ∧ ¬ (2 * (suGo f ps p).2 + 1 < (suGo f ps p).1.length) ∧
    (∀ i, 0 < i → i < (suGo f ps p).1.length → i ≠ (suGo f ps p).2 → (i - 1) / 2 ≠ (suGo f ps p).2 → le (gi (suGo f ps p).1 ((i - 1) / 2)) (gi (suGo f ps p).1 i)) ∧
    ((suGo f ps p).1.set (suGo f ps p).2 x).Perm (ps.set p x) ∧ (suGo f ps p).1.length = ps.length := by
  intro f
  induction f with
  | zero => intro ps p hp hf; omega
  | succ f ih =>
    intro ps p hp hf C1 C2
    by_cases h : 2 * p + 1 < ps.length
    · have go : ∀ c, p < c → (c - 1) / 2 = p → c < ps.length → (∀ d, 0 < d → d < ps.length → (d - 1) / 2 = p → le (gi ps c) (gi ps d)) → suGo (f + 1) ps p = suGo f (ps.set p (ps.getD c nilI)) c →
          (suGo (f + 1) ps p).2 < (suGo (f + 1) ps p).1.length ∧ ¬ (2 * (suGo (f + 1) ps p).2 + 1 < (suGo (f + 1) ps p).1.length) ∧
          (∀ i, 0 < i → i < (suGo (f + 1) ps p).1.length → i ≠ (suGo (f + 1) ps p).2 → (i - 1) / 2 ≠ (suGo (f + 1) ps p).2 → le (gi (suGo (f + 1) ps p).1 ((i - 1) / 2)) (gi (suGo (f + 1) ps p).1 i)) ∧
          ((suGo (f + 1) ps p).1.set (suGo (f + 1) ps p).2 x).Perm (ps.set p x) ∧ (suGo (f + 1) ps p).1.length = ps.length := by
        intro c hpc hcp hcl hmin e
        rw [e]
        have hc2 : c < (ps.set p (ps.getD c nilI)).length := by rw [List.length_set]; exact hcl
        have key : ∀ j, gi (ps.set p (ps.getD c nilI)) j = if p = j then gi ps c else gi ps j := fun j => gi_set hp
        have r := ih (ps.set p (ps.getD c nilI)) c hc2 (by rw [List.length_set]; omega) ?_ ?_
        · refine ⟨r.1, r.2.1, r.2.2.1, r.2.2.2.1.trans ?_, by rw [r.2.2.2.2, List.length_set]⟩
          have s1 := set_perm (x := x) hc2
          have s2 := set_perm (x := ps.getD c nilI) hp
          have s3 := set_perm (x := x) hp
          rw [key, if_neg (by omega)] at s1
          have t1 : (gi ps p :: gi ps c :: (ps.set p (ps.getD c nilI)).set c x).Perm (gi ps c :: gi ps p :: ps.set p x) :=
            (List.Perm.cons _ s1).trans ((List.Perm.swap ..).trans ((List.Perm.cons _ s2).trans ((List.Perm.swap ..).trans (List.Perm.cons _ s3.symm))))
          exact ((t1.trans (List.Perm.swap ..)).cons_inv).cons_inv
        · intro i hi0 hi1 hne hne2
          rw [List.length_set] at hi1
          rw [key, key]
          by_cases e1 : i = p
          · subst e1
            rw [if_neg (by omega), if_pos rfl]
            exact C2 hi0 c (by omega) hcl hcp
          · rw [if_neg (show ¬ p = i from fun q => e1 q.symm)]
            by_cases e2 : (i - 1) / 2 = p
            · rw [if_pos (show p = (i - 1) / 2 from e2.symm)]
              exact hmin i hi0 hi1 e2
            · rw [if_neg (show ¬ p = (i - 1) / 2 from fun q => e2 q.symm)]
              exact C1 i hi0 hi1 e1 e2
        · intro hc0 d hd0 hd1 hdc
          rw [List.length_set] at hd1
          rw [key, key, hcp, if_pos rfl, if_neg (by omega)]
          have := C1 d hd0 hd1 (by omega) (by omega)
          rw [hdc] at this
          exact this
      by_cases h2 : 2 * p + 1 + 1 < ps.length
      · cases hl : ltE (ps.getD (2 * p + 1) nilI).2 (ps.getD (2 * p + 1 + 1) nilI).2 with
        | false =>
          refine go (2 * p + 1 + 1) (by omega) (by omega) h2 (fun d hd0 hd1 hdp => ?_) (suGo_right h2 hl)
          obtain e | e : d = 2 * p + 1 ∨ d = 2 * p + 1 + 1 := by omega
          · rw [e]; exact hl
          · rw [e]; exact le_refl' _
        | true =>
          refine go (2 * p + 1) (by omega) (by omega) h (fun d hd0 hd1 hdp => ?_) (suGo_left h fun _ => hl)
          obtain e | e : d = 2 * p + 1 ∨ d = 2 * p + 1 + 1 := by omega
          · rw [e]; exact le_refl' _
          · rw [e]; exact ltE_asymm hl
      · refine go (2 * p + 1) (by omega) (by omega) h (fun d hd0 hd1 hdp => ?_) (suGo_left h fun q => absurd q h2)
        have e : d = 2 * p + 1 := by omega
        rw [e]; exact le_refl' _
    · rw [suGo_stop h]
      exact ⟨hp, h, C1, List.Perm.refl _, rfl⟩
theorem suF_heap {ps : List Itm'} (h0 : 0 < ps.length) (C1 : ∀ i, 0 < i → i < ps.length → (i - 1) / 2 ≠ 0 → le (gi ps ((i - 1) / 2)) (gi ps i)) : HpI (suF ps) ∧ (suF ps).Perm ps := by
  have r := su_heap (ps.getD 0 nilI) ps.length ps 0 h0 (Nat.le_refl _) (fun i a b _ c => C1 i a b c) (fun q => absurd q (Nat.lt_irrefl 0))
  unfold suF sdF
  generalize suGo ps.length ps 0 = z at r
  obtain ⟨qs, p⟩ := z
  dsimp only at r ⊢
  obtain ⟨hp, hleaf, hC, hperm, hlen⟩ := r
  rw [set_self h0] at hperm
  have hp2 : p < (qs.set p (ps.getD 0 nilI)).length := by rw [List.length_set]; exact hp
  have s := sd_heap ((qs.set p (ps.getD 0 nilI)).getD p nilI) p (qs.set p (ps.getD 0 nilI)) p hp2 (Nat.le_refl _) ?_ ?_
  · rw [set_self hp2] at s
    exact ⟨s.1, s.2.trans hperm⟩
  · intro i hi0 hi1 hne
    rw [List.length_set] at hi1
    rw [set_self hp2, gi_set hp, gi_set hp, if_neg (show ¬ p = (i - 1) / 2 by omega), if_neg (show ¬ p = i from fun q => hne q.symm)]
    exact hC i hi0 hi1 hne (by omega)
  · intro hp0 c hc0 hc1 hcp
    rw [List.length_set] at hc1
    omega
theorem heap_min {ps : List Itm'} (h : HpI ps) : ∀ i, i < ps.length → le (gi ps 0) (gi ps i) := by
  intro i
  induction i using Nat.strongRecOn with
  | _ i ih =>
    intro hi
    by_cases h0 : i = 0
    · rw [h0]; exact le_refl' _
    · exact le_trans' (ih ((i - 1) / 2) (by omega) (by omega)) (h i (by omega) hi)
theorem push_heap {ps : List Itm'} {x : Itm'} (h : Hp (ents ps)) : Hp (ents (pushF ps x)) ∧ (pushF ps x).Perm (x :: ps) :=
  ⟨hp_ents.mpr (push_heapI (hp_ents.mp h)).1, (push_heapI (hp_ents.mp h)).2⟩
theorem pop_heap {qs : List Itm'} {y : Itm'} (h : Hp (ents (qs ++ [y]))) : Hp (ents (popL qs y)) ∧ (popR qs y :: popL qs y).Perm (qs ++ [y]) ∧ ∀ e ∈ popL qs y, ltE e.2 (popR qs y).2 = false := by
  have h := hp_ents.mp h
  unfold popR popL
  by_cases h0 : 0 < qs.length
  · rw [if_pos h0, if_pos h0]
    have e1 : ∀ j, j < qs.length → gi (qs ++ [y]) j = gi qs j := fun j hj => by simp [gi, List.getD_eq_getElem?_getD, List.getElem?_append_left hj]
    have hs : 0 < (qs.set 0 y).length := by rw [List.length_set]; exact h0
    have s := suF_heap hs ?_
    · have hperm : (qs.getD 0 nilI :: suF (qs.set 0 y)).Perm (qs ++ [y]) :=
        (List.Perm.cons _ s.2).trans ((set_perm h0).trans (List.perm_append_singleton y qs).symm)
      refine ⟨hp_ents.mpr s.1, hperm, fun e he => ?_⟩
      have hm : e ∈ qs ++ [y] := hperm.mem_iff.mp (List.mem_cons_of_mem _ he)
      obtain ⟨i, hi, hie⟩ := List.getElem_of_mem hm
      have := heap_min h i hi
      rw [e1 0 h0] at this
      have e2 : gi (qs ++ [y]) i = e := by rw [← hie, gi, List.getD_eq_getElem?_getD, List.getElem?_eq_getElem hi]; rfl
      rw [e2] at this
      exact this
    · intro i hi0 hi1 hne
      rw [List.length_set] at hi1
      rw [gi_set h0, gi_set h0, if_neg (show ¬ 0 = (i - 1) / 2 from fun q => hne q.symm), if_neg (show ¬ 0 = i by omega)]
      have := h i hi0 (by simp; omega)
      rw [e1 _ hi1, e1 _ (by omega)] at this
      exact this
  · rw [if_neg h0, if_neg h0]
    have e : qs = [] := List.length_eq_zero_iff.mp (by omega)
    subst e
    exact ⟨fun i h0 h1 => absurd h1 (by simp [ents]), List.Perm.refl _, fun e he => nomatch he⟩
theorem sum_le {α : Type} {f : α → Nat} {c : Nat} : ∀ {l : List α}, (∀ x ∈ l, f x ≤ c) → (l.map f).sum ≤ l.length * c := by
  intro l
  induction l with
  | nil => intro _; simp
  | cons a r ih =>
    intro h
    have h1 := h a (.head _)
    have h2 := ih fun x hx => h x (.tail _ hx)
    simp only [List.map_cons, List.sum_cons, List.length_cons]
    rw [Nat.add_mul, Nat.one_mul]
    omega
theorem le_sum {α : Type} {f : α → Nat} : ∀ {l : List α}, (∀ x ∈ l, 1 ≤ f x) → l.length ≤ (l.map f).sum := by
  intro l
  induction l with
  | nil => intro _; simp
  | cons a r ih =>
    intro h
    have h1 := h a (.head _)
    have h2 := ih fun x hx => h x (.tail _ hx)
    simp only [List.map_cons, List.sum_cons, List.length_cons]
    omega
theorem sum_perm {l m : List Nat} (h : l.Perm m) : l.sum = m.sum := by
  induction h with
  | nil => rfl
  | cons _ _ ih => simp [ih]
  | swap _ _ _ => simp; omega
  | trans _ _ a b => exact a.trans b
section
variable {P : List (Str × Str)} {parts : List (List Str)}
theorem wt_pos' : ∀ (f : Nat) (e : Str × Int), 1 ≤ wt P parts f e := by
  intro f e
  cases f with
  | zero => exact Nat.le_refl _
  | succ f => show 1 ≤ 1 + _; omega
theorem wt_pos (e : Str × Int) : 1 ≤ wtE P parts e := wt_pos' _ _
theorem kids_len (e : Str × Int) : (kids P parts e).length ≤ P.length := by
  unfold kids
  rw [List.length_map]
  exact List.length_filter_le _ _
theorem wi_init (hl : P.length ≤ 30) : WI P parts [(Str.ofString "", 0)] [] := by
  refine ⟨fun i h0 h1 => absurd h1 (by simp; omega), .nil, allN, by simp, all1 ⟨.inl rfl, by decide +kernel⟩, ?_⟩
  have h1 : ∀ e, wt P parts 1 e ≤ 31 := fun e => by
    show 1 + ((kids P parts e).map (wt P parts 0)).sum ≤ 31
    have := sum_le (f := wt P parts 0) (c := 1) (l := kids P parts e) fun x _ => Nat.le_refl _
    have := kids_len (P := P) (parts := parts) e
    omega
  have h2 : wt P parts 2 (Str.ofString "", 0) ≤ 931 := by
    show 1 + ((kids P parts (Str.ofString "", 0)).map (wt P parts 1)).sum ≤ 931
    have := sum_le (f := wt P parts 1) (c := 31) (l := kids P parts (Str.ofString "", 0)) fun x _ => h1 x
    have := kids_len (P := P) (parts := parts) (Str.ofString "", 0)
    omega
  show 0 + (wt P parts 2 (Str.ofString "", 0) + 0) ≤ 2000
  omega
theorem wi_len {es : List (Str × Int)} {told : List Str} (h : WI P parts es told) : told.length + es.length ≤ 2000 := by
  have := le_sum (f := wtE P parts) (l := es) fun x _ => wt_pos x
  have := h.2.2.2.2.2
  omega
theorem wi_end {told : List Str} (h : WI P parts [] told) : told.Pairwise leS ∧ told.Perm (lvE P parts (Str.ofString "", 0)) :=
  ⟨h.2.1, by have := h.2.2.2.1; rw [List.flatMap_nil, List.append_nil] at this; exact this⟩
theorem pop_ents {qs : List Itm'} {y : Itm'} (h : Hp (ents (qs ++ [y]))) : ((popR qs y).2 :: ents (popL qs y)).Perm (ents (qs ++ [y])) := (pop_heap h).2.1.map (fun p : Itm' => p.2)
theorem wi_tell {qs : List Itm'} {y : Itm'} {told : List Str} (h : WI P parts (ents (qs ++ [y])) told) (hd : (popR qs y).2.2 = 2) :
    WI P parts (ents (popL qs y)) (told ++ [(popR qs y).2.1]) ∧ ((ents (popL qs y)).map (wtE P parts)).sum < ((ents (qs ++ [y])).map (wtE P parts)).sum := by
  have hp := pop_heap h.1
  have hpe := pop_ents h.1
  obtain ⟨h1, h2, h3, h4, h5, h6⟩ := h
  have hmin : ∀ e ∈ ents (popL qs y), ltE e (popR qs y).2 = false := fun e he => by
    obtain ⟨p, hp1, rfl⟩ := List.mem_map.mp he
    exact hp.2.2 p hp1
  generalize popR qs y = x at *
  generalize ents (popL qs y) = el at *
  generalize ents (qs ++ [y]) = es at *
  obtain ⟨xv, xs, xd⟩ := x
  dsimp only at hd hpe hmin ⊢
  subst hd
  have hx : (xs, 2) ∈ es := hpe.mem_iff.mp (.head _)
  have hsub : ∀ e ∈ el, e ∈ es := fun e he => hpe.mem_iff.mp (.tail _ he)
  have hs : (es.map (wtE P parts)).sum = wtE P parts (xs, 2) + (el.map (wtE P parts)).sum := by
    have := sum_perm (hpe.map (wtE P parts))
    rw [← this]; simp
  have hw := wt_pos (P := P) (parts := parts) (xs, 2)
  refine ⟨⟨hp.1, ?_, ?_, ?_, fun e he => h5 e (hsub e he), ?_⟩, by omega⟩
  · rw [List.pairwise_append]
    refine ⟨h2, List.pairwise_singleton _ _, fun t ht b hb => ?_⟩
    rw [List.mem_singleton.mp hb]
    intro hlt
    have := h3 t ht (xs, 2) hx
    rw [ltE_iff.mpr (.inl hlt)] at this
    cases this
  · intro t ht e he
    rcases List.mem_append.mp ht with ht | ht
    · exact h3 t ht e (hsub e he)
    · rw [List.mem_singleton.mp ht]
      exact hmin e he
  · refine List.Perm.trans ?_ h4
    have q := (hpe.flatMap_right (lvE P parts))
    rw [List.flatMap_cons] at q
    have e : lvE P parts (xs, 2) = [xs] := rfl
    rw [e] at q
    rw [List.append_assoc]
    exact List.Perm.append_left told q
  · rw [List.length_append, List.length_singleton]
    omega
theorem kid_facts {e k : Str × Int} (hg : GoodP P) (hk : k ∈ kids P parts e) : k.2 = e.2 + 1 ∧ k.1.length ≤ 50 ∧ ltE e k = true := by
  unfold kids at hk
  obtain ⟨p, hp, rfl⟩ := List.mem_map.mp hk
  have h1 := List.mem_filter.mp hp
  have h2 := hg p h1.1
  rw [Bool.and_eq_true, beq_iff_eq] at h1
  rw [h1.2.1] at h2
  exact ⟨rfl, h2.2.2.1, ltE_iff.mpr (.inl h2.2.2.2)⟩
theorem flat_congr {α β : Type} {f g : α → List β} : ∀ {l : List α}, (∀ x ∈ l, f x = g x) → l.flatMap f = l.flatMap g := by
  intro l
  induction l with
  | nil => intro _; rfl
  | cons a r ih =>
    intro h
    rw [List.flatMap_cons, List.flatMap_cons, h a (.head _), ih fun x hx => h x (.tail _ hx)]
theorem map_congr' {α β : Type} {f g : α → β} : ∀ {l : List α}, (∀ x ∈ l, f x = g x) → l.map f = l.map g := by
  intro l
  induction l with
  | nil => intro _; rfl
  | cons a r ih =>
    intro h
    rw [List.map_cons, List.map_cons, h a (.head _), ih fun x hx => h x (.tail _ hx)]
theorem lv_kids {e : Str × Int} (hg : GoodP P) (hd : e.2 = 0 ∨ e.2 = 1) : lvE P parts e = (kids P parts e).flatMap (lvE P parts) ∧ wtE P parts e = 1 + ((kids P parts e).map (wtE P parts)).sum := by
  obtain ⟨f, hf, hf2⟩ : ∃ f, (2 - e.2).toNat = f + 1 ∧ (2 - (e.2 + 1)).toNat = f := by
    rcases hd with h | h
    · exact ⟨1, by rw [h]; rfl, by rw [h]; rfl⟩
    · exact ⟨0, by rw [h]; rfl, by rw [h]; rfl⟩
  constructor
  · unfold lvE
    rw [hf]
    show (kids P parts e).flatMap (lv P parts f) = _
    refine flat_congr fun k hk => ?_
    rw [(kid_facts hg hk).1, hf2]
  · unfold wtE
    rw [hf]
    show 1 + ((kids P parts e).map (wt P parts f)).sum = _
    rw [map_congr' (g := fun e => wt P parts (2 - e.2).toNat e) fun k hk => ?_]
    rw [(kid_facts hg hk).1, hf2]
theorem wi_kids {qs ps : List Itm'} {y : Itm'} {told : List Str} (hg : GoodP P) (h : WI P parts (ents (qs ++ [y])) told) (hd : (popR qs y).2.2 ≠ 2) (hh : Hp (ents ps)) (hp : (ents ps).Perm (ents (popL qs y) ++ kids P parts (popR qs y).2)) :
    WI P parts (ents ps) told ∧ ((ents ps).map (wtE P parts)).sum < ((ents (qs ++ [y])).map (wtE P parts)).sum := by
  have hpe := pop_ents h.1
  obtain ⟨h1, h2, h3, h4, h5, h6⟩ := h
  generalize (popR qs y).2 = x at *
  generalize ents (popL qs y) = el at *
  generalize ents (qs ++ [y]) = es at *
  generalize ents ps = en at *
  have hx : x ∈ es := hpe.mem_iff.mp (.head _)
  have hsub : ∀ e ∈ el, e ∈ es := fun e he => hpe.mem_iff.mp (.tail _ he)
  have hx5 := h5 x hx
  have hd2 : x.2 = 0 ∨ x.2 = 1 := by
    rcases hx5.1 with q | q | q
    · exact .inl q
    · exact .inr q
    · exact absurd q hd
  have hlk := lv_kids (parts := parts) hg hd2
  have hs : (es.map (wtE P parts)).sum = wtE P parts x + (el.map (wtE P parts)).sum := by
    have := sum_perm (hpe.map (wtE P parts))
    rw [← this]; simp
  have hs2 : (en.map (wtE P parts)).sum = (el.map (wtE P parts)).sum + ((kids P parts x).map (wtE P parts)).sum := by
    have := sum_perm (hp.map (wtE P parts))
    rw [this]; simp
  have hmem : ∀ e ∈ en, e ∈ el ∨ e ∈ kids P parts x := fun e he => List.mem_append.mp (hp.mem_iff.mp he)
  refine ⟨⟨hh, h2, fun t ht e he => ?_, ?_, fun e he => ?_, by omega⟩, by omega⟩
  · rcases hmem e he with q | q
    · exact h3 t ht e (hsub e q)
    · exact leE_trans (h3 t ht x hx) (ltE_asymm (kid_facts hg q).2.2)
  · refine List.Perm.trans (List.Perm.append_left told ?_) h4
    have q1 := hp.flatMap_right (lvE P parts)
    have q2 := hpe.flatMap_right (lvE P parts)
    rw [List.flatMap_append, ← hlk.1] at q1
    rw [List.flatMap_cons] at q2
    exact q1.trans (List.perm_append_comm.trans q2)
  · rcases hmem e he with q | q
    · exact h5 e (hsub e q)
    · have k := kid_facts hg q
      refine ⟨?_, k.2.1⟩
      rw [k.1]
      omega
end
end Mine
namespace Mine
open PyProof.Rows.LCg PyProof.Rows.LCt
local macro_rules | `(tactic| k_mem) => `(tactic| assumption)
local macro_rules | `(tactic| k_all) => `(tactic| assumption)
theorem wd20_1 : True := by
  (k_with "exec Assign cons ListComp" => ((refine my_src ?_)))
  (k_with "CompSrc" => ((refine my_src ?_)))
  (k_with "PosSrc" => ((refine my_src ?_)))
  (k_with "CompEnd" => ((refine my_src ?_)))
  (k_with "exec While Compare cons nil" => ((refine my_src ?_)))
  (k_with "execs cons" => (first | ((with_reducible refine execs_tk (by first | (((try dsimp only); (repeat (first | with_reducible assumption | apply Tk.add))); done) | exact (Nat.zero_le _ : Tk 0 _)) ?_); try dsimp only) | ((with_reducible refine wpAny_execs_cons ?_); try dsimp only)))
  (k_with "TkK" => ((refine tkk fun l9 => ?_; (try dsimp only at l9); (try dsimp only))))
  (k_with "call ref" => ((refine my_src ?_)))
  (k_with "exec For Tuple Name cons nil" => (((rename Fr _ _ _ _ => lF'); (with_unfolding_all refine' For_turns lF' ?_; k_whole))))
  trivial
local macro_rules | `(tactic| walk_at "pyIter ref") => `(tactic| ((with_reducible show wpAny _ _ (pyIter (Value.ref _)) (fun it s₂ => TurnsAt _ _ _ _ _ _ _ _ _ it s₂) _ _); refine my_iter ?_))
theorem wd20_2 : True := by
  (k_with "subscriptTail Name Name ref int" => (((with_reducible show wpAny _ _ (subscriptTail _ _ (Value.ref _) (Value.int _ _)) _ _ _); k_dflt (refine' sub_any ?k1 ?k2 ?k3 ?k4 ?k5 ?_ ?k7; (case k1 => k_asm); (case k2 => k_mem); (case k3 => omega); (case k4 => omega); (case k5 => assumption); (case k7 => with_unfolding_all rfl)))))
  (k_with "compareOp NotEq ref ref" => (((with_reducible show wpAny _ _ (compareOp CmpOp.NotEq (Value.ref _) (Value.ref _)) _ _ _); k_dflt (refine' ne_empty ?k1 ?k2 ?k3 ?k4 ?_; (case k1 => k_asm); (case k2 => k_mem); (case k3 => k_mem); (case k4 => ktr_units); k_whole))))
  (k_with "WhlIf" => ((refine my_src ?_)))
  (k_with "WhlPost" => (first | refine my_next ?_ | refine my_cont ?_ | fail "my_post"))
  trivial
theorem ne_obj {h₀ h : Heap} {L a b : Addr} {news : List (Addr × Obj)} {o1 o2 : Obj} (N : News h₀ L h news) (h1 : (a, o1) ∈ news) (h2 : (b, o2) ∈ news) (hne : o1 ≠ o2) : @Ne Nat a b := fun e => by
  have e1 := (N _ h1).1
  have e2 := (N _ h2).1
  dsimp only at e1 e2
  rw [e, e2] at e1
  exact hne (Option.some.inj e1).symm
theorem ne_cls {o1 o2 : Obj} (h : o1.cls ≠ o2.cls) : o1 ≠ o2 := fun e => h (congrArg Obj.cls e)
theorem parts_ne {p : Str} : partsOf p ≠ [] := by
  unfold partsOf
  repeat' split
  all_goals exact List.cons_ne_nil _ _
theorem svals_ne {pss : List (Str × Tok)} {l : List Row} {i j : Nat} (h : fs pss ≠ []) : lstO (pss.map sval) i ≠ lstO (l.map rv) j := fun e => by
  have e2 := lstO_inj e
  cases pss with
  | nil => exact h rfl
  | cons p r => cases l with
    | nil => cases e2
    | cons q r => simp only [List.map_cons] at e2; injection e2 with e3; cases e3
noncomputable abbrev pv9 (p : Addr × Str × Str) : Value := .ref p.1
theorem call2_at {M : Model} {A : Around} {E : Value → Shared → Prop} {s : Shared} {Q : Value → Shared → Prop} {f d a : Addr} (k : ∀ x, x = a → wpAny M A (call (.ref f) [.ref d, .ref x]) Q E s) : wpAny M A (call (.ref f) [.ref d, .ref a]) Q E s := k a rfl
theorem frame_of {h₀ h : Heap} {L : Addr} {m : Str → Option Value} {P : Prop} (_F : Fr h₀ L h m) (k : ∀ M, M = m → P) : P := k m rfl
noncomputable def PairsIn (news : List (Addr × Obj)) (prs : List (Addr × Str × Str)) : Prop := ∀ p ∈ prs, ∃ t1 t2, (p.1, tupO [.str p.2.1 t1, .str p.2.2 t2]) ∈ news
theorem told_spec (w : World) (loose : List Str) (mean : ExcName → Option Value) (mg mb : Str → Option Value) (pl tl : Addr) (paths : List (Str × Tok)) (np nt : Nat) (qs : List (Str × Tok)) (p0 : Array Value) (hp0 : TabOk p0) (hqs : ∀ q ∈ qs, q.1 ∈ pats) (hql : qs.length = 2) (hpaths : ∀ p ∈ paths, p.1.length ≤ 50) (hlen : paths.length ≤ 30) (hpl : @Ne Nat pl 158) (htl : @Ne Nat tl 158) (hgood : GoodP (paths.map fun p => splitF p.1)) :
    Spec3 w loose mean mg mb 211 [.ref pl, .ref tl] 14 [(158, tabObj p0), (pl, lstO (paths.map sval) np), (tl, lstO (qs.map sval) nt)] 1 (fun r n' => ∃ D told k ps', r = .ref D ∧ TabOk ps' ∧ (158, tabObj ps') ∈ n' ∧ (D, lstO (told.map sval) k) ∈ n' ∧ (fs told).Pairwise leS ∧ (fs told).Perm (lvE (paths.map fun p => splitF p.1) (qs.map fun q => partsOf q.1) (Str.ofString "", 0))) := by
  unfold Spec3
  k_fill
  intro dp un gd cn cs a ccd cl outer A₀ base h₀ L m s Q E hn B F X N T hk hd hu hret
  refine wpAny_call ?_
  k_dflt (refine' code_plain2 ?k1 ?k2 ?k3 ?k4 ?k5 ?kA ?kF ?kK ?k6 ?k7 ?k8 ?k9 ?kB ?_ ?c2 ?c3 ?c4 ?c5; (case kA => exact rfl); (case kF => exact rfl); (case kK => assumption); (case k1 => k_asm); (case k2 => k_asm); (case k3 => k_asm); (case k4 => k_asm); (case k5 => k_asm); (case k6 => k_is); (case k7 => k_is); (case k8 => ktr_room); (case k9 => exact BindsTo.of_eq rfl); (case c5 => decide); (case kB => exact locs rfl); (case c2 => exact rfl); (case c3 => exact rfl); (case c4 => exact rfl); k_whole; intro g' L' h' FG' F' N' B' X' T'; (try dsimp only); (try k_fold))
  obtain ⟨mm, F'⟩ := fr_hide [(Str.ofString "paths", .ref pl), (Str.ofString "patterns", .ref tl)] F' (allC rfl (all1 rfl))
  simp only [frl] at F'
  k_steps
  unfold MySrc
  refine LCg.Assign_ListComp_U (F₀ := by k_asm) (by rfl) (by with_unfolding_all rfl) (by rfl) (by decide) (by rfl) (by decide) (by rfl) (by rfl) (by rfl) ?_
  k_steps
  unfold MySrc
  rename Fr _ _ _ _ => lF
  rename News _ _ _ _ => lN
  refine CompSrc.ledger rfl lF lN (by k_mem) (by rw [sizeLine_eq, List.size_toArray, List.length_map]; omega) (fun g => ?_)
  clear lF lN
  refine compU_ind paths (fun pre ys news => ∃ tu prs, news = (158, tabObj p0) :: (pl, lstO (paths.map sval) np) :: (tl, lstO (qs.map sval) nt) :: tu ∧ ys = prs.map pv9 ∧ prs.map (·.2) = pre.map (fun p => splitF p.1) ∧ PairsIn tu prs ∧ Off tu 158) ?_ ?_ _ (by rw [List.size_toArray, List.length_map]) ⟨[], [], rfl, rfl, rfl, allN, allN⟩
  · rintro pre ⟨ax, at9⟩ post ys news v hl hP ⟨tu, prs, rfl, rfl, hprs, hin, hoff⟩ I₁ oI C oC D m₂ h₂ tk₂ E' hC hx2 F₂ N₂ off ne
    obtain rfl : v = .str ax at9 := by
      have e : ((paths.map sval).toArray[pre.length]?) = some (.str ax at9) := by rw [hl]; simp
      rw [e] at hP
      exact (Option.some.inj hP).symm
    have hax : ax.length ≤ 50 := hpaths (ax, at9) (by rw [hl]; simp)
    simp only [LCg.Off3] at off
    obtain ⟨b1, b2, b3, bt⟩ := off
    k_steps
    unfold MySrc
    k_dflt (refine' Spec.use ?k1 ?k2 ?k3 ?k4 ?k5 ?kK (split_spec _ _ _ _ _ _ ax at9 (by omega)) ?kd ?ku ?_; (case k1 => k_asm); (case k2 => k_asm); (case k3 => k_asm); (case k4 => exact N₂); (case k5 => k_asm); (case kK => first | exact rfl | assumption); (case kd => ktr_room); (case ku => ktr_units))
    rintro r9 n9 h9 tk9 F9 N9 ⟨Dn, t1, t2, rfl, rfl, l9⟩
    k_steps
    unfold MySrc
    refine CompEnd.intro F9 N9 _ ?sub ?off ?S ⟨(Dn, tupO [.str (splitF ax).1 t1, .str (splitF ax).2 t2]) :: tu, prs ++ [(Dn, (splitF ax).1, (splitF ax).2)], rfl, by rw [List.map_append]; rfl, ?e1, ?e2, ?e3⟩
    case e1 => rw [List.map_append, List.map_append, hprs]; rfl
    case e2 =>
      intro p hp
      rcases List.mem_append.mp hp with hp | hp
      · obtain ⟨u1, u2, hm⟩ := hin p hp
        exact ⟨u1, u2, .tail _ hm⟩
      · rw [List.mem_singleton.mp hp]
        exact ⟨t1, t2, .head _⟩
    case e3 => exact Off.cons hoff (Nat.ne_of_gt (l9 _ (.tail _ (.tail _ (.tail _ (.head _))))))
    case S => exact .inr ⟨lstO (paths.map sval) np, .tail _ (.head _), rfl, _, rfl⟩
    case off => exact ⟨b1, b2, b3, ⟨Nat.ne_of_gt (l9 _ (.head _)), Nat.ne_of_gt (l9 _ (.tail _ (.head _))), Nat.ne_of_gt (l9 _ (.tail _ (.tail _ (.head _))))⟩, bt⟩
    case sub =>
      repeat (refine allC (by k_mem) ?_)
      intro p hp
      repeat (first | exact hp | refine List.mem_cons_of_mem _ ?_)
  · rintro ys news ⟨tu, prs, rfl, rfl, hprs, hin, hoff⟩
    have hpl9 : prs.length ≤ 30 := by
      have := congrArg List.length hprs
      simp only [List.length_map] at this
      omega
    intro D9 h8 tk8 F8 N8 off8
    simp only [LCg.Off1] at off8
    k_steps
    unfold MySrc
    refine assign_pos (F₀ := by k_asm) (by rfl) (by with_unfolding_all rfl) (by rfl) (by decide) (by rfl) (by decide) (by rfl) (by rfl) (by rfl) ?_
    k_steps
    unfold MySrc
    have hD158 : @Ne Nat D9 158 := Ne.symm off8.1
    have N8b : News _ _ _ ((158, tabObj p0) :: (D9, lst (prs.map pv9)) :: (pl, lstO (paths.map sval) np) :: (tl, lstO (qs.map sval) nt) :: tu) := fun p hp => N8 p (allC (.tail _ (.head _)) (allC (.head _) fun p hp => .tail _ (.tail _ hp)) p hp)
    refine ⟨tl, (qs.map sval).toArray, _, rfl, rfl, (by assumption : Tk 1 tk8), F8, N8b, .inr ⟨lstO (qs.map sval) nt, by k_mem, rfl, _, rfl⟩, by rw [sizeLine_eq, List.size_toArray, List.length_map]; omega, fun g => ?_⟩
    show PosRest _ _ _ _ _ _ _ _ _ _ _ _ _ _ (qs.map sval) [] _
    refine pos_ind sval qs (fun pre ys news => ∃ ps' tl3 prt, TabOk ps' ∧ news = (158, tabObj ps') :: (D9, lst (prs.map pv9)) :: (pl, lstO (paths.map sval) np) :: (tl, lstO (qs.map sval) nt) :: tl3 ∧ (∀ p ∈ tu, p ∈ tl3) ∧ ys = prt.map rv ∧ RowsIn tl3 prt ∧ prt.map rs = pre.map (fun q => partsOf q.1) ∧ Off tl3 158) ?_ ?_ ⟨p0, tu, [], hp0, rfl, fun p hp => hp, rfl, RowsIn.nil, rfl, hoff⟩
    · rintro pre ⟨q, tq⟩ post ys news hl ⟨ps', tl3, prt, hps', rfl, hsub, rfl, hprt, hprs2, hoff3⟩ I₁ oI C oC Dc m₂ h₂ tk₂ E' htk hcI hC hx2 F₂ N₂ off ne
      have hq : q ∈ pats := hqs (q, tq) (by rw [hl]; simp)
      simp only [LCg.Off3] at off
      obtain ⟨b1, b2, b3, b4, bt⟩ := off
      k_steps
      unfold MySrc
      refine' Spec3.useF ?kt ?k1 ?k2 ?k3 ?k4 ?k5 ?kK (tr_spec _ _ _ _ _ ?n9 q hq _ _ _ ps' hps' ?h0 ?h2) ((I₁, oI) :: (C, oC) :: (Dc, lst (prt.map rv)) :: (D9, lst (prs.map pv9)) :: (pl, lstO (paths.map sval) np) :: (tl, lstO (qs.map sval) nt) :: tl3) ?sub ?koff ?kd ?ku ?main
      case kt => exact Nat.le_refl _
      case k1 => k_asm
      case k2 => k_asm
      case k3 => k_asm
      case k4 => k_asm
      case k5 => k_asm
      case kK => first | exact rfl | assumption
      case h0 => exact htk
      case h2 => dsimp only; omega
      case kd => ktr_room
      case ku => ktr_units
      case sub =>
        show ∀ p ∈ _ :: _, _
        repeat (refine allC (by k_mem) ?_)
        intro p hp
        repeat (first | exact hp | refine List.mem_cons_of_mem _ ?_)
      case koff =>
        have hO : Off ((I₁, oI) :: (C, oC) :: (Dc, lst (prt.map rv)) :: (D9, lst (prs.map pv9)) :: (pl, lstO (paths.map sval) np) :: (tl, lstO (qs.map sval) nt) :: tl3) 158 := Off.cons (Off.cons (Off.cons (Off.cons (Off.cons (Off.cons hoff3 htl) hpl) hD158) (Ne.symm b1.2.2)) (Ne.symm b1.2.1)) (Ne.symm b1.1)
        exact fun p hp hm => hO p hp (List.mem_singleton.mp hm)
      case main =>
        rintro r9 n9 h9 tk9 F9 N9 ⟨Dn, tlx, pss, kn, ps2, hps2, rfl, rfl, hpf⟩
        have hM : ∀ p ∈ (I₁, oI) :: (C, oC) :: (Dc, lst (prt.map rv)) :: (158, tabObj ps2) :: (D9, lst (prs.map pv9)) :: (pl, lstO (paths.map sval) np) :: (tl, lstO (qs.map sval) nt) :: (Dn, lstO (pss.map sval) kn) :: tl3, p ∈ (((Dn, lstO (pss.map sval) kn) :: (tlx ++ [(158, tabObj ps2)])) ++ ((I₁, oI) :: (C, oC) :: (Dc, lst (prt.map rv)) :: (D9, lst (prs.map pv9)) :: (pl, lstO (paths.map sval) np) :: (tl, lstO (qs.map sval) nt) :: tl3)) := by
          intro p hp
          simp only [List.mem_cons, List.mem_append, List.cons_append] at hp ⊢
          grind
        have N10 : News _ _ _ _ := fun p hp => N9 p (hM p hp)
        have f1 := ne_obj N10 (a := Dn) (b := I₁) (by k_mem) (by k_mem) (by refine ne_cls ?_; rw [hcI]; intro e; injection e with e; exact absurd e (by decide))
        have f2 := ne_obj N10 (a := Dn) (b := C) (o2 := oC) (by k_mem) (by k_mem) (fun e => by obtain ⟨es, ep, hd, _⟩ := hC; rw [← e] at hd; cases hd)
        have f3 := ne_obj N10 (a := Dn) (b := Dc) (by k_mem) (by k_mem) (by refine svals_ne ?_; rw [hpf]; exact parts_ne)
        have f4 := ne_obj N10 (a := Dn) (b := 158) (by k_mem) (by k_mem) (by refine ne_cls ?_; intro e; injection e)
        k_steps
        unfold MySrc
        refine CompEnd.intro F9 N9 _ hM ⟨b1, b2, b3, b4, ⟨f1, f2, f3⟩, bt⟩ ?S ⟨ps2, (Dn, lstO (pss.map sval) kn) :: tl3, prt ++ [(Dn, pss, kn)], hps2, rfl, fun p hp => .tail _ (hsub p hp), by rw [List.map_append]; rfl, RowsIn.append (RowsIn.cons hprt) (all1 (.head _)), ?e1, Off.cons hoff3 f4⟩
        case e1 => rw [List.map_append, List.map_append, hprs2, List.map_cons, List.map_cons, List.map_nil, List.map_nil, ← hpf]; rfl
        case S => exact .inr ⟨lstO (qs.map sval) nt, .tail _ (.tail _ (.tail _ (.head _))), rfl, _, rfl⟩
    · rintro ys news ⟨ps', tl3, prt, hps', rfl, hsub, rfl, hprt, hprs2, hoff3⟩
      intro D10 h10 tk10 F10 N10 off10
      simp only [LCg.Off1] at off10
      obtain ⟨r1, r2, rfl⟩ : ∃ r1 r2, prt = [r1, r2] := by
        have e := congrArg List.length hprs2
        simp only [List.length_map, hql] at e
        cases prt with
        | nil => cases e
        | cons r1 prt => cases prt with
          | nil => cases e
          | cons r2 prt => cases prt with
            | nil => exact ⟨r1, r2, rfl⟩
            | cons _ _ => simp only [List.length_cons] at e; omega
      k_steps
      unfold MySrc
      rename Fr _ _ _ _ => lF
      rename News _ _ _ _ => lN
      refine base_of lN fun B hB => ?_
      refine frame_of lF fun M hM => ?_
      obtain ⟨dt, dh, a0, u1, u2, hdt, hdh, ha0, hm1, hm2, hm3, hm4, n1, n2, n3, n4, n5, n6, n7, n8, n9, o1, o2⟩ : ∃ dt dh a0 u1 u2, (dt, lstO (([] : List (Str × Tok)).map sval) 0) ∈ B ∧ (dh, lstO (fsts [(.ref a0, (Str.ofString "", 0))]) 0) ∈ B ∧ (a0, tupO [.str (Str.ofString "") u1, .int 0 u2]) ∈ B ∧
          M (Str.ofString "heap") = some (.ref dh) ∧ M (Str.ofString "told") = some (.ref dt) ∧ M (Str.ofString "pairs") = some (.ref D9) ∧ M (Str.ofString "parts") = some (.ref D10) ∧
          (@Ne Nat dt dh) ∧ (@Ne Nat a0 dh) ∧ (@Ne Nat a0 dt) ∧ (@Ne Nat D10 dh) ∧ (@Ne Nat D10 dt) ∧ (@Ne Nat 158 dh) ∧ (@Ne Nat 158 dt) ∧ (@Ne Nat D9 dh) ∧ (@Ne Nat D9 dt) ∧ Off tl3 dh ∧ Off tl3 dt := by
        subst hB hM
        exact ⟨_, _, _, _, _, by exact .head _, by exact .tail _ (.head _), by exact .tail _ (.tail _ (.head _)), by rfl, by rfl, by rfl, by rfl, (by first | k_ne | exact Off.of_lt (‹_ ∧ _ ∧ _ ∧ _ ∧ _ ∧ _ ∧ AllLt _ tl3›).2.2.2.2.2.2 | exact Off.of_lt (‹_ ∧ _ ∧ _ ∧ _ ∧ _ ∧ _ ∧ _ ∧ AllLt _ tl3›).2.2.2.2.2.2.2), (by first | k_ne | exact Off.of_lt (‹_ ∧ _ ∧ _ ∧ _ ∧ _ ∧ _ ∧ AllLt _ tl3›).2.2.2.2.2.2 | exact Off.of_lt (‹_ ∧ _ ∧ _ ∧ _ ∧ _ ∧ _ ∧ _ ∧ AllLt _ tl3›).2.2.2.2.2.2.2), (by first | k_ne | exact Off.of_lt (‹_ ∧ _ ∧ _ ∧ _ ∧ _ ∧ _ ∧ AllLt _ tl3›).2.2.2.2.2.2 | exact Off.of_lt (‹_ ∧ _ ∧ _ ∧ _ ∧ _ ∧ _ ∧ _ ∧ AllLt _ tl3›).2.2.2.2.2.2.2), (by first | k_ne | exact Off.of_lt (‹_ ∧ _ ∧ _ ∧ _ ∧ _ ∧ _ ∧ AllLt _ tl3›).2.2.2.2.2.2 | exact Off.of_lt (‹_ ∧ _ ∧ _ ∧ _ ∧ _ ∧ _ ∧ _ ∧ AllLt _ tl3›).2.2.2.2.2.2.2), (by first | k_ne | exact Off.of_lt (‹_ ∧ _ ∧ _ ∧ _ ∧ _ ∧ _ ∧ AllLt _ tl3›).2.2.2.2.2.2 | exact Off.of_lt (‹_ ∧ _ ∧ _ ∧ _ ∧ _ ∧ _ ∧ _ ∧ AllLt _ tl3›).2.2.2.2.2.2.2), (by first | k_ne | exact Off.of_lt (‹_ ∧ _ ∧ _ ∧ _ ∧ _ ∧ _ ∧ AllLt _ tl3›).2.2.2.2.2.2 | exact Off.of_lt (‹_ ∧ _ ∧ _ ∧ _ ∧ _ ∧ _ ∧ _ ∧ AllLt _ tl3›).2.2.2.2.2.2.2), (by first | k_ne | exact Off.of_lt (‹_ ∧ _ ∧ _ ∧ _ ∧ _ ∧ _ ∧ AllLt _ tl3›).2.2.2.2.2.2 | exact Off.of_lt (‹_ ∧ _ ∧ _ ∧ _ ∧ _ ∧ _ ∧ _ ∧ AllLt _ tl3›).2.2.2.2.2.2.2), (by first | k_ne | exact Off.of_lt (‹_ ∧ _ ∧ _ ∧ _ ∧ _ ∧ _ ∧ AllLt _ tl3›).2.2.2.2.2.2 | exact Off.of_lt (‹_ ∧ _ ∧ _ ∧ _ ∧ _ ∧ _ ∧ _ ∧ AllLt _ tl3›).2.2.2.2.2.2.2), (by first | k_ne | exact Off.of_lt (‹_ ∧ _ ∧ _ ∧ _ ∧ _ ∧ _ ∧ AllLt _ tl3›).2.2.2.2.2.2 | exact Off.of_lt (‹_ ∧ _ ∧ _ ∧ _ ∧ _ ∧ _ ∧ _ ∧ AllLt _ tl3›).2.2.2.2.2.2.2), (by first | k_ne | exact Off.of_lt (‹_ ∧ _ ∧ _ ∧ _ ∧ _ ∧ _ ∧ AllLt _ tl3›).2.2.2.2.2.2 | exact Off.of_lt (‹_ ∧ _ ∧ _ ∧ _ ∧ _ ∧ _ ∧ _ ∧ AllLt _ tl3›).2.2.2.2.2.2.2), (by first | k_ne | exact Off.of_lt (‹_ ∧ _ ∧ _ ∧ _ ∧ _ ∧ _ ∧ AllLt _ tl3›).2.2.2.2.2.2 | exact Off.of_lt (‹_ ∧ _ ∧ _ ∧ _ ∧ _ ∧ _ ∧ _ ∧ AllLt _ tl3›).2.2.2.2.2.2.2)⟩
      have hD9 : (D9, lst (prs.map pv9)) ∈ B := by subst hB; k_mem
      have hD10 : (D10, lst ([r1, r2].map rv)) ∈ B := by subst hB; k_mem
      have h158 : (158, tabObj ps') ∈ B := by subst hB; k_mem
      have htl3 : ∀ p ∈ tl3, p ∈ B := by subst hB; intro p hp; repeat (first | exact hp | refine List.mem_cons_of_mem _ ?_)
      rw [← hB] at lN
      rw [← hM] at lF
      have N11 : News _ _ _ ((dh, lstO (fsts [(.ref a0, (Str.ofString "", 0))]) 0) :: (dt, lstO (([] : List (Str × Tok)).map sval) 0) :: (a0, tupO [.str (Str.ofString "") u1, .int 0 u2]) :: (D10, lst ([r1, r2].map rv)) :: (158, tabObj ps') :: (D9, lst (prs.map pv9)) :: tl3) :=
        fun p hp => lN p (allC hdh (allC hdt (allC ha0 (allC hD10 (allC h158 (allC hD9 htl3))))) p hp)
      have hPP : (prs.map (·.2)) = paths.map fun p => splitF p.1 := hprs
      have hQQ : [rs r1, rs r2] = qs.map fun q => partsOf q.1 := hprs2
      rw [← hPP] at hgood
      refine my_start (my_ind (fun f s' => ∃ h tk m ps kh told kt rest, s' = { s with heap := h, toks := tk } ∧ Fr g' L' h m ∧ News g' L' h ((dh, lstO (fsts ps) kh) :: (dt, lstO (told.map sval) kt) :: rest) ∧ m (Str.ofString "heap") = some (.ref dh) ∧ m (Str.ofString "told") = some (.ref dt) ∧ m (Str.ofString "pairs") = some (.ref D9) ∧ m (Str.ofString "parts") = some (.ref D10) ∧
          (D9, lst (prs.map pv9)) ∈ rest ∧ (D10, lst ([r1, r2].map rv)) ∈ rest ∧ (158, tabObj ps') ∈ rest ∧ RowsIn rest [r1, r2] ∧ PairsIn rest prs ∧ Off rest dh ∧ Off rest dt ∧ (∀ p ∈ ps, Is rest p) ∧ WI (prs.map (·.2)) [rs r1, rs r2] (ents ps) (fs told) ∧ ((ents ps).map (wtE (prs.map (·.2)) [rs r1, rs r2])).sum ≤ f) ?_ _ ⟨_, _, _, [(.ref a0, (Str.ofString "", 0))], 0, [], 0, _, rfl, lF, N11, hm1, hm2, hm3, hm4, .tail _ (.tail _ (.tail _ (.head _))), .tail _ (.head _), .tail _ (.tail _ (.head _)), ?j1, ?j2, ?j3, ?j4, ?j5, ?j6, Nat.le_refl _⟩)
      case j1 => exact RowsIn.cons (RowsIn.cons (RowsIn.cons (RowsIn.cons hprt)))
      case j2 =>
        intro p hp
        obtain ⟨w1, w2, hm⟩ := hin p hp
        exact ⟨w1, w2, .tail _ (.tail _ (.tail _ (.tail _ (hsub _ hm))))⟩
      case j3 => exact Off.cons (Off.cons (Off.cons (Off.cons o1 n8) n6) n4) n2
      case j4 => exact Off.cons (Off.cons (Off.cons (Off.cons o2 n9) n7) n5) n3
      case j5 => exact all1 ⟨a0, u1, u2, rfl, .head _⟩
      case j6 => exact wi_init (by rw [List.length_map]; exact hpl9)
      clear lF lN N11 hm1 hm2 hm3 hm4
      rintro f s' ih ⟨h, tk, m', ps, kh, told, kt, rest, rfl, F', N', e1, e2, e3, e4, hD9, hD10, h158, hrw, hpi, hoh, hot, his, hwi, hf⟩ kk
      replace F' := fr_list [(Str.ofString "heap", .ref dh), (Str.ofString "told", .ref dt), (Str.ofString "pairs", .ref D9), (Str.ofString "parts", .ref D10)] F' (allC e1 (allC e2 (allC e3 (all1 e4))))
      simp only [frl] at F'
      clear e1 e2 e3 e4
      refine whl_turn (by passes_own) ?_
      k_steps
      unfold MySrc
      rcases List.eq_nil_or_concat ps with rfl | ⟨qs9, y, rfl⟩
      · refine WhlIf.no rfl ?_
        k_steps
        have hwe := wi_end hwi
        rw [hPP, hQQ] at hwe
        exact leave2 (by assumption) (by assumption) fun kF kN kK => hret _ _ _ _ kF kN kK ⟨dt, told, kt, ps', rfl, hps', .tail _ (.tail _ (.tail _ h158)), .tail _ (.tail _ (.head _)), hwe.1, hwe.2⟩
      · simp only [List.concat_eq_append] at his hwi hf
        refine WhlIf.yes (by simp [fsts]) ?_
        k_steps
        unfold MySrc
        rename News _ _ _ _ => lN
        simp only [List.concat_eq_append] at lN
        have hlen9 := wi_len hwi
        have hlen8 : told.length + (qs9.length + 1) ≤ 2000 := by
          simp only [fs, ents, List.length_map, List.length_append, List.length_cons, List.length_nil] at hlen9
          omega
        have ef : fsts (qs9 ++ [y]) = fsts qs9 ++ [y.1] := by simp [fsts]
        rw [ef] at lN
        have N2 : News _ _ _ ((dh, lstO (fsts qs9 ++ [y.1]) kh) :: (dt, lstO (told.map sval) kt) :: rest) := news_tail lN
        have his2 : ∀ p ∈ qs9 ++ [y], Is ((dt, lstO (told.map sval) kt) :: rest) p := fun p hp => by
          obtain ⟨w1, w2, w3, w4, w5⟩ := his p hp
          exact ⟨w1, w2, w3, w4, .tail _ w5⟩
        have hpop := pop_heap (qs := qs9) (y := y) hwi.1
        have hperm := hpop.2.1
        have hx : popR qs9 y ∈ qs9 ++ [y] := hperm.mem_iff.mp (List.mem_cons_self ..)
        have hpl' : ∀ p ∈ popL qs9 y, p ∈ qs9 ++ [y] := fun p hp => hperm.mem_iff.mp (List.mem_cons_of_mem _ hp)
        have hlq : (popL qs9 y).length = qs9.length := by
          have := hperm.length_eq
          simp only [List.length_cons, List.length_append, List.length_nil] at this
          omega
        k_dflt (refine' Spec.use ?k1 ?k2 ?k3 ?k4 ?k5 ?kK (pop_spec _ _ _ _ _ ((dt, lstO (told.map sval) kt) :: rest) dh qs9 y kh (Off.cons hoh n1) (by omega) (fun p hp => his2 p (List.mem_append_left _ hp)) (his2 y (by simp))) ?kd ?ku ?_; (case k1 => k_asm); (case k2 => k_asm); (case k3 => k_asm); (case k4 => exact N2); (case k5 => k_asm); (case kK => first | exact rfl | assumption); (case kd => ktr_room); (case ku => ktr_units))
        rintro r9 n9 h9 tk9 F9 N9 ⟨rfl, k9, rfl⟩
        obtain ⟨ax, t1, t2, ea, hxm⟩ := his _ hx
        have hxl := hwi.2.2.2.2.1 (popR qs9 y).2 (List.mem_map_of_mem hx)
        have hgo := hpop.1
        rw [ea]
        generalize hxx : popR qs9 y = x at *
        generalize hqq : popL qs9 y = ql at *
        obtain ⟨xv, xs, xd⟩ := x
        dsimp only at ea hxm hxl ⊢
        clear lN N2
        k_steps
        · rename Fr _ _ _ _ => lF
          rename News _ _ _ _ => lN
          have hxd : xd = 2 := by assumption
          have hw9 := wi_tell (qs := qs9) (y := y) hwi (by rw [hxx]; exact hxd)
          rw [hxx, hqq] at hw9
          have el : (told.map sval).toArray.push (Value.str xs t1) = ((told ++ [(xs, t1)]).map sval).toArray := by rw [List.push_toArray, List.map_append]; rfl
          rw [el] at lN
          have efs : fs (told ++ [(xs, t1)]) = fs told ++ [xs] := by simp [fs]
          exact ih _ _ (Nat.lt_of_lt_of_le hw9.2 hf) ⟨_, _, _, ql, k9, told ++ [(xs, t1)], kt + 1, rest, rfl, lF, lN, rfl, rfl, rfl, rfl, hD9, hD10, h158, hrw, hpi, hoh, hot, fun p hp => his _ (hpl' p hp), efs ▸ hw9.1, Nat.le_refl _⟩ 0
        · have hxd : xd ≠ 2 := by assumption
          k_steps
          unfold MyIter
          rename Fr _ _ _ _ => lF
          rename News _ _ _ _ => lN
          refine iter_listTurns (ax := D9) (lo := lst (prs.map pv9)) rfl lF lN (.tail _ (.tail _ hD9)) rfl rfl ?_
          intro I hI
          have hI1 : @Ne Nat dh I := Nat.ne_of_lt (hI _ (.head _))
          have hI2 : @Ne Nat dt I := Nat.ne_of_lt (hI _ (.tail _ (.head _)))
          have hI3 : Off rest I := fun p hp => Nat.ne_of_lt (hI p (.tail _ (.tail _ hp)))
          obtain ⟨rd, hrd, hrdi, hrdr, hrdm⟩ : ∃ rd : Row, ([r1, r2].map rv)[xd.toNat]? = some (rv rd) ∧ RowIn rest rd ∧ [rs r1, rs r2].getD xd.toNat [] = rs rd ∧ rs rd ∈ [rs r1, rs r2] := by
            rcases hxl.1 with rfl | rfl | rfl
            · exact ⟨r1, rfl, hrw _ (.head _), rfl, .head _⟩
            · exact ⟨r2, rfl, hrw _ (.tail _ (.head _)), rfl, .tail _ (.head _)⟩
            · exact absurd rfl hxd
          have hx0 : 0 ≤ xd ∧ xd ≤ 1 := by omega
          have hrq : ∃ q, rs rd = partsOf q := by
            rw [hQQ] at hrdm
            obtain ⟨q, _, e⟩ := List.mem_map.mp hrdm
            exact ⟨_, e.symm⟩
          obtain ⟨q9, hq9⟩ := hrq
          refine items_ind pv9 (fun l m news => ∃ ps2 k2 rest2 done9, prs = done9 ++ l ∧ news = (dh, lstO (fsts ps2) k2) :: (dt, lstO (told.map sval) kt) :: rest2 ∧ m (Str.ofString "heap") = some (.ref dh) ∧ m (Str.ofString "told") = some (.ref dt) ∧ m (Str.ofString "pairs") = some (.ref D9) ∧ m (Str.ofString "parts") = some (.ref D10) ∧ m (Str.ofString "path") = some (.str xs t1) ∧ m (Str.ofString "depth") = some (.int xd t2) ∧
            (∀ p ∈ rest, p ∈ rest2) ∧ Off rest2 dh ∧ Off rest2 dt ∧ Off rest2 I ∧ (∀ p ∈ ps2, Is rest2 p) ∧ Hp (ents ps2) ∧ (ents ps2).Perm (ents ql ++ kids (done9.map (·.2)) [rs r1, rs r2] (xs, xd)) ∧ ps2.length ≤ qs9.length + done9.length) ?done ?step ?keeps prs _ _ ?init
          case init =>
            exact ⟨ql, k9, rest, [], rfl, rfl, rfl, rfl, rfl, rfl, rfl, rfl, fun p hp => hp, hoh, hot, hI3, fun p hp => his _ (hpl' p hp), hgo, by exact (List.append_nil (ents ql)).symm ▸ List.Perm.refl _, by omega⟩
          case keeps =>
            rintro l m9 news ⟨ps2, k2, rest2, done9, _, rfl, _, _, _, _, _, _, hsb, _⟩
            exact ⟨.tail _ (.tail _ (hsb _ hD9)), trivial⟩
          case done =>
            rintro m9 news h10 tk10 ⟨ps2, k2, rest2, done9, hpre, rfl, e1, e2, e3, e4, _, _, hsb, q1, q2, q3, hisp, hhp, hpp, hln⟩ F10 N10
            rw [List.append_nil] at hpre
            subst hpre
            have hw9 := wi_kids (qs := qs9) (y := y) (ps := ps2) hgood hwi (by rw [hxx]; exact hxd) hhp (by rw [hxx, hqq]; exact hpp)
            k_steps
            exact ih _ _ (Nat.lt_of_lt_of_le hw9.2 hf) ⟨_, _, _, ps2, k2, told, kt, rest2, rfl, F10, N10, e1, e2, e3, e4, hsb _ hD9, hsb _ hD10, hsb _ h158, RowsIn.sub hrw hsb, fun p hp => by obtain ⟨w1, w2, hm⟩ := hpi p hp; exact ⟨w1, w2, hsb _ hm⟩, q1, q2, hisp, hw9.1, Nat.le_refl _⟩ 0
          case step =>
            rintro Nx ⟨ap, hs, ts⟩ r m9 news h10 tk10 o ⟨ps2, k2, rest2, done9, hpre, rfl, e1, e2, e3, e4, e5, e6, hsb, q1, q2, q3, hisp, hhp, hpp, hln⟩ hc F10 N10 hnext
            replace F10 := fr_list [(Str.ofString "heap", .ref dh), (Str.ofString "told", .ref dt), (Str.ofString "pairs", .ref D9), (Str.ofString "parts", .ref D10), (Str.ofString "path", .str xs t1), (Str.ofString "depth", .int xd t2)] F10 (allC e1 (allC e2 (allC e3 (allC e4 (allC e5 (all1 e6))))))
            simp only [frl] at F10
            clear e1 e2 e3 e4 e5 e6
            obtain ⟨w1, w2, hm0⟩ := hpi (ap, hs, ts) (by rw [hpre]; simp)
            have hm1 : (ap, tupO [.str hs w1, .str ts w2]) ∈ rest2 := hsb _ hm0
            have hrd2 : (rd.1, lstO (rd.2.1.map sval) rd.2.2) ∈ rest2 := hsb _ hrdi
            have hD10b := hsb _ hD10
            have hgp := hgood (hs, ts) (by rw [hpre]; simp)
            clear hm0
            k_steps
            · unfold MySrc
              have heq : hs = xs := eq_of_beq (by assumption)
              subst heq
              k_dflt (refine' Spec2.pure ?k1 ?k2 ?k3 ?k4 ?k5 ?kK (takes_spec _ _ _ _ _ rd.1 ts w2 rd.2.1 rd.2.2 ?z1 ?z2 ?z3) ?sub ?kd ?ku ?_; (case k1 => k_asm); (case k2 => k_asm); (case k3 => k_asm); (case k4 => k_asm); (case k5 => k_asm); (case kK => first | exact rfl | assumption); (case z1 => exact fun p hp => (parts_in (q := q9)).1 _ (hq9 ▸ List.mem_map_of_mem hp)); (case z2 => exact (by have e := congrArg List.length hq9; have e2 := (parts_in (q := q9)).2; simp only [rs, fs, List.length_map] at e; omega)); (case z3 => exact hgp.1); (case sub => exact all1 (by k_mem)); (case kd => ktr_room); (case ku => ktr_units))
              intro r9 h9 tk9 F9 N9 P9
              subst P9
              try dsimp only
              k_steps
              · unfold MySrc
                have htk9 : takesF ts (fs rd.2.1) = true := by assumption
                rename News _ _ _ _ => lN
                have hln2 : ps2.length ≤ 3000 := by
                  have e := congrArg List.length hpre
                  simp only [List.length_append, List.length_cons] at e
                  omega
                k_dflt (refine' Spec.use ?k1 ?k2 ?k3 ?k4 ?k5 ?kK (join_spec _ _ _ _ _ _ hs ts _ _ (Nat.le_trans hxl.2 (by decide)) (Nat.le_trans hgp.1 (by decide))) ?kd ?ku ?_; (case k1 => k_asm); (case k2 => k_asm); (case k3 => k_asm); (case k4 => exact lN); (case k5 => k_asm); (case kK => first | exact rfl | assumption); (case kd => ktr_room); (case ku => ktr_units))
                rintro r11 n11 h11 tk11 F11 N11 ⟨rfl, tj, rfl⟩
                clear lN
                k_steps
                unfold MySrc
                refine call2_at fun T9 hT9 => ?_
                rename Fr _ _ _ _ => lF
                rename News _ _ _ _ => lN
                refine base_of lN fun B hB => ?_
                obtain ⟨u9, hTm, g1, g2, g3, hBi, hBh, hBt⟩ : ∃ u9, (T9, tupO [.str (joinF hs ts) tj, .int (xd + 1) u9]) ∈ B ∧ (@Ne Nat T9 dh) ∧ (@Ne Nat T9 dt) ∧ (@Ne Nat T9 I) ∧ (I, o) ∈ B ∧ (dh, lstO (fsts ps2) k2) ∈ B ∧ (dt, lstO (told.map sval) kt) ∈ B := by
                  subst hB hT9
                  exact ⟨_, by exact .head _, by k_ne, by k_ne, by k_ne, by k_mem, by k_mem, by k_mem⟩
                have hBr : ∀ p ∈ rest2, p ∈ B := by subst hB; intro p hp; repeat (first | exact hp | refine List.mem_cons_of_mem _ ?_)
                rw [← hB] at lN
                have N12 : News _ _ _ ((dh, lstO (fsts ps2) k2) :: (T9, tupO [.str (joinF hs ts) tj, .int (xd + 1) u9]) :: (I, o) :: (dt, lstO (told.map sval) kt) :: rest2) := fun p hp => lN p (allC hBh (allC hTm (allC hBi (allC hBt hBr))) p hp)
                clear lN
                have hps := push_heap (x := (.ref T9, (joinF hs ts, xd + 1))) hhp
                k_dflt (refine' Spec.use ?k1 ?k2 ?k3 ?k4 ?k5 ?kK (push_spec _ _ _ _ _ ((T9, tupO [.str (joinF hs ts) tj, .int (xd + 1) u9]) :: (I, o) :: (dt, lstO (told.map sval) kt) :: rest2) dh ps2 k2 (.ref T9, (joinF hs ts, xd + 1)) (.ref T9) rfl (Off.cons (Off.cons (Off.cons q1 n1) (Ne.symm hI1)) g1) (by omega) (fun p hp => by obtain ⟨v1, v2, v3, v4, v5⟩ := hisp p hp; exact ⟨v1, v2, v3, v4, .tail _ (.tail _ (.tail _ v5))⟩) ⟨T9, tj, u9, rfl, .head _⟩) ?kd ?ku ?_; (case k1 => k_asm); (case k2 => k_asm); (case k3 => k_asm); (case k4 => exact N12); (case k5 => k_asm); (case kK => first | exact rfl | assumption); (case kd => ktr_room); (case ku => ktr_units))
                rintro r13 n13 h13 tk13 F13 N13 ⟨rfl, k13, rfl⟩
                k_steps
                refine unr_one F13 (fun p hp => N13 p (allC (.tail _ (.tail _ (.head _))) (allC (.head _) (allC (.tail _ (.tail _ (.tail _ (.head _)))) (allC (.tail _ (.head _)) fun p hp => .tail _ (.tail _ (.tail _ (.tail _ hp)))))) p hp)) (allC hI1 (allC hI2 (allC g3 q3)))
                  (hnext _ _ ⟨pushF ps2 (.ref T9, (joinF hs ts, xd + 1)), k13, (T9, tupO [.str (joinF hs ts) tj, .int (xd + 1) u9]) :: rest2, done9 ++ [(ap, hs, ts)], by rw [hpre, List.append_assoc]; rfl, rfl, rfl, rfl, rfl, rfl, rfl, rfl, fun p hp => .tail _ (hsb p hp), Off.cons q1 g1, Off.cons q2 g2, Off.cons q3 g3, ?g5, hps.1, ?g6, ?g7⟩)
                case g5 =>
                  intro p hp
                  rcases List.mem_cons.mp (hps.2.mem_iff.mp hp) with rfl | hp
                  · exact ⟨T9, tj, u9, rfl, .head _⟩
                  · obtain ⟨v1, v2, v3, v4, v5⟩ := hisp p hp
                    exact ⟨v1, v2, v3, v4, .tail _ v5⟩
                case g6 =>
                  rw [List.map_append, List.map_cons, List.map_nil, kids_yes rfl (by rw [hrdr]; exact htk9), ← List.append_assoc]
                  have h5 : (ents (pushF ps2 (.ref T9, (joinF hs ts, xd + 1)))).Perm ((joinF hs ts, xd + 1) :: ents ps2) := hps.2.map _
                  exact h5.trans ((List.Perm.cons _ hpp).trans (List.perm_append_singleton _ _).symm)
                case g7 =>
                  have e := hps.2.length_eq
                  simp only [List.length_cons, List.length_append, List.length_nil] at e ⊢
                  omega
              · have htk9 : takesF ts (fs rd.2.1) = false := by assumption
                rename Fr _ _ _ _ => lF
                rename News _ _ _ _ => lN
                refine unr_one lF lN (allC hI1 (allC hI2 q3)) (hnext _ _ ⟨ps2, k2, rest2, done9 ++ [(ap, hs, ts)], by rw [hpre, List.append_assoc]; rfl, rfl, rfl, rfl, rfl, rfl, rfl, rfl, hsb, q1, q2, q3, hisp, hhp, ?g6, ?g7⟩)
                case g6 =>
                  rw [List.map_append, List.map_cons, List.map_nil, kids_no (.inr (by rw [hrdr]; exact htk9))]
                  exact hpp
                case g7 => simp only [List.length_append, List.length_cons, List.length_nil]; omega
            · have hne9 : (hs == xs) = false := by assumption
              rename Fr _ _ _ _ => lF
              rename News _ _ _ _ => lN
              refine unr_one lF lN (allC hI1 (allC hI2 q3)) (hnext _ _ ⟨ps2, k2, rest2, done9 ++ [(ap, hs, ts)], by rw [hpre, List.append_assoc]; rfl, rfl, rfl, rfl, rfl, rfl, rfl, rfl, hsb, q1, q2, q3, hisp, hhp, ?g6, ?g7⟩)
              case g6 =>
                rw [List.map_append, List.map_cons, List.map_nil, kids_no (.inl hne9)]
                exact hpp
              case g7 => simp only [List.length_append, List.length_cons, List.length_nil]; omega
theorem wd20_off : True := by
  k_with_none
  trivial
end Mine
namespace Mine
noncomputable def joinS (r : List Str) : Str := Txt.join (Str.ofString "/") r
noncomputable def names4 : List Str := [Str.ofString "a", Str.ofString "ab", Str.ofString "b", Str.ofString ".a"]
noncomputable def all1R : List (List Str) := names4.map fun a => [a]
noncomputable def all2R : List (List Str) := names4.flatMap fun a => names4.map fun b => [a, b]
noncomputable def all3R : List (List Str) := names4.flatMap fun a => names4.flatMap fun b => names4.map fun c => [a, b, c]
noncomputable def allR : List (List Str) := all1R ++ (all2R ++ all3R)
noncomputable def gP (r : List Str) : Str × Str := splitF (joinS r)
noncomputable def tbl : List (Str × List Str) := [(Str.ofString "*", [Str.ofString "any"]), (Str.ofString "a*", [Str.ofString "a", Str.ofString "any"]), (Str.ofString "?", [Str.ofString "ab."]), (Str.ofString "*b", [Str.ofString "any", Str.ofString "b"]), (Str.ofString "[!a]*", [Str.ofString "b.", Str.ofString "any"]), (Str.ofString ".?", [Str.ofString ".", Str.ofString "ab."])]
theorem f_split1 : ∀ a ∈ names4, gP [a] = (Str.ofString "", a) := by decide +kernel
theorem f_split2 : ∀ a ∈ names4, ∀ b ∈ names4, gP [a, b] = (a, b) := by decide +kernel
theorem f_split3 : ∀ a ∈ names4, ∀ b ∈ names4, ∀ c ∈ names4, gP [a, b, c] = (joinS [a, b], c) := by decide +kernel
theorem f_good : ∀ r ∈ allR, (joinS r).length ≤ 50 ∧ (gP r).2.length ≤ 10 ∧ (gP r).1.length ≤ 50 ∧ (joinF (gP r).1 (gP r).2).length ≤ 50 ∧ (gP r).1.cps.toList < (joinF (gP r).1 (gP r).2).cps.toList := by decide +kernel
theorem f_join1 : ∀ a ∈ names4, joinF (Str.ofString "") a = a := by decide +kernel
theorem f_join2 : ∀ a ∈ names4, ∀ b ∈ names4, joinF a b = joinS [a, b] := by decide +kernel
theorem f_name : ∀ a ∈ names4, a ≠ Str.ofString "" := by decide +kernel
theorem f_slash : ∀ a ∈ names4, ∀ b ∈ names4, ∀ c ∈ names4, joinS [a, b] ≠ c ∧ joinS [a, b] ≠ Str.ofString "" := by decide +kernel
theorem f_inj : ∀ r ∈ all2R, ∀ s ∈ all2R, joinS r = joinS s → r = s := by decide +kernel
theorem f_takes : ∀ q ∈ tbl, ∀ a ∈ names4, takesF a (partsOf q.1) = fitsF q.2 a := by decide +kernel

theorem mem_names {i : Int} (h0 : 0 ≤ i) (h1 : i < 4) : nm i ∈ names4 := by
  obtain rfl | rfl | rfl | rfl : i = 0 ∨ i = 1 ∨ i = 2 ∨ i = 3 := by omega
  · exact .head _
  · exact .tail _ (.head _)
  · exact .tail _ (.tail _ (.head _))
  · exact .tail _ (.tail _ (.tail _ (.head _)))
noncomputable def RowOk (r : List Str) : Prop := r.length ≤ 3 ∧ ∀ x ∈ r, x ∈ names4
theorem mkRow_ok (n : Int) : RowOk (mkRow n) := by
  have hm : ∀ x : Int, nm (Int.fmod x 4) ∈ names4 := fun x => mem_names (Int.fmod_nonneg_of_pos _ (by decide)) (Int.fmod_lt_of_pos _ (by decide))
  refine ⟨?_, fun x hx => ?_⟩
  · unfold mkRow
    rw [List.length_take]
    exact Nat.min_le_right _ _
  · have := List.mem_of_mem_take hx
    simp only [List.mem_cons, List.mem_nil_iff, or_false] at this
    rcases this with rfl | rfl | rfl <;> exact hm _
theorem base_ok : ∀ r ∈ baseRows, RowOk r := by
  have h : ∀ r ∈ baseRows, r.length ≤ 3 ∧ ∀ x ∈ r, x ∈ names4 := by decide +kernel
  exact h
theorem mem_step {acc : List (List Str)} {row r : List Str} : r ∈ treeStep acc row ↔ r ∈ acc ∨ ∃ i, i < row.length ∧ r = row.take (i + 1) := by
  unfold treeStep
  rw [List.mem_append, List.mem_filter, List.mem_map]
  constructor
  · rintro (h | ⟨⟨i, hi, e⟩, _⟩)
    · exact .inl h
    · exact .inr ⟨i, List.mem_range.mp hi, e.symm⟩
  · rintro (h | ⟨i, hi, e⟩)
    · exact .inl h
    · by_cases q : r ∈ acc
      · exact .inl q
      · refine .inr ⟨⟨i, List.mem_range.mpr hi, e.symm⟩, ?_⟩
        rw [Bool.not_eq_true', List.any_eq_false]
        intro z hz hzr
        rw [eq_of_beq hzr] at hz
        exact q hz
theorem mem_fold : ∀ (xs acc : List (List Str)) (r : List Str), r ∈ xs.foldl treeStep acc ↔ r ∈ acc ∨ ∃ x ∈ xs, ∃ i, i < x.length ∧ r = x.take (i + 1) := by
  intro xs
  induction xs with
  | nil => intro acc r; simp
  | cons x xs ih =>
    intro acc r
    rw [List.foldl_cons, ih, mem_step]
    constructor
    · rintro ((h | h) | ⟨z, hz, h⟩)
      · exact .inl h
      · exact .inr ⟨x, .head _, h⟩
      · exact .inr ⟨z, .tail _ hz, h⟩
    · rintro (h | ⟨z, hz, h⟩)
      · exact .inl (.inl h)
      · rcases List.mem_cons.mp hz with rfl | hz
        · exact .inl (.inr h)
        · exact .inr ⟨z, hz, h⟩
theorem nodup_step {acc : List (List Str)} {row : List Str} (h : acc.Nodup) : (treeStep acc row).Nodup := by
  unfold treeStep
  rw [List.nodup_append]
  refine ⟨h, List.Pairwise.filter _ ?_, fun a ha b hb e => ?_⟩
  · rw [List.pairwise_map]
    refine List.Pairwise.imp_of_mem ?_ (List.nodup_range (n := row.length))
    intro i j hi hj hij e
    have e1 := congrArg List.length e
    rw [List.length_take, List.length_take] at e1
    have := List.mem_range.mp hi
    have := List.mem_range.mp hj
    omega
  · have hb2 := (List.mem_filter.mp hb).2
    rw [Bool.not_eq_true', List.any_eq_false] at hb2
    exact hb2 a ha (by rw [e]; exact beq_self_eq_true _)
theorem nodup_fold : ∀ (xs acc : List (List Str)), acc.Nodup → (xs.foldl treeStep acc).Nodup := by
  intro xs
  induction xs with
  | nil => intro acc h; exact h
  | cons x xs ih => intro acc h; exact ih _ (nodup_step h)
theorem len_fold : ∀ (xs acc : List (List Str)), (∀ x ∈ xs, x.length ≤ 3) → (xs.foldl treeStep acc).length ≤ acc.length + 3 * xs.length := by
  intro xs
  induction xs with
  | nil => intro acc _; simp
  | cons x xs ih =>
    intro acc h
    have h1 := ih (treeStep acc x) fun z hz => h z (.tail _ hz)
    have h2 : (treeStep acc x).length ≤ acc.length + 3 := by
      unfold treeStep
      rw [List.length_append]
      have := List.length_filter_le (fun r => !(acc.any fun q => q == r)) ((List.range x.length).map fun i => x.take (i + 1))
      rw [List.length_map, List.length_range] at this
      have := h x (.head _)
      omega
    rw [List.foldl_cons, List.length_cons]
    omega
theorem tree_src {js : List Int} : ∀ x ∈ baseRows ++ js.map mkRow, RowOk x := fun x hx => by
  rcases List.mem_append.mp hx with hx | hx
  · exact base_ok x hx
  · obtain ⟨j, _, rfl⟩ := List.mem_map.mp hx
    exact mkRow_ok j
theorem tree_len {js : List Int} (hj : js.length ≤ 5) : (treeF js).length ≤ 24 := by
  have := len_fold (baseRows ++ js.map mkRow) [] fun x hx => (tree_src x hx).1
  have e : (baseRows ++ js.map mkRow).length = 3 + js.length := by rw [List.length_append, List.length_map]; rfl
  rw [e] at this
  show ((baseRows ++ js.map mkRow).foldl treeStep []).length ≤ 24
  simp only [List.length_nil] at this
  omega
theorem tree_nodup {js : List Int} : (treeF js).Nodup := nodup_fold _ _ List.nodup_nil
theorem tree_all {js : List Int} : ∀ r ∈ treeF js, r ∈ allR := by
  intro r hr
  rcases (mem_fold _ _ _).mp hr with h | ⟨x, hx, i, hi, rfl⟩
  · cases h
  · obtain ⟨h1, h2⟩ := tree_src x hx
    have hl : (x.take (i + 1)).length = i + 1 := by rw [List.length_take]; omega
    have hm : ∀ z ∈ x.take (i + 1), z ∈ names4 := fun z hz => h2 z (List.mem_of_mem_take hz)
    generalize x.take (i + 1) = r at hl hm
    have hr3 : r.length ≤ 3 := by omega
    match r, hl, hr3, hm with
    | [a], _, _, hm => exact List.mem_append_left _ (List.mem_map.mpr ⟨a, hm a (.head _), rfl⟩)
    | [a, b], _, _, hm => exact List.mem_append_right _ (List.mem_append_left _ (List.mem_flatMap.mpr ⟨a, hm a (.head _), List.mem_map.mpr ⟨b, hm b (.tail _ (.head _)), rfl⟩⟩))
    | [a, b, c], _, _, hm => exact List.mem_append_right _ (List.mem_append_right _ (List.mem_flatMap.mpr ⟨a, hm a (.head _), List.mem_flatMap.mpr ⟨b, hm b (.tail _ (.head _)), List.mem_map.mpr ⟨c, hm c (.tail _ (.tail _ (.head _))), rfl⟩⟩⟩))
theorem tree_up {js : List Int} {a b : Str} (h : [a, b] ∈ treeF js) : [a] ∈ treeF js := by
  rcases (mem_fold _ _ _).mp h with h | ⟨x, hx, i, hi, e⟩
  · cases h
  · refine (mem_fold _ _ _).mpr (.inr ⟨x, hx, 0, by omega, ?_⟩)
    have e2 := congrArg (List.take 1) e
    rw [List.take_take] at e2
    have : min 1 (i + 1) = 0 + 1 := by omega
    rw [this] at e2
    exact e2
theorem all_cases {r : List Str} (h : r ∈ allR) : (∃ a ∈ names4, r = [a]) ∨ (∃ a ∈ names4, ∃ b ∈ names4, r = [a, b]) ∨ (∃ a ∈ names4, ∃ b ∈ names4, ∃ c ∈ names4, r = [a, b, c]) := by
  rcases List.mem_append.mp h with h | h
  · obtain ⟨a, ha, rfl⟩ := List.mem_map.mp h
    exact .inl ⟨a, ha, rfl⟩
  · rcases List.mem_append.mp h with h | h
    · obtain ⟨a, ha, h⟩ := List.mem_flatMap.mp h
      obtain ⟨b, hb, rfl⟩ := List.mem_map.mp h
      exact .inr (.inl ⟨a, ha, b, hb, rfl⟩)
    · obtain ⟨a, ha, h⟩ := List.mem_flatMap.mp h
      obtain ⟨b, hb, h⟩ := List.mem_flatMap.mp h
      obtain ⟨c, hc, rfl⟩ := List.mem_map.mp h
      exact .inr (.inr ⟨a, ha, b, hb, c, hc, rfl⟩)
theorem mem_all2 {a b : Str} (ha : a ∈ names4) (hb : b ∈ names4) : [a, b] ∈ all2R := List.mem_flatMap.mpr ⟨a, ha, List.mem_map.mpr ⟨b, hb, rfl⟩⟩
noncomputable def dueT (i1 i2 : List Str) (r : List Str) : Bool := match r with
  | [a, b] => fitsF i1 a && fitsF i2 b
  | _ => false
section
variable {js : List Int} {q1 q2 : Str} {i1 i2 : List Str}
theorem head1 {r : List Str} (hr : r ∈ allR) : (gP r).1 = Str.ofString "" ↔ ∃ a ∈ names4, r = [a] := by
  rcases all_cases hr with ⟨a, ha, rfl⟩ | ⟨a, ha, b, hb, rfl⟩ | ⟨a, ha, b, hb, c, hc, rfl⟩
  · rw [f_split1 a ha]; exact ⟨fun _ => ⟨a, ha, rfl⟩, fun _ => rfl⟩
  · rw [f_split2 a ha b hb]; exact ⟨fun e => absurd e (f_name a ha), fun ⟨_, _, e⟩ => nomatch e⟩
  · rw [f_split3 a ha b hb c hc]; exact ⟨fun e => absurd e (f_slash a ha b hb c hc).2, fun ⟨_, _, e⟩ => nomatch e⟩
theorem head2 {r : List Str} (hr : r ∈ allR) {a : Str} (ha : a ∈ names4) : (gP r).1 = a ↔ ∃ b ∈ names4, r = [a, b] := by
  rcases all_cases hr with ⟨x, hx, rfl⟩ | ⟨x, hx, b, hb, rfl⟩ | ⟨x, hx, b, hb, c, hc, rfl⟩
  · rw [f_split1 x hx]; exact ⟨fun e => absurd e.symm (f_name a ha), fun ⟨_, _, e⟩ => nomatch e⟩
  · rw [f_split2 x hx b hb]
    exact ⟨fun e => ⟨b, hb, by rw [← e]⟩, fun ⟨_, _, e⟩ => by injection e⟩
  · rw [f_split3 x hx b hb c hc]; exact ⟨fun e => absurd e (f_slash x hx b hb a ha).1, fun ⟨_, _, e⟩ => nomatch e⟩
theorem mem_kids {P : List (Str × Str)} {parts : List (List Str)} {e k : Str × Int} : k ∈ kids P parts e ↔ ∃ p ∈ P, p.1 = e.1 ∧ takesF p.2 (parts.getD e.2.toNat []) = true ∧ k = (joinF e.1 p.2, e.2 + 1) := by
  unfold kids
  rw [List.mem_map]
  constructor
  · rintro ⟨p, hp, rfl⟩
    have h := List.mem_filter.mp hp
    rw [Bool.and_eq_true, beq_iff_eq] at h
    exact ⟨p, h.1, h.2.1, h.2.2, rfl⟩
  · rintro ⟨p, hp, h1, h2, rfl⟩
    refine ⟨p, List.mem_filter.mpr ⟨hp, ?_⟩, rfl⟩
    rw [Bool.and_eq_true, beq_iff_eq]
    exact ⟨h1, h2⟩
theorem mem_lv1 {rows : List (List Str)} (hall : ∀ r ∈ rows, r ∈ allR) {p1 p2 : List Str} {a x : Str} (ha : a ∈ names4) : x ∈ lv (rows.map gP) [p1, p2] 1 (a, 1) ↔ ∃ b ∈ names4, [a, b] ∈ rows ∧ takesF b p2 = true ∧ x = joinS [a, b] := by
  show x ∈ (kids (rows.map gP) [p1, p2] (a, 1)).flatMap (lv (rows.map gP) [p1, p2] 0) ↔ _
  rw [List.mem_flatMap]
  constructor
  · rintro ⟨k, hk, hx⟩
    obtain ⟨p, hp, h1, h2, rfl⟩ := mem_kids.mp hk
    obtain ⟨s, hs, rfl⟩ := List.mem_map.mp hp
    obtain ⟨b, hb, rfl⟩ := (head2 (hall s hs) ha).mp h1
    rw [f_split2 a ha b hb] at h2 hx
    have hx2 : x = joinF a b := List.mem_singleton.mp hx
    exact ⟨b, hb, hs, h2, hx2.trans (f_join2 a ha b hb)⟩
  · rintro ⟨b, hb, hs, h2, rfl⟩
    refine ⟨(joinF a b, 1 + 1), mem_kids.mpr ⟨gP [a, b], List.mem_map_of_mem hs, ?_, ?_, ?_⟩, ?_⟩
    · rw [f_split2 a ha b hb]
    · rw [f_split2 a ha b hb]; exact h2
    · rw [f_split2 a ha b hb]
    · exact List.mem_singleton.mpr (f_join2 a ha b hb).symm
theorem mem_root {rows : List (List Str)} (hall : ∀ r ∈ rows, r ∈ allR) {p1 p2 : List Str} {k : Str × Int} : k ∈ kids (rows.map gP) [p1, p2] (Str.ofString "", 0) ↔ ∃ a ∈ names4, [a] ∈ rows ∧ takesF a p1 = true ∧ k = (a, 1) := by
  rw [mem_kids]
  constructor
  · rintro ⟨p, hp, h1, h2, rfl⟩
    obtain ⟨r, hr, rfl⟩ := List.mem_map.mp hp
    obtain ⟨a, ha, rfl⟩ := (head1 (hall r hr)).mp h1
    rw [f_split1 a ha] at h2 ⊢
    exact ⟨a, ha, hr, h2, by rw [f_join1 a ha]; rfl⟩
  · rintro ⟨a, ha, hr, h2, rfl⟩
    refine ⟨gP [a], List.mem_map_of_mem hr, ?_, ?_, ?_⟩
    · rw [f_split1 a ha]
    · rw [f_split1 a ha]; exact h2
    · rw [f_split1 a ha, f_join1 a ha]; rfl
theorem lv_perm (h1 : (q1, i1) ∈ tbl) (h2 : (q2, i2) ∈ tbl) : (lvE ((treeF js).map gP) [partsOf q1, partsOf q2] (Str.ofString "", 0)).Perm (((treeF js).filter (dueT i1 i2)).map joinS) := by
  have hall := tree_all (js := js)
  have hnd := tree_nodup (js := js)
  have hup := @tree_up js
  generalize treeF js = rows at hall hnd hup
  have t1 := f_takes _ h1
  have t2 := f_takes _ h2
  dsimp only at t1 t2
  have eL : lvE (rows.map gP) [partsOf q1, partsOf q2] (Str.ofString "", 0) = (kids (rows.map gP) [partsOf q1, partsOf q2] (Str.ofString "", 0)).flatMap (lv (rows.map gP) [partsOf q1, partsOf q2] 1) := rfl
  rw [eL, List.perm_ext_iff_of_nodup]
  · intro x
    rw [List.mem_flatMap, List.mem_map]
    constructor
    · rintro ⟨k, hk, hx⟩
      obtain ⟨a, ha, hr, h3, rfl⟩ := (mem_root hall).mp hk
      obtain ⟨b, hb, hs, h4, rfl⟩ := (mem_lv1 hall ha).mp hx
      refine ⟨[a, b], List.mem_filter.mpr ⟨hs, ?_⟩, rfl⟩
      show (fitsF i1 a && fitsF i2 b) = true
      rw [← t1 a ha, ← t2 b hb, h3, h4]; rfl
    · rintro ⟨s, hs, rfl⟩
      obtain ⟨hs, hd⟩ := List.mem_filter.mp hs
      rcases all_cases (hall s hs) with ⟨a, ha, rfl⟩ | ⟨a, ha, b, hb, rfl⟩ | ⟨a, ha, b, hb, c, hc, rfl⟩
      · cases hd
      · have hd' : (fitsF i1 a && fitsF i2 b) = true := hd
        rw [← t1 a ha, ← t2 b hb, Bool.and_eq_true] at hd'
        exact ⟨(a, 1), (mem_root hall).mpr ⟨a, ha, hup hs, hd'.1, rfl⟩, (mem_lv1 hall ha).mpr ⟨b, hb, hs, hd'.2, rfl⟩⟩
      · cases hd
  · rw [List.Nodup, List.pairwise_flatMap]
    refine ⟨fun k hk => ?_, ?_⟩
    · obtain ⟨a, ha, hr, h3, rfl⟩ := (mem_root hall).mp hk
      show List.Pairwise _ ((kids (rows.map gP) [partsOf q1, partsOf q2] (a, 1)).flatMap (lv (rows.map gP) [partsOf q1, partsOf q2] 0))
      rw [List.pairwise_flatMap]
      refine ⟨fun e _ => List.pairwise_singleton _ _, ?_⟩
      unfold kids
      rw [List.pairwise_map, List.pairwise_filter, List.pairwise_map]
      refine List.Pairwise.imp_of_mem ?_ hnd
      intro s s' hs hs' hne hc hc' x hx y hy e
      rw [Bool.and_eq_true, beq_iff_eq] at hc hc'
      obtain ⟨b, hb, rfl⟩ := (head2 (hall s hs) ha).mp hc.1
      obtain ⟨b', hb', rfl⟩ := (head2 (hall s' hs') ha).mp hc'.1
      rw [f_split2 a ha b hb] at hx
      rw [f_split2 a ha b' hb'] at hy
      have hx2 : x = joinF a b := List.mem_singleton.mp hx
      have hy2 : y = joinF a b' := List.mem_singleton.mp hy
      rw [hx2, hy2, f_join2 a ha b hb, f_join2 a ha b' hb'] at e
      exact hne (f_inj _ (mem_all2 ha hb) _ (mem_all2 ha hb') e)
    · have hk : ∀ k ∈ kids (rows.map gP) [partsOf q1, partsOf q2] (Str.ofString "", 0), k ∈ kids (rows.map gP) [partsOf q1, partsOf q2] (Str.ofString "", 0) := fun _ h => h
      have hp : List.Pairwise (fun e e' : Str × Int => e.1 ≠ e'.1) (kids (rows.map gP) [partsOf q1, partsOf q2] (Str.ofString "", 0)) := by
        unfold kids
        rw [List.pairwise_map, List.pairwise_filter, List.pairwise_map]
        refine List.Pairwise.imp_of_mem ?_ hnd
        intro r r' hr hr' hne hc hc' e
        rw [Bool.and_eq_true, beq_iff_eq] at hc hc'
        obtain ⟨a, ha, rfl⟩ := (head1 (hall r hr)).mp hc.1
        obtain ⟨a', ha', rfl⟩ := (head1 (hall r' hr')).mp hc'.1
        rw [f_split1 a ha, f_split1 a' ha'] at e
        have e2 : joinF (Str.ofString "") a = joinF (Str.ofString "") a' := e
        rw [f_join1 a ha, f_join1 a' ha'] at e2
        exact hne (by rw [e2])
      refine List.Pairwise.imp_of_mem ?_ hp
      intro e e' he he' hne x hx y hy exy
      obtain ⟨a, ha, hr, h3, rfl⟩ := (mem_root hall).mp he
      obtain ⟨a', ha', hr', h3', rfl⟩ := (mem_root hall).mp he'
      obtain ⟨b, hb, hs, h4, rfl⟩ := (mem_lv1 hall ha).mp hx
      obtain ⟨b', hb', hs', h4', rfl⟩ := (mem_lv1 hall ha').mp hy
      have := f_inj _ (mem_all2 ha hb) _ (mem_all2 ha' hb') exy
      injection this with h5
      exact hne h5
  · rw [List.Nodup, List.pairwise_map, List.pairwise_filter]
    refine List.Pairwise.imp_of_mem ?_ hnd
    intro s s' hs hs' hne hd hd' e
    have h2 : ∀ s ∈ rows, dueT i1 i2 s = true → s ∈ all2R := fun s hs hd => by
      rcases all_cases (hall s hs) with ⟨a, ha, rfl⟩ | ⟨a, ha, b, hb, rfl⟩ | ⟨a, ha, b, hb, c, hc, rfl⟩
      · cases hd
      · exact mem_all2 ha hb
      · cases hd
    exact hne (f_inj _ (h2 s hs hd) _ (h2 s' hs' hd') e)
theorem risingS_pw : ∀ (l : List Str) (p : Str), risingS p l = true → (p :: l).Pairwise leS := by
  have tr : ∀ {a b c : Str}, leS a b → leS b c → leS a c := fun {a b c} h k q => by
    rcases sl_tri a.cps.toList b.cps.toList with u | u | u
    · exact k (sl_trans q u)
    · exact k (u ▸ q)
    · exact h u
  intro l
  induction l with
  | nil => intro p _; exact List.pairwise_singleton _ _
  | cons x r ih =>
    intro p h
    have h' : (!ltCps x.cps.toList p.cps.toList && risingS x r) = true := h
    rw [Bool.and_eq_true, Bool.not_eq_true', ltCps_eq, decide_eq_false_iff_not] at h'
    have hx := ih x h'.2
    refine List.Pairwise.cons (fun y hy => ?_) hx
    rcases List.mem_cons.mp hy with rfl | hy
    · exact h'.1
    · exact tr h'.1 ((List.pairwise_cons.mp hx).1 y hy)
theorem sorted_pw {l : List Str} (h : sortedS l = true) : l.Pairwise leS := by
  cases l with
  | nil => exact .nil
  | cons x r => exact risingS_pw r x h
theorem told_eq {told due : List Str} (h1 : (q1, i1) ∈ tbl) (h2 : (q2, i2) ∈ tbl) (ht : told.Pairwise leS) (hp : told.Perm (lvE ((treeF js).map gP) [partsOf q1, partsOf q2] (Str.ofString "", 0)))
    (hd : sortedS due = true) (hq : due.Perm (((treeF js).filter (dueT i1 i2)).map joinS)) : told = due := by
  refine List.Perm.eq_of_pairwise (le := leS) (fun a b _ _ h k => ?_) ht (sorted_pw hd) (hp.trans ((lv_perm h1 h2).trans hq.symm))
  rcases sl_tri a.cps.toList b.cps.toList with u | u | u
  · exact absurd u k
  · exact str_ext u
  · exact absurd u h
theorem tree_good : GoodP ((treeF js).map gP) := fun p hp => by
  obtain ⟨r, hr, rfl⟩ := List.mem_map.mp hp
  have h := f_good r (tree_all r hr)
  exact ⟨h.2.1, h.2.2.1, h.2.2.2.1, h.2.2.2.2⟩
theorem tree_path : ∀ r ∈ treeF js, (joinS r).length ≤ 50 := fun r hr => (f_good r (tree_all r hr)).1
end
end Mine
namespace Mine
open PyProof.Rows.LCg PyProof.Rows.LCt
local macro_rules | `(tactic| k_mem) => `(tactic| assumption)
local macro_rules | `(tactic| k_all) => `(tactic| assumption)
theorem wd22_1 : True := by
  (k_with "eval ListComp" => ((refine my_src ?_)))
  (k_with "CompSrc" => ((refine my_src ?_)))
  (k_with "CompSrcT" => ((refine my_src ?_)))
  (k_with "CompEnd" => ((refine my_src ?_)))
  (k_with "call ref" => ((refine my_src ?_)))
  (k_with "subscriptTail Name BinOp ref int" => ((refine my_src ?_)))
  (k_with "execs cons" => (first | ((with_reducible refine execs_tk (by first | (((try dsimp only); (repeat (first | with_reducible assumption | apply Tk.add))); done) | exact (Nat.zero_le _ : Tk 0 _)) ?_); try dsimp only) | ((with_reducible refine wpAny_execs_cons ?_); try dsimp only)))
  (k_with "TkK" => ((refine tkk fun l9 => ?_; (try dsimp only at l9); (try dsimp only))))
  (k_with "call builtin:sorted" => ((refine my_src ?_)))
  (k_with "subscriptTail Name Constant ref int" => (((with_reducible show wpAny _ _ (subscriptTail _ _ (Value.ref _) (Value.int _ _)) _ _ _); k_dflt (refine' sub_any ?k1 ?k2 ?k3 ?k4 ?k5 ?_ ?k7; (case k1 => k_asm); (case k2 => k_mem); (case k3 => omega); (case k4 => omega); (case k5 => exact rfl); (case k7 => with_unfolding_all rfl)))))
  (k_with "call builtin:len" => (((with_reducible show wpAny _ _ (call (Value.builtin "len") [Value.ref _]) _ _ _); k_dflt (first | (refine' len_k 2 ?k1 ?k2 ?k3 ?_; (case k1 => k_asm); (case k2 => k_mem); (case k3 => exact rfl); k_whole) | (refine' len_k 1 ?k1 ?k2 ?k3 ?_; (case k1 => k_asm); (case k2 => k_mem); (case k3 => exact rfl); k_whole) | (refine' len_k 3 ?k1 ?k2 ?k3 ?_; (case k1 => k_asm); (case k2 => k_mem); (case k3 => exact rfl); k_whole) | (refine' len_k 0 ?k1 ?k2 ?k3 ?_; (case k1 => k_asm); (case k2 => k_mem); (case k3 => exact rfl); k_whole)))))
  (k_with "call builtin:str.join" => ((refine my_src ?_)))
  (k_with "compareOp Eq ref ref" => ((refine my_src ?_)))
  trivial
noncomputable abbrev rowP (p : Row) : Addr × Obj := (p.1, rowO p)
theorem rows_own (rows : List Row) : RowsIn (rows.map rowP) rows := fun p hp => List.mem_map_of_mem (f := rowP) hp
theorem rows_off {h₀ h : Heap} {L b : Addr} {news : List (Addr × Obj)} {rows : List Row} {o : Obj} {pv : Option Value} (N : News h₀ L h news) (h1 : ∀ p ∈ rows.map rowP, p ∈ news) (h2 : (b, o) ∈ news) (hd : o.data = .cell pv) : Off (rows.map rowP) b := fun p hp => by
  obtain ⟨q, hq, rfl⟩ := List.mem_map.mp hp
  exact ne_cell N (h1 _ hp) h2 hd
theorem sub_at {M : Model} {A : Around} {E : Value → Shared → Prop} {s : Shared} {Q : Value → Shared → Prop} {v sl : PySem.Expr} {a : Addr} {i : Value} (k : ∀ x, x = a → wpAny M A (subscriptTail v sl (.ref x) i) Q E s) : wpAny M A (subscriptTail v sl (.ref a) i) Q E s := k a rfl
theorem regroup {h₀ h : Heap} {L : Addr} {x0 x1 x2 x3 x4 x5 x6 x7 x8 x9 x10 x11 x12 x13 d c1 c2 t : Addr × Obj} {R : List (Addr × Obj)} {P : Prop} (N : News h₀ L h (x0 :: x1 :: x2 :: x3 :: x4 :: x5 :: x6 :: x7 :: x8 :: x9 :: x10 :: x11 :: x12 :: x13 :: d :: c1 :: c2 :: t :: R))
    (k : ∀ TB, TB = x1 :: x2 :: x3 :: x4 :: x5 :: x6 :: x7 :: x8 :: x9 :: x10 :: x11 :: x12 :: x13 :: R → News h₀ L h (d :: c1 :: c2 :: t :: TB) → P) : P :=
  k _ rfl fun p hp => N p (by simp only [List.mem_cons] at hp ⊢; grind)
noncomputable def IsSeq (news : List (Addr × Obj)) : Prop := ∀ p ∈ news, ∃ xs n, p.2.data = .seq xs n
theorem off_cell {h₀ h : Heap} {L b : Addr} {news tb : List (Addr × Obj)} {o : Obj} {pv : Option Value} (N : News h₀ L h news) (hs : IsSeq tb) (h1 : ∀ p ∈ tb, p ∈ news) (h2 : (b, o) ∈ news) (hd : o.data = .cell pv) : Off tb b := fun p hp => by
  obtain ⟨xs, n, e⟩ := hs p hp
  refine ne_obj N (h1 p hp) h2 fun e2 => ?_
  rw [e2, hd] at e
  cases e
theorem off_tab {h₀ h : Heap} {L b : Addr} {news tb : List (Addr × Obj)} {ps : Array Value} (N : News h₀ L h news) (hs : IsSeq tb) (h1 : ∀ p ∈ tb, p ∈ news) (h2 : (b, tabObj ps) ∈ news) : Off tb b := fun p hp => by
  obtain ⟨xs, n, e⟩ := hs p hp
  refine ne_obj N (h1 p hp) h2 fun e2 => ?_
  rw [e2] at e
  cases e
noncomputable def TblIn (news : List (Addr × Obj)) (T : Addr) : Prop := ∀ i : Int, 0 ≤ i → i < 6 → ∃ vs k tp pat pt il, ∃ its : List (Str × Tok), ∃ k2, (T, lstO vs k) ∈ news ∧ vs[i.toNat]? = some (.ref tp) ∧ (tp, tupO [.str pat pt, .ref il]) ∈ news ∧ (il, lstO (its.map sval) k2) ∈ news ∧ (pat, fs its) ∈ tbl
theorem sub_tbl {prog : Program} {w : World} {A : Around} {E : Value → Shared → Prop} {s : Shared} {h₀ : Heap} {L T : Addr} {news TB : List (Addr × Obj)} {x : Int} {u : Tok} {value slice : PySem.Expr} {Q : Value → Shared → Prop} (N : News h₀ L s.heap news) (hT : TblIn TB T) (hsub : ∀ p ∈ TB, p ∈ news)
    (h : ∀ tp pat pt il (its : List (Str × Tok)) k, (tp, tupO [.str pat pt, .ref il]) ∈ TB → (il, lstO (its.map sval) k) ∈ TB → (pat, fs its) ∈ tbl → Q (.ref tp) s)
    (hs : subscripted slice false (.ref T) (.int (Int.fmod x 6) u) = operate [.ref T, .int (Int.fmod x 6) u] (getItem (.ref T) (.int (Int.fmod x 6) u)) := by with_unfolding_all rfl) :
    wpAny (model prog w) A (subscriptTail value slice (.ref T) (.int (Int.fmod x 6) u)) Q E s := by
  have h0 : 0 ≤ Int.fmod x 6 := Int.fmod_nonneg_of_pos _ (by decide)
  have h1 : Int.fmod x 6 < 6 := Int.fmod_lt_of_pos _ (by decide)
  obtain ⟨vs, k, tp, pat, pt, il, its, k2, m1, m2, m3, m4, m5⟩ := hT _ h0 h1
  exact sub_any N (hsub _ m1) h0 (by omega) m2 (h tp pat pt il its k2 m3 m4 m5) hs
theorem tree_name {rows : List Row} {l : List Int} {P : Prop} (h : rows.map rs = treeF l) (k : ∀ js, js = l → rows.map rs = treeF js → P) : P := k l rfl h
theorem len_k {prog : Program} {w : World} {A : Around} {E : Value → Shared → Prop} {s : Shared} {h₀ : Heap} {L D : Addr} {news : List (Addr × Obj)} {vs : List Value} {n : Nat} {Q : Value → Shared → Prop} (c : Nat) (N : News h₀ L s.heap news) (hm : (D, lstO vs n) ∈ news) (hb : vs.length = c)
    (h : Q (.int (c : Nat) (s.toks + 1)) { s with toks := s.toks + 1 + 1 }) (hc : c ≤ 1000 := by decide) : wpAny (model prog w) A (call (.builtin "len") [.ref D]) Q E s := by
  subst hb
  exact len_any N hm (by omega) h
theorem tbl_len : ∀ q ∈ tbl, q.1 ∈ pats ∧ q.2.length ≤ 2 ∧ ∀ x ∈ q.2, x.length ≤ 10 := by decide +kernel
theorem all_ok : ∀ r ∈ allR, JoinOk (Str.ofString "/") r = true ∧ r.length ≤ 3 ∧ ∀ x ∈ r, x.length ≤ 10 := by decide +kernel
theorem due_no {i1 i2 r : List Str} (h : r.length ≠ 2) : dueT i1 i2 r = false := by
  unfold dueT
  split
  · exact absurd rfl h
  · rfl
theorem law_holds : PySem.Challenge.rw_il0042_01.Holds := hd (by
  k_go0
  all_goals try k_fold
  k_steps
  unfold MySrc
  rename IntsAre _ (List.take 5 _) => hI5
  rename (List.take 5 _).length = _ => hl5
  refine tk_q (n := 1) (Nat.succ_le_succ (Nat.zero_le _)) ?_
  refine' Spec2.use ?k1 ?k2 ?k3 ?k4 ?k5 ?kK (tree_spec _ _ _ _ _ _ _ _ hI5 ?hj _) ?sub ?kd ?ku ?kept ?main
  case k1 => k_asm
  case k2 => k_asm
  case k3 => k_asm
  case k4 => k_asm
  case k5 => k_asm
  case kK => exact rfl
  case hj => omega
  case sub => exact all1 (by k_mem)
  case kd => ktr_room
  case ku => ktr_units
  case kept =>
    rintro r n' ⟨D, rows, k, _, _, _, _, hs⟩
    exact all1 hs
  case main =>
    rename News _ _ _ _ => lN0
    rintro r9 n9 h9 tk9 F9 N9 ⟨Dr, rows, kr, rfl, hDr, hrows, htree, hsl9⟩
    refine tree_name htree fun js hjs htr => ?_
    have hjl : js.length ≤ 5 := by rw [hjs]; omega
    clear htree
    have htree := htr
    clear htr
    refine tkk fun htk => ?_
    dsimp only at htk ⊢
    have hsub8 : ∀ p ∈ rows.map rowP, p ∈ n9 := fun p hp => by
      obtain ⟨q, hq, rfl⟩ := List.mem_map.mp hp
      exact hrows q hq
    have oc1 := rows_off N9 (fun p hp => List.mem_append_left _ (hsub8 p hp)) (List.mem_append_right _ (.tail _ (.head _))) (by assumption)
    have oc2 := rows_off N9 (fun p hp => List.mem_append_left _ (hsub8 p hp)) (List.mem_append_right _ (.tail _ (.tail _ (.head _)))) (by assumption)
    have dc1 := ne_cell N9 (List.mem_append_left _ hDr) (List.mem_append_right _ (.tail _ (.head _))) (by assumption)
    have dc2 := ne_cell N9 (List.mem_append_left _ hDr) (List.mem_append_right _ (.tail _ (.tail _ (.head _)))) (by assumption)
    have hseq0 : IsSeq (rows.map rowP) := fun p hp => by
      obtain ⟨q, hq, rfl⟩ := List.mem_map.mp hp
      exact ⟨_, _, rfl⟩
    have o158 := off_tab N9 hseq0 (fun p hp => List.mem_append_left _ (hsub8 p hp)) (List.mem_append_right _ (.tail _ (.tail _ (.tail _ (.head _)))))
    have d158 := ne_obj N9 (List.mem_append_left _ hDr) (List.mem_append_right _ (.tail _ (.tail _ (.tail _ (.head _))))) (by intro e; have := congrArg Obj.cls e; cases this)
    have N10 : News _ _ _ (_ :: _ :: _ :: _ :: rows.map rowP) := fun p hp => N9 p (allC (List.mem_append_left _ hDr) (allC (List.mem_append_right _ (.tail _ (.head _))) (allC (List.mem_append_right _ (.tail _ (.tail _ (.head _)))) (allC (List.mem_append_right _ (.tail _ (.tail _ (.tail _ (.head _))))) (fun p hp => List.mem_append_left _ (hsub8 p hp))))) p hp)
    clear N9 lN0
    have hrows2 : RowsIn (rows.map rowP) rows := rows_own rows
    clear hrows hDr hsl9 hsub8
    k_steps
    unfold MySrc
    refine sub_at fun T hT => ?_
    rename News _ _ _ _ => lN
    refine regroup lN fun TB hTB N11 => ?_
    clear lN
    have hTbl : TblIn TB T := by
      subst hTB hT
      intro i h0 h1
      obtain rfl | rfl | rfl | rfl | rfl | rfl : i = 0 ∨ i = 1 ∨ i = 2 ∨ i = 3 ∨ i = 4 ∨ i = 5 := by omega
      · exact ⟨_, _, _, _, _, _, [(_, _)], _, by k_mem, by rfl, by k_mem, by k_mem, .head _⟩
      · exact ⟨_, _, _, _, _, _, [(_, _), (_, _)], _, by k_mem, by rfl, by k_mem, by k_mem, .tail _ (.head _)⟩
      · exact ⟨_, _, _, _, _, _, [(_, _)], _, by k_mem, by rfl, by k_mem, by k_mem, .tail _ (.tail _ (.head _))⟩
      · exact ⟨_, _, _, _, _, _, [(_, _), (_, _)], _, by k_mem, by rfl, by k_mem, by k_mem, .tail _ (.tail _ (.tail _ (.head _)))⟩
      · exact ⟨_, _, _, _, _, _, [(_, _), (_, _)], _, by k_mem, by rfl, by k_mem, by k_mem, .tail _ (.tail _ (.tail _ (.tail _ (.head _))))⟩
      · exact ⟨_, _, _, _, _, _, [(_, _), (_, _)], _, by k_mem, by rfl, by k_mem, by k_mem, .tail _ (.tail _ (.tail _ (.tail _ (.tail _ (.head _)))))⟩
    have hseq : IsSeq TB := by
      subst hTB
      repeat (refine allC ⟨_, _, rfl⟩ ?_)
      exact hseq0
    have hrows3 : RowsIn TB rows := by
      subst hTB
      exact RowsIn.sub hrows2 fun p hp => by repeat (first | exact hp | refine List.mem_cons_of_mem _ ?_)
    clear hTB hrows2
    have oc3 := off_cell N11 hseq (fun p hp => .tail _ (.tail _ (.tail _ (.tail _ hp)))) (.tail _ (.head _)) (by assumption)
    have oc4 := off_cell N11 hseq (fun p hp => .tail _ (.tail _ (.tail _ (.tail _ hp)))) (.tail _ (.tail _ (.head _))) (by assumption)
    have oc5 := off_tab N11 hseq (fun p hp => .tail _ (.tail _ (.tail _ (.tail _ hp)))) (.tail _ (.tail _ (.tail _ (.head _))))
    refine sub_tbl N11 hTbl (fun p hp => .tail _ (.tail _ (.tail _ (.tail _ hp)))) ?_
    intro tp1 q1 qt1 il1 its1 kl1 m1 m1' e1
    k_steps
    unfold MySrc
    rename News _ _ _ _ => lN
    refine sub_at fun T2 hT2 => ?_
    have hT3 : T2 = T := hT2.trans hT.symm
    rw [hT3]
    refine sub_tbl lN hTbl (fun p hp => .tail _ (.tail _ (.tail _ (.tail _ (.tail _ hp))))) ?_
    have lN13 := news_tail lN
    clear lN hT2
    intro tp2 q2 qt2 il2 its2 kl2 m2 m2' e2
    k_steps
    unfold MySrc
    rename News _ _ _ _ => lN
    rename Fr _ _ _ _ => lF
    refine base_of lN fun B hB => ?_
    have hq1 := tbl_len _ e1
    have hq2 := tbl_len _ e2
    have hrl : rows.length ≤ 24 := by
      have := congrArg List.length htree
      rw [List.length_map] at this
      rw [this]
      exact tree_len hjl
    have hrall : ∀ p ∈ rows, rs p ∈ treeF js := fun p hp => htree ▸ List.mem_map_of_mem (f := rs) hp
    k_dflt (refine LCt.ListComp_T (F₀ := by k_asm) (by with_unfolding_all rfl) (by decide) (by rfl) (by decide) (by rfl) ?_)
    k_steps
    unfold MySrc
    refine CompSrcT.ledger rfl lF lN (by k_mem) (by rw [sizeLine_eq, List.size_toArray, List.length_map]; omega) (fun g => ?_)
    clear lN lF
    refine compT_ind rows (fun pre ys news => ∃ dues : List (Str × Tok), news = B ∧ ys = dues.map sval ∧ fs dues = ((pre.map rs).filter (dueT (fs its1) (fs its2))).map joinS) ?_ ?_ _ (by rw [List.size_toArray, List.length_map]) ⟨[], hB.symm, rfl, rfl⟩
    · rintro pre ⟨ap, rl, kp⟩ post ys news v hl hP ⟨dues, hnews, rfl, hfil⟩ I₁ oI C oC D m₂ h₂ tk₂ E' hC hx2 F₂ N₂ off ne
      rw [hnews] at N₂ off
      clear hnews
      obtain rfl : v = .ref ap := by
        have e : ((rows.map rv).toArray[pre.length]?) = some (.ref ap) := by rw [hl]; simp
        rw [e] at hP
        exact (Option.some.inj hP).symm
      have hin : (ap, rl, kp) ∈ rows := by rw [hl]; simp
      have hrow : (ap, lstO (rl.map sval) kp) ∈ TB := hrows3 _ hin
      have hok := all_ok _ (tree_all _ (hrall _ hin))
      have hrl3 : rl.length ≤ 3 := by have := hok.2.1; simp only [rs, fs, List.length_map] at this; exact this
      have offB := off
      have hS : ∀ h0 : Heap, SrcAt h0 Dr (rows.map rv).toArray B := fun _ => .inr ⟨lstO (rows.map rv) kr, by rw [hB]; exact .head _, rfl, _, rfl⟩
      rw [hB] at N₂ off
      simp only [LCg.Off3] at off
      have hil1 : its1.length ≤ 2 := by have := hq1.2.1; simp only [fs, List.length_map] at this; exact this
      have hil2 : its2.length ≤ 2 := by have := hq2.2.1; simp only [fs, List.length_map] at this; exact this
      rcases rl with _ | ⟨⟨x, tx⟩, _ | ⟨⟨y, ty⟩, _ | ⟨⟨z, tz⟩, _ | ⟨_, rl⟩⟩⟩⟩
      · k_steps
        unfold MySrc
        refine CompEnd.intro F₂ N₂ B ?sub offB (hS _) ⟨dues, rfl, rfl, ?e5⟩
        case sub => rw [hB]; exact fun p hp => hp
        case e5 =>
          have hd9 : dueT (fs its1) (fs its2) (rs (ap, [], kp)) = false := by exact due_no (by simp [rs, fs])
          rw [List.map_append, List.filter_append, List.map_append, ← hfil, List.map_cons, List.map_nil, List.filter_cons, hd9]
          simp only [Bool.false_eq_true, if_false, List.filter_nil, List.map_nil, List.append_nil]
      · k_steps
        unfold MySrc
        refine CompEnd.intro F₂ N₂ B ?sub offB (hS _) ⟨dues, rfl, rfl, ?e5⟩
        case sub => rw [hB]; exact fun p hp => hp
        case e5 =>
          have hd9 : dueT (fs its1) (fs its2) (rs (ap, [(x, tx)], kp)) = false := by exact due_no (by simp [rs, fs])
          rw [List.map_append, List.filter_append, List.map_append, ← hfil, List.map_cons, List.map_nil, List.filter_cons, hd9]
          simp only [Bool.false_eq_true, if_false, List.filter_nil, List.map_nil, List.append_nil]
      · k_steps
        unfold MySrc
        k_dflt (refine' Spec2.pure ?k1 ?k2 ?k3 ?k4 ?k5 ?kK (fits_spec _ _ _ _ _ its1 il1 x tx kl1 ?z1 ?z2 ?z3) ?sub ?kd ?ku ?_; (case k1 => k_asm); (case k2 => k_asm); (case k3 => k_asm); (case k4 => k_asm); (case k5 => k_asm); (case kK => first | exact rfl | assumption); (case z1 => exact fun p hp => hq1.2.2 _ (List.mem_map_of_mem hp)); (case z2 => omega); (case z3 => exact hok.2.2 _ (by simp [rs, fs])); (case sub => exact all1 (by k_mem)); (case kd => ktr_room); (case ku => ktr_units))
        intro r9 h9 F9_tk F9 N9 P9
        subst P9
        try dsimp only
        k_steps
        · have hf1 : fitsF (fs its1) x = true := by assumption
          unfold MySrc
          k_dflt (refine' Spec2.pure ?k1 ?k2 ?k3 ?k4 ?k5 ?kK (fits_spec _ _ _ _ _ its2 il2 y ty kl2 ?z1 ?z2 ?z3) ?sub ?kd ?ku ?_; (case k1 => k_asm); (case k2 => k_asm); (case k3 => k_asm); (case k4 => k_asm); (case k5 => k_asm); (case kK => first | exact rfl | assumption); (case z1 => exact fun p hp => hq2.2.2 _ (List.mem_map_of_mem hp)); (case z2 => omega); (case z3 => exact hok.2.2 _ (by simp [rs, fs])); (case sub => exact all1 (by k_mem)); (case kd => ktr_room); (case ku => ktr_units))
          intro r9 h10 F10_tk F10 N10 P9
          subst P9
          try dsimp only
          k_steps
          · have hf2 : fitsF (fs its2) y = true := by assumption
            unfold MySrc
            k_dflt (refine' join_K ?k1 ?k2 hok.1 ?_; (case k1 => k_asm); (case k2 => k_mem))
            intro t11 tk11
            k_steps
            unfold MySrc
            refine CompEnd.intro F10 N10 B ?sub offB (hS _) ⟨dues ++ [(joinS (rs (ap, [(x, tx), (y, ty)], kp)), t11)], rfl, by rw [List.map_append]; rfl, ?e5⟩
            case sub => rw [hB]; exact fun p hp => hp
            case e5 =>
              have hd9 : dueT (fs its1) (fs its2) (rs (ap, [(x, tx), (y, ty)], kp)) = true := by
                show (fitsF (fs its1) x && fitsF (fs its2) y) = true
                rw [hf1, hf2]; rfl
              rw [List.map_append, List.filter_append, List.map_append, ← hfil, List.map_cons, List.map_nil, List.filter_cons, hd9]
              simp only [if_true, List.filter_nil, List.map_cons, List.map_nil, fs, List.map_append]
          · have hf2 : fitsF (fs its2) y = false := by assumption
            unfold MySrc
            refine CompEnd.intro F10 N10 B ?sub offB (hS _) ⟨dues, rfl, rfl, ?e5⟩
            case sub => rw [hB]; exact fun p hp => hp
            case e5 =>
              have hd9 : dueT (fs its1) (fs its2) (rs (ap, [(x, tx), (y, ty)], kp)) = false := by show (fitsF (fs its1) x && fitsF (fs its2) y) = false; rw [hf2, Bool.and_false]
              rw [List.map_append, List.filter_append, List.map_append, ← hfil, List.map_cons, List.map_nil, List.filter_cons, hd9]
              simp only [Bool.false_eq_true, if_false, List.filter_nil, List.map_nil, List.append_nil]
        · have hf1 : fitsF (fs its1) x = false := by assumption
          unfold MySrc
          refine CompEnd.intro F9 N9 B ?sub offB (hS _) ⟨dues, rfl, rfl, ?e5⟩
          case sub => rw [hB]; exact fun p hp => hp
          case e5 =>
            have hd9 : dueT (fs its1) (fs its2) (rs (ap, [(x, tx), (y, ty)], kp)) = false := by show (fitsF (fs its1) x && fitsF (fs its2) y) = false; rw [hf1]; rfl
            rw [List.map_append, List.filter_append, List.map_append, ← hfil, List.map_cons, List.map_nil, List.filter_cons, hd9]
            simp only [Bool.false_eq_true, if_false, List.filter_nil, List.map_nil, List.append_nil]
      · k_steps
        unfold MySrc
        refine CompEnd.intro F₂ N₂ B ?sub offB (hS _) ⟨dues, rfl, rfl, ?e5⟩
        case sub => rw [hB]; exact fun p hp => hp
        case e5 =>
          have hd9 : dueT (fs its1) (fs its2) (rs (ap, [(x, tx), (y, ty), (z, tz)], kp)) = false := by exact due_no (by simp [rs, fs])
          rw [List.map_append, List.filter_append, List.map_append, ← hfil, List.map_cons, List.map_nil, List.filter_cons, hd9]
          simp only [Bool.false_eq_true, if_false, List.filter_nil, List.map_nil, List.append_nil]
      · exact absurd hrl3 (by simp only [List.length_cons]; omega)
    · rintro ys news ⟨dues, rfl, rfl, hfil⟩
      intro D9 h8 tk8 F8 N8 off8
      subst hB
      simp only [LCg.Off1] at off8
      k_steps
      unfold MySrc
      rename News _ _ _ _ => lN
      rename Fr _ _ _ _ => lF
      have hdl : dues.length < 64 := by
        have e := congrArg List.length hfil
        have e2 := List.length_filter_le (dueT (fs its1) (fs its2)) (rows.map rs)
        simp only [fs, List.length_map] at e e2
        omega
      refine sorted_K lF lN (.head _) hdl ?_
      clear lF lN
      intro Dd h10 dues2 nd F10 N10 l10 hperm hsort
      have N11 : News _ _ _ (_ :: _ :: _ :: _ :: _ :: TB) := fun p hp => N10 p (allC (.head _) (allC (.tail _ (.tail _ (.head _))) (allC (.tail _ (.tail _ (.tail _ (.head _)))) (allC (.tail _ (.tail _ (.tail _ (.tail _ (.head _))))) (allC (.tail _ (.tail _ (.tail _ (.tail _ (.tail _ (.head _)))))) fun p hp => .tail _ (.tail _ (.tail _ (.tail _ (.tail _ (.tail _ hp))))))))) p hp)
      k_lt l10
      clear N10
      k_steps
      unfold MySrc
      refine tk_q (n := 1) (by ((try dsimp only); (repeat (first | with_reducible assumption | apply Tk.add)))) ?_
      k_dflt (refine LCg.ListComp_U (F₀ := by k_asm) (by with_unfolding_all rfl) (by decide) (by rfl) (by decide) (by rfl) ?_)
      k_steps
      unfold MySrc
      rename News _ _ _ _ => lN
      rename Fr _ _ _ _ => lF
      refine base_of lN fun B2 hB2 => ?_
      refine CompSrc.ledger rfl lF lN (by k_mem) (by rw [sizeLine_eq, List.size_toArray, List.length_map]; omega) (fun g => ?_)
      clear lN lF
      refine compU_ind rows (fun pre ys news => ∃ pt : List (Str × Tok), news = B2 ∧ ys = pt.map sval ∧ fs pt = (pre.map rs).map joinS) ?_ ?_ _ (by rw [List.size_toArray, List.length_map]) ⟨[], hB2.symm, rfl, rfl⟩
      · rintro pre ⟨ap, rl, kp⟩ post ys news v hl hP ⟨pt, hnews, rfl, hfil2⟩ I₁ oI C oC D m₂ h₂ tk₂ E' hC hx2 F₂ N₂ off ne
        rw [hnews] at N₂ off
        clear hnews
        obtain rfl : v = .ref ap := by
          have e : ((rows.map rv).toArray[pre.length]?) = some (.ref ap) := by rw [hl]; simp
          rw [e] at hP
          exact (Option.some.inj hP).symm
        have hin : (ap, rl, kp) ∈ rows := by rw [hl]; simp
        have hrow : (ap, lstO (rl.map sval) kp) ∈ TB := hrows3 _ hin
        have hok := all_ok _ (tree_all _ (hrall _ hin))
        have offB := off
        have hS : ∀ h0 : Heap, SrcAt h0 Dr (rows.map rv).toArray B2 := fun _ => .inr ⟨lstO (rows.map rv) kr, by rw [hB2]; exact .tail _ (.head _), rfl, _, rfl⟩
        rw [hB2] at N₂ off
        simp only [LCg.Off3] at off
        k_steps
        unfold MySrc
        k_dflt (refine' join_K ?k1 ?k2 hok.1 ?_; (case k1 => k_asm); (case k2 => k_mem))
        intro t11 tk11
        k_steps
        unfold MySrc
        refine CompEnd.intro F₂ N₂ B2 ?sub offB (hS _) ⟨pt ++ [(joinS (rs (ap, rl, kp)), t11)], rfl, by rw [List.map_append]; rfl, ?e5⟩
        case sub => rw [hB2]; exact fun p hp => hp
        case e5 =>
          rw [List.map_append, List.map_append, ← hfil2]
          simp only [fs, List.map_append, List.map_cons, List.map_nil]
      · rintro ys news ⟨pt, rfl, rfl, hfil2⟩
        intro Dp h12 tk12 F12 N12 off12
        subst hB2
        simp only [LCg.Off1] at off12
        k_steps
        unfold MySrc
        refine call2_at fun Tq hTq => ?_
        rename News _ _ _ _ => lN
        rename Fr _ _ _ _ => lF
        refine base_of lN fun B3 hB3 => ?_
        obtain ⟨hTm, g1, g2, g3⟩ : (Tq, lstO ([(q1, qt1), (q2, qt2)].map sval) 0) ∈ B3 ∧ (@Ne Nat Tq 158) ∧ (@Ne Nat Dd Tq) ∧ (@Ne Nat Dd Dp) := by
          subst hB3 hTq
          exact ⟨by exact .head _, by k_ne, by k_ne, by k_ne⟩
        have hDpm : (Dp, lst (pt.map sval)) ∈ B3 := by subst hB3; exact .tail _ (.head _)
        have hDdm : (Dd, lstO (dues2.map sval) nd) ∈ B3 := by subst hB3; exact .tail _ (.tail _ (.head _))
        have h158m : (158, tabObj #[]) ∈ B3 := by subst hB3; k_mem
        rw [← hB3] at lN
        have g4 := ne_obj lN hDdm h158m (by refine ne_cls ?_; intro e; injection e)
        have g5 := ne_obj lN hDpm h158m (by refine ne_cls ?_; intro e; injection e)
        have hjs : rows.map rs = treeF js := htree
        have hPf : (fs pt).map splitF = (treeF js).map gP := by rw [hfil2, htree, List.map_map]; rfl
        have hPt : (pt.map fun p => splitF p.1) = (treeF js).map gP := by rw [← hPf, fs, List.map_map]; rfl
        have hptl : pt.length ≤ 30 := by
          have e := congrArg List.length hfil2
          simp only [fs, List.length_map] at e
          omega
        have hpa : ∀ p ∈ pt, p.1.length ≤ 50 := fun p hp => by
          have h : p.1 ∈ fs pt := List.mem_map_of_mem (f := fun p : Str × Tok => p.1) hp
          rw [hfil2, htree] at h
          obtain ⟨r, hr, e⟩ := List.mem_map.mp h
          rw [← e]
          exact tree_path r hr
        refine' Spec3.useF (n := 1) ?kt ?k1 ?k2 ?k3 ?k4 ?k5 ?kK (told_spec _ _ _ _ _ Dp Tq pt (pt.map sval).length 0 [(q1, qt1), (q2, qt2)] #[] (.inl rfl) ?hqs rfl hpa hptl g5 g1 ?hgd) [(Dd, lstO (dues2.map sval) nd)] ?sub ?koff ?kd ?ku ?main
        case kt => exact (by ((try dsimp only); (repeat (first | with_reducible assumption | apply Tk.add))))
        case k1 => k_asm
        case k2 => k_asm
        case k3 => k_asm
        case k4 => k_asm
        case k5 => k_asm
        case kK => first | exact rfl | assumption
        case hqs => exact allC hq1.1 (all1 hq2.1)
        case hgd => rw [hPt]; exact tree_good
        case sub => exact allC h158m (allC hDpm (allC hTm (all1 hDdm)))
        case koff =>
          refine all1 fun hm => ?_
          rcases List.mem_cons.mp hm with e | hm
          · exact g4 e
          · rcases List.mem_cons.mp hm with e | hm
            · exact g3 e
            · exact g2 (List.mem_singleton.mp hm)
        case kd => ktr_room
        case ku => ktr_units
        case main =>
          clear lN lF
          rintro r9 n9 h9 tk9 F9 N9 ⟨Do, told, ko, ps', rfl, hps', h158n, hDo, hpw, hpm⟩
          have N13 : News _ _ _ ((Do, lstO (told.map sval) ko) :: (Dd, lstO (dues2.map sval) nd) :: (158, tabObj ps') :: []) := fun p hp => N9 p (allC (List.mem_append_left _ hDo) (allC (List.mem_append_right _ (.head _)) (all1 (List.mem_append_left _ h158n))) p hp)
          clear N9
          rw [hPt] at hpm
          have heq : fs told = fs dues2 := told_eq e1 e2 hpw hpm hsort (by rw [← htree, ← hfil]; exact hperm)
          k_steps
          unfold MySrc
          k_dflt (refine' eq_strs ?k1 ?k2 ?k3 ?k4 ?_; (case k1 => k_asm); (case k2 => k_mem); (case k3 => k_mem); (case k4 => ktr_units))
          rw [heq, beq_self_eq_true]
          k_steps)
theorem wd22_off : True := by
  k_with_none
  trivial
end Mine
theorem PySem.Challenge.cw_il0042_01_holds : PySem.Challenge.rw_il0042_01.Holds := by
  exact Mine.law_holds
