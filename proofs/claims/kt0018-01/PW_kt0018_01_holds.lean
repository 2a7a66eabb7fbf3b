import PyProof.Rows.All
import Wide.All
import OpenK.AllK
import Wide.FinOn
import KE.KLam
import KE.KStar
import KE.KNestM
import KE.KIntText
import PyProof.AttrMissHeap
import KE.KFromBytes
import PyProof.ZipIter
import PySem.Challenge.RW_kt0018_01
set_option linter.unusedVariables false
set_option autoImplicit false
set_option Elab.async false
set_option compiler.extract_closed false
set_option maxRecDepth 100000
set_option maxHeartbeats 4000000
open PySem PySem.W PyProof.Rows PySem.Calls PySem.Spec PySem.Challenge
namespace Mine
noncomputable def nth (i : Nat) : Stmt := pw_kt0018_01.main.body.getD i (.Pass ⟨0,0,0,0⟩)
noncomputable def bodyOf : Stmt → List Stmt | .FunctionDef _ _ b .. => b | .While _ b _ _ => b | .For _ _ b _ _ => b | .If _ b _ _ => b | _ => []
noncomputable def scopeOf : Stmt → Scope | .FunctionDef _ _ _ _ _ _ s .. => s | _ => default
noncomputable def testOf : Stmt → Expr | .While t _ _ _ => t | .If t _ _ _ => t | _ => .Constant .none 0 ⟨0,0,0,0⟩
noncomputable def bd (i : Nat) : List Stmt := bodyOf (nth i)
noncomputable def sc (i : Nat) : Scope := scopeOf (nth i)
noncomputable def argsOf : Stmt → List Str | .FunctionDef _ a .. => a.args.map (·.arg) | _ => []
noncomputable def nameOf : Stmt → Str | .FunctionDef n .. => n | _ => ""
set_option tactic.hygienic false
noncomputable def paramsOf : Stmt → Arguments | .FunctionDef _ a .. => a | _ => default
noncomputable abbrev kv (P : Params) (k : Str) (t : Nat) (v : Value) : DictEntry := { hash := PyData.keyHash P k, key := .str k t, val := v }
noncomputable abbrev ob (c : String) (d : Data) : Obj := { cls := .type c, data := d }
noncomputable abbrev tup0 : Obj := { cls := .type "tuple", data := .seq #[] }
noncomputable abbrev fld0 : Obj := { cls := .none, data := .fields #[] }
noncomputable abbrev coO (nm : Str) (t line args a : Nat) (x y : Value) (f u : Nat) : Obj := { cls := .type "code", data := .fields #[.str nm t, .str nm (t + 1), .str "/claim/cut.py" (t + 2), .int line 0, .int args 0, .int 0 0, .int 0 0, .int 3 0, .ref a, .bool true, .int 276 0, .ref (a + 1), .none, x, y, .ref f, .int u 0, .int line 0, .str "/claim/cut.py" (u + 1)] }
noncomputable def fnO (i : Nat) (pm : Value) (c : Addr) : Obj := { cls := .type "function", data := .func { name := nameOf (nth i), qualname := nameOf (nth i), params := paramsOf (nth i), body := .stmts (bd i), scope := sc i, globals := 3, closure := [], defaults := .none, kwdefaults := .none, pyModule := pm, code := .ref c } }
noncomputable def fnD (i : Nat) : Obj := { cls := .none, data := .func { name := nameOf (nth i), qualname := nameOf (nth i), params := paramsOf (nth i), body := .stmts (bd i), scope := sc i, globals := 0, closure := [], defaults := .none, kwdefaults := .none } }
noncomputable def hA (P : Params) (r : List Obj) : List Obj :=
  boot_o_0 P ::
  { cls := .type "dict", data := .dict #[kv P "builtins" 162 (.ref 4), kv P "__main__" 163 (.ref 5), kv P "_sre" 244 (.ref 12)] 3 } ::
  r
noncomputable def stt (P : Params) (k : Nat) : Obj := { cls := .none, data := .dict ⟨List.take k [kv P "\x69mport.loaded._sre" 183 (.bool true), kv P "class._frozen_importlib.BuiltinImporter" 185 (.ref 14), kv P "watched.\x69mport" 206 (.ref 18), kv P "class._frozen_importlib.ModuleSpec" 216 (.ref 22), kv P "sys.modules.booked-epoch" 245 (.int 3 0), kv P "\x69mport.later-laid._sre" 270 (.bool true), kv P "watched.library" 272 (.ref 27), kv P "watched.library-objects" 0 (.str "\x0c" 0), kv P "watched.library-deep._sre" 273 (.str "\x04\x00\x00\x0b\x04\x00\x00\x0b\x04\x00\x00\x03\x04\x00\x00\x0b\x08\x04dict\x02" 0), kv P "type.__subclasses__.Exception.0" 300 (.int 41 0), kv P "type.__subclasses__.Exception.n" 301 (.int 1 0)]⟩ k }
noncomputable def gls (P : Params) (nm : Str) (t k : Nat) : Obj := { cls := .type "dict", data := .dict ⟨List.take k [kv P "__name__" 165 (.str nm t), kv P "__doc__" 166 .none, kv P "__package__" 167 .none, kv P "__loader__" 168 (.builtin "__main__.__loader__#opaque"), kv P "__spec__" 169 .none, kv P "__annotations__" 170 (.ref 6), kv P "__builtins__" 171 (.ref 4), kv P "__file__" 173 (.str "/claim/cut.py" 172), kv P "__cached__" 174 .none, kv P "_sre" 275 (.ref 12), kv P "Error" 303 (.ref 41), kv P "error_reply" 319 (.ref 54), kv P "error_proto" 335 (.ref 66), kv P "parse229" 348 (.ref 75), kv P "parse257" 359 (.ref 82), kv P "_twin_re_1" 397 (.ref 87), kv P "_special_chars_map" 545 (.ref 89), kv P "escape" 552 (.ref 99), kv P "_translate" 573 (.ref 106), kv P "heappush" 583 (.ref 113), kv P "heappop" 592 (.ref 120), kv P "_siftdown" 604 (.ref 127), kv P "_siftup" 617 (.ref 134), kv P "_law_names" 625 (.ref 141), kv P "_law_ways" 631 (.ref 146), kv P "_law_replies" 644 (.ref 153), kv P "_law_heard" 652 (.ref 160), kv P "_law_heaped" 658 (.ref 165), kv P "_law_searched" 664 (.ref 170), kv P "_law_takes" 670 (.ref 175), kv P "_law_fits" 676 (.ref 180), kv P "_law_least" 682 (.ref 185), kv P "law" 688 (.ref 190)]⟩ k }
noncomputable def cds (k : Nat) : Obj := { cls := .none, data := .fields ⟨List.take (3 * k) [.int 3 0, .int 0 0, .ref 37, .int 5 0, .int 0 0, .ref 50, .int 7 0, .int 0 0, .ref 62, .int 9 0, .int 0 0, .ref 74, .int 26 0, .int 0 0, .ref 81, .int 46 0, .int 0 0, .ref 98, .int 53 0, .int 0 0, .ref 105, .int 116 0, .int 0 0, .ref 112, .int 119 0, .int 0 0, .ref 119, .int 127 0, .int 0 0, .ref 126, .int 138 0, .int 0 0, .ref 133, .int 153 0, .int 0 0, .ref 140, .int 155 0, .int 0 0, .ref 145, .int 158 0, .int 0 0, .ref 152, .int 163 0, .int 0 0, .ref 159, .int 170 0, .int 0 0, .ref 164, .int 172 0, .int 0 0, .ref 169, .int 187 0, .int 0 0, .ref 174, .int 197 0, .int 0 0, .ref 179, .int 206 0, .int 0 0, .ref 184, .int 213 0, .int 0 0, .ref 189]⟩ }
noncomputable def hB (P : Params) (r : List Obj) : List Obj :=
  boot_o_4 P ::
  boot_o_5 P ::
  boot_o_6 P ::
  boot_o_7 P ::
  boot_o_8 P ::
  boot_o_9 P ::
  boot_o_10 P ::
  { cls := .type "dict", data := .dict #[kv P "__name__" 247 (.str "_sre" 246), kv P "__doc__" 248 .none, kv P "__package__" 250 (.str "" 249), kv P "__loader__" 251 (.builtin "off-the-table:_sre.__loader__:shared#opaque"), kv P "__spec__" 252 (.builtin "off-the-table:_sre.__spec__:shared#opaque"), kv P "compile" 253 (.builtin "_sre.compile"), kv P "template" 254 (.builtin "off-the-table:_sre.template:shared#opaque"), kv P "getcodesize" 255 (.builtin "off-the-table:_sre.getcodesize:shared#opaque"), kv P "ascii_iscased" 256 (.builtin "off-the-table:_sre.ascii_iscased:shared#opaque"), kv P "unicode_iscased" 257 (.builtin "off-the-table:_sre.unicode_iscased:shared#opaque"), kv P "ascii_tolower" 258 (.builtin "off-the-table:_sre.ascii_tolower:shared#opaque"), kv P "unicode_tolower" 259 (.builtin "off-the-table:_sre.unicode_tolower:shared#opaque"), kv P "MAGIC" 261 (.int 20230612 260), kv P "CODESIZE" 263 (.int 4 262), kv P "MAXREPEAT" 265 (.int 4294967295 264), kv P "MAXGROUPS" 267 (.int 1073741823 266), kv P "copyright" 269 (.str " SRE 2.2.2 Copyright (c) 1997-2002 by Secret Labs AB " 268)] 17 } ::
  { cls := .type "module", dict := some 11 } ::
  { cls := .type "dict", data := .dict #[kv P "__module__" 189 (.str "_frozen_importlib" 186), kv P "__firstlineno__" 190 (.int 971 187), kv P "__doc__" 191 (.builtin "_frozen_importlib.BuiltinImporter.__doc__:str#opaque"), kv P "_ORIGIN" 192 (.str "built-in" 188), kv P "find_spec" 193 (.builtin "_frozen_importlib.BuiltinImporter.find_spec#opaque"), kv P "create_module" 194 (.builtin "_frozen_importlib.BuiltinImporter.create_module#opaque"), kv P "exec_module" 195 (.builtin "_frozen_importlib.BuiltinImporter.exec_module#opaque"), kv P "get_code" 196 (.builtin "_frozen_importlib.BuiltinImporter.get_code#opaque"), kv P "get_source" 197 (.builtin "_frozen_importlib.BuiltinImporter.get_source#opaque"), kv P "is_package" 198 (.builtin "_frozen_importlib.BuiltinImporter.is_package#opaque"), kv P "load_module" 199 (.builtin "_frozen_importlib.BuiltinImporter.load_module#opaque"), kv P "__static_attributes__" 200 (.ref 15), kv P "__dict__" 202 (.ref 16), kv P "__weakref__" 204 (.ref 17)] 14 } ::
  { cls := .type "type", data := .cls { name := "BuiltinImporter", bases := [.type "object"], mro := [.ref 14, .type "object"], ns := 13, qualname := "BuiltinImporter" } } ::
  boot_o_7 P ::
  ob "getset_descriptor" (.fields #[.str "__dict__" 201, .ref 14, .builtin "function.__dict__", .builtin "function.__dict__#set"]) ::
  ob "getset_descriptor" (.fields #[.str "__weakref__" 203, .ref 14, .builtin "ExceptionGroup.__weakref__", .none]) ::
  { cls := .none, data := .seq #[.int 13 0, .str ⟨⟨[6, 189, 10, 95, 95, 109, 111, 100, 117, 108, 101, 95, 95, 6, 186, 17, 95, 102, 114, 111, 122, 101, 110, 95, 105, 109, 112, 111, 114, 116, 108, 105, 98, 6, 190, 15, 95, 95, 102, 105, 114, 115, 116, 108, 105, 110, 101, 110, 111, 95, 95, 4, 187, 0, 971, 6, 191, 7, 95, 95, 100, 111, 99, 95, 95, 9, 52, 95, 102, 114, 111, 122, 101, 110, 95, 105, 109, 112, 111, 114, 116, 108, 105, 98, 46, 66, 117, 105, 108, 116, 105, 110, 73, 109, 112, 111, 114, 116, 101, 114, 46, 95, 95, 100, 111, 99, 95, 95, 58, 115, 116, 114, 35, 111, 112, 97, 113, 117, 101, 6, 192, 7, 95, 79, 82, 73, 71, 73, 78, 6, 188, 8, 98, 117, 105, 108, 116, 45, 105, 110, 6, 193, 9, 102, 105, 110, 100, 95, 115, 112, 101, 99, 9, 50, 95, 102, 114, 111, 122, 101, 110, 95, 105, 109, 112, 111, 114, 116, 108, 105, 98, 46, 66, 117, 105, 108, 116, 105, 110, 73, 109, 112, 111, 114, 116, 101, 114, 46, 102, 105, 110, 100, 95, 115, 112, 101, 99, 35, 111, 112, 97, 113, 117, 101, 6, 194, 13, 99, 114, 101, 97, 116, 101, 95, 109, 111, 100, 117, 108, 101, 9, 54, 95, 102, 114, 111, 122, 101, 110, 95, 105, 109, 112, 111, 114, 116, 108, 105, 98, 46, 66, 117, 105, 108, 116, 105, 110, 73, 109, 112, 111, 114, 116, 101, 114, 46, 99, 114, 101, 97, 116, 101, 95, 109, 111, 100, 117, 108, 101, 35, 111, 112, 97, 113, 117, 101, 6, 195, 11, 101, 120, 101, 99, 95, 109, 111, 100, 117, 108, 101, 9, 52, 95, 102, 114, 111, 122, 101, 110, 95, 105, 109, 112, 111, 114, 116, 108, 105, 98, 46, 66, 117, 105, 108, 116, 105, 110, 73, 109, 112, 111, 114, 116, 101, 114, 46, 101, 120, 101, 99, 95, 109, 111, 100, 117, 108, 101, 35, 111, 112, 97, 113, 117, 101, 6, 196, 8, 103, 101, 116, 95, 99, 111, 100, 101, 9, 49, 95, 102, 114, 111, 122, 101, 110, 95, 105, 109, 112, 111, 114, 116, 108, 105, 98, 46, 66, 117, 105, 108, 116, 105, 110, 73, 109, 112, 111, 114, 116, 101, 114, 46, 103, 101, 116, 95, 99, 111, 100, 101, 35, 111, 112, 97, 113, 117, 101, 6, 197, 10, 103, 101, 116, 95, 115, 111, 117, 114, 99, 101, 9, 51, 95, 102, 114, 111, 122, 101, 110, 95, 105, 109, 112, 111, 114, 116, 108, 105, 98, 46, 66, 117, 105, 108, 116, 105, 110, 73, 109, 112, 111, 114, 116, 101, 114, 46, 103, 101, 116, 95, 115, 111, 117, 114, 99, 101, 35, 111, 112, 97, 113, 117, 101, 6, 198, 10, 105, 115, 95, 112, 97, 99, 107, 97, 103, 101, 9, 51, 95, 102, 114, 111, 122, 101, 110, 95, 105, 109, 112, 111, 114, 116, 108, 105, 98, 46, 66, 117, 105, 108, 116, 105, 110, 73, 109, 112, 111, 114, 116, 101, 114, 46, 105, 115, 95, 112, 97, 99, 107, 97, 103, 101, 35, 111, 112, 97, 113, 117, 101, 6, 199, 11, 108, 111, 97, 100, 95, 109, 111, 100, 117, 108, 101, 9, 52, 95, 102, 114, 111, 122, 101, 110, 95, 105, 109, 112, 111, 114, 116, 108, 105, 98, 46, 66, 117, 105, 108, 116, 105, 110, 73, 109, 112, 111, 114, 116, 101, 114, 46, 108, 111, 97, 100, 95, 109, 111, 100, 117, 108, 101, 35, 111, 112, 97, 113, 117, 101, 6, 200, 21, 95, 95, 115, 116, 97, 116, 105, 99, 95, 97, 116, 116, 114, 105, 98, 117, 116, 101, 115, 95, 95, 4, 0, 0, 15, 6, 202, 8, 95, 95, 100, 105, 99, 116, 95, 95, 4, 0, 0, 16, 6, 204, 11, 95, 95, 119, 101, 97, 107, 114, 101, 102, 95, 95, 4, 0, 0, 17]⟩⟩ 0, .bool true, .bool true, .str "" 205, .int 21 0, .str ⟨⟨[6, 227, 10, 95, 95, 109, 111, 100, 117, 108, 101, 95, 95, 6, 217, 17, 95, 102, 114, 111, 122, 101, 110, 95, 105, 109, 112, 111, 114, 116, 108, 105, 98, 6, 228, 15, 95, 95, 102, 105, 114, 115, 116, 108, 105, 110, 101, 110, 111, 95, 95, 4, 218, 0, 562, 6, 229, 7, 95, 95, 100, 111, 99, 95, 95, 9, 47, 95, 102, 114, 111, 122, 101, 110, 95, 105, 109, 112, 111, 114, 116, 108, 105, 98, 46, 77, 111, 100, 117, 108, 101, 83, 112, 101, 99, 46, 95, 95, 100, 111, 99, 95, 95, 58, 115, 116, 114, 35, 111, 112, 97, 113, 117, 101, 6, 230, 8, 95, 95, 105, 110, 105, 116, 95, 95, 9, 44, 95, 102, 114, 111, 122, 101, 110, 95, 105, 109, 112, 111, 114, 116, 108, 105, 98, 46, 77, 111, 100, 117, 108, 101, 83, 112, 101, 99, 46, 95, 95, 105, 110, 105, 116, 95, 95, 35, 111, 112, 97, 113, 117, 101, 6, 231, 8, 95, 95, 114, 101, 112, 114, 95, 95, 9, 44, 95, 102, 114, 111, 122, 101, 110, 95, 105, 109, 112, 111, 114, 116, 108, 105, 98, 46, 77, 111, 100, 117, 108, 101, 83, 112, 101, 99, 46, 95, 95, 114, 101, 112, 114, 95, 95, 35, 111, 112, 97, 113, 117, 101, 6, 232, 6, 95, 95, 101, 113, 95, 95, 9, 42, 95, 102, 114, 111, 122, 101, 110, 95, 105, 109, 112, 111, 114, 116, 108, 105, 98, 46, 77, 111, 100, 117, 108, 101, 83, 112, 101, 99, 46, 95, 95, 101, 113, 95, 95, 35, 111, 112, 97, 113, 117, 101, 6, 233, 6, 99, 97, 99, 104, 101, 100, 9, 42, 95, 102, 114, 111, 122, 101, 110, 95, 105, 109, 112, 111, 114, 116, 108, 105, 98, 46, 77, 111, 100, 117, 108, 101, 83, 112, 101, 99, 46, 99, 97, 99, 104, 101, 100, 35, 111, 112, 97, 113, 117, 101, 6, 234, 6, 112, 97, 114, 101, 110, 116, 9, 42, 95, 102, 114, 111, 122, 101, 110, 95, 105, 109, 112, 111, 114, 116, 108, 105, 98, 46, 77, 111, 100, 117, 108, 101, 83, 112, 101, 99, 46, 112, 97, 114, 101, 110, 116, 35, 111, 112, 97, 113, 117, 101, 6, 235, 12, 104, 97, 115, 95, 108, 111, 99, 97, 116, 105, 111, 110, 9, 48, 95, 102, 114, 111, 122, 101, 110, 95, 105, 109, 112, 111, 114, 116, 108, 105, 98, 46, 77, 111, 100, 117, 108, 101, 83, 112, 101, 99, 46, 104, 97, 115, 95, 108, 111, 99, 97, 116, 105, 111, 110, 35, 111, 112, 97, 113, 117, 101, 6, 236, 21, 95, 95, 115, 116, 97, 116, 105, 99, 95, 97, 116, 116, 114, 105, 98, 117, 116, 101, 115, 95, 95, 4, 0, 0, 23, 6, 238, 8, 95, 95, 100, 105, 99, 116, 95, 95, 4, 0, 0, 24, 6, 240, 11, 95, 95, 119, 101, 97, 107, 114, 101, 102, 95, 95, 4, 0, 0, 25, 6, 241, 8, 95, 95, 104, 97, 115, 104, 95, 95, 0]⟩⟩ 0, .bool true, .bool true, .str "" 242] 1 } ::
  ob "list" (.seq #[]) ::
  { cls := .type "dict", data := .dict #[kv P "name" 208 (.str "_sre" 207), kv P "loader" 209 (.ref 14), kv P "origin" 210 (.str "built-in" 184), kv P "loader_state" 211 .none, kv P "submodule_search_locations" 212 .none, kv P "_uninitialized_submodules" 213 (.ref 19), kv P "_set_fileattr" 214 (.bool false), kv P "_cached" 215 .none, kv P "_initializing" 243 (.bool false)] 9 } ::
  { cls := .type "dict", data := .dict #[kv P "__module__" 227 (.str "_frozen_importlib" 217), kv P "__firstlineno__" 228 (.int 562 218), kv P "__doc__" 229 (.builtin "_frozen_importlib.ModuleSpec.__doc__:str#opaque"), kv P "__init__" 230 (.builtin "_frozen_importlib.ModuleSpec.__init__#opaque"), kv P "__repr__" 231 (.builtin "_frozen_importlib.ModuleSpec.__repr__#opaque"), kv P "__eq__" 232 (.builtin "_frozen_importlib.ModuleSpec.__eq__#opaque"), kv P "cached" 233 (.builtin "_frozen_importlib.ModuleSpec.cached#opaque"), kv P "parent" 234 (.builtin "_frozen_importlib.ModuleSpec.parent#opaque"), kv P "has_location" 235 (.builtin "_frozen_importlib.ModuleSpec.has_location#opaque"), kv P "__static_attributes__" 236 (.ref 23), kv P "__dict__" 238 (.ref 24), kv P "__weakref__" 240 (.ref 25), kv P "__hash__" 241 .none] 13 } ::
  { cls := .type "type", data := .cls { name := "ModuleSpec", bases := [.type "object"], mro := [.ref 22, .type "object"], ns := 21, qualname := "ModuleSpec" } } ::
  ob "tuple" (.seq #[.str "_cached" 219, .str "_set_fileattr" 220, .str "_uninitialized_submodules" 221, .str "loader" 222, .str "loader_state" 223, .str "name" 224, .str "origin" 225, .str "submodule_search_locations" 226]) ::
  ob "getset_descriptor" (.fields #[.str "__dict__" 237, .ref 22, .builtin "function.__dict__", .builtin "function.__dict__#set"]) ::
  ob "getset_descriptor" (.fields #[.str "__weakref__" 239, .ref 22, .builtin "ExceptionGroup.__weakref__", .none]) ::
  { cls := .ref 22, dict := some 20 } ::
  { cls := .none, data := .seq #[.int 11 0, .str { cps := #[6, 247, 8, 95, 95, 110, 97, 109, 101, 95, 95, 6, 246, 4, 95, 115, 114, 101, 6, 248, 7, 95, 95, 100, 111, 99, 95, 95, 0, 6, 250, 11, 95, 95, 112, 97, 99, 107, 97, 103, 101, 95, 95, 6, 249, 0, 6, 251, 10, 95, 95, 108, 111, 97, 100, 101, 114, 95, 95, 4, 0, 0, 14, 6, 252, 8, 95, 95, 115, 112, 101, 99, 95, 95, 4, 0, 0, 26, 6, 253, 7, 99, 111, 109, 112, 105, 108, 101, 9, 12, 95, 115, 114, 101, 46, 99, 111, 109, 112, 105, 108, 101, 6, 254, 8, 116, 101, 109, 112, 108, 97, 116, 101, 9, 13, 95, 115, 114, 101, 46, 116, 101, 109, 112, 108, 97, 116, 101, 6, 255, 11, 103, 101, 116, 99, 111, 100, 101, 115, 105, 122, 101, 9, 16, 95, 115, 114, 101, 46, 103, 101, 116, 99, 111, 100, 101, 115, 105, 122, 101, 6, 256, 13, 97, 115, 99, 105, 105, 95, 105, 115, 99, 97, 115, 101, 100, 9, 18, 95, 115, 114, 101, 46, 97, 115, 99, 105, 105, 95, 105, 115, 99, 97, 115, 101, 100, 6, 257, 15, 117, 110, 105, 99, 111, 100, 101, 95, 105, 115, 99, 97, 115, 101, 100, 9, 20, 95, 115, 114, 101, 46, 117, 110, 105, 99, 111, 100, 101, 95, 105, 115, 99, 97, 115, 101, 100, 6, 258, 13, 97, 115, 99, 105, 105, 95, 116, 111, 108, 111, 119, 101, 114, 9, 18, 95, 115, 114, 101, 46, 97, 115, 99, 105, 105, 95, 116, 111, 108, 111, 119, 101, 114, 6, 259, 15, 117, 110, 105, 99, 111, 100, 101, 95, 116, 111, 108, 111, 119, 101, 114, 9, 20, 95, 115, 114, 101, 46, 117, 110, 105, 99, 111, 100, 101, 95, 116, 111, 108, 111, 119, 101, 114, 6, 261, 5, 77, 65, 71, 73, 67, 4, 260, 0, 20230612, 6, 263, 8, 67, 79, 68, 69, 83, 73, 90, 69, 4, 262, 0, 4, 6, 265, 9, 77, 65, 88, 82, 69, 80, 69, 65, 84, 4, 264, 0, 4294967295, 6, 267, 9, 77, 65, 88, 71, 82, 79, 85, 80, 83, 4, 266, 0, 1073741823, 6, 269, 9, 99, 111, 112, 121, 114, 105, 103, 104, 116, 6, 268, 53, 32, 83, 82, 69, 32, 50, 46, 50, 46, 50, 32, 67, 111, 112, 121, 114, 105, 103, 104, 116, 32, 40, 99, 41, 32, 49, 57, 57, 55, 45, 50, 48, 48, 50, 32, 98, 121, 32, 83, 101, 99, 114, 101, 116, 32, 76, 97, 98, 115, 32, 65, 66, 32] } 0, .bool true, .bool false, .str "_sre" 271] } ::
  r
noncomputable def hD (P : Params) (r : List Obj) : List Obj :=
  ob "code" (.fields #[.str "<module>" 277, .str "<module>" 278, .str "/claim/cut.py" 279, .int 1 0, .int 0 0, .int 0 0, .int 0 0, .int 0 0, .ref 28, .bool false, .int 276 0, .ref 29, .none, .none, .none, .none, .int 280 0, .int 1 0, .str "/claim/cut.py" 281]) ::
  { cls := .type "frame", slots := #[some (.ref 30), some (.ref 3), some (.ref 3), none, some (.str "__main__" 164), none, some (.ref 0)] } ::
  r
noncomputable def hE1 (P : Params) (r : List Obj) : List Obj :=
  ob "tuple" (.seq #[.type "Exception"]) ::
  ob "builtin_function_or_method" (.fields #[.builtin "type.__prepare__", .type "type"]) ::
  { cls := .type "dict", data := .dict #[kv P "__module__" 291 (.str "cpy313.ftplib" 282), kv P "__qualname__" 293 (.str "Error" 292), kv P "__firstlineno__" 295 (.int 3 294), kv P "__static_attributes__" 296 (.ref 39)] 4 } ::
  tup0 ::
  fld0 ::
  ob "code" (.fields #[.str "Error" 286, .str "Error" 287, .str "/claim/cut.py" 288, .int 3 0, .int 0 0, .int 0 0, .int 0 0, .int 0 0, .ref 35, .bool false, .int 276 0, .ref 36, .none, .none, .none, .none, .int 289 0, .int 3 0, .str "/claim/cut.py" 290]) ::
  { cls := .type "frame", slots := #[some (.ref 37), some (.ref 3), some (.ref 34), none, some (.str "cpy313.ftplib" 282), none, some (.ref 0)] } ::
  tup0 ::
  { cls := .type "dict", data := .dict #[kv P "__module__" 291 (.str "cpy313.ftplib" 282), kv P "__firstlineno__" 295 (.int 3 294), kv P "__static_attributes__" 296 (.ref 39), kv P "__weakref__" 298 (.ref 42), kv P "__doc__" 299 .none] 3 } ::
  r
noncomputable def err (l : List Value) : Obj :=
  { cls := .type "type", data := .cls { name := "Error", bases := [.type "Exception"], mro := [.ref 41, .type "Exception", .type "BaseException", .type "object"], ns := 40, qualname := "Error", subclasses := l }, slots := #[some (.ref 32), none, some (.str "Error" 284), some (.str "Error" 292), some (.builtin "Exception.__new__"), some (.bool true)] }
noncomputable def hE2 (P : Params) (r : List Obj) : List Obj :=
  ob "getset_descriptor" (.fields #[.str "__weakref__" 297, .ref 41, .builtin "ExceptionGroup.__weakref__", .none]) ::
  ob "super" (.fields #[.ref 41, .ref 41, .ref 41]) ::
  ob "builtin_function_or_method" (.fields #[.builtin "object.__init_subclass__", .ref 41]) ::
  r
noncomputable def hE3 (P : Params) (r : List Obj) : List Obj :=
  ob "tuple" (.seq #[.ref 41]) ::
  ob "builtin_function_or_method" (.fields #[.builtin "type.__prepare__", .type "type"]) ::
  { cls := .type "dict", data := .dict #[kv P "__module__" 311 (.str "cpy313.ftplib" 282), kv P "__qualname__" 313 (.str "error_reply" 312), kv P "__firstlineno__" 315 (.int 5 314), kv P "__static_attributes__" 316 (.ref 52)] 4 } ::
  tup0 ::
  fld0 ::
  ob "code" (.fields #[.str "error_reply" 306, .str "error_reply" 307, .str "/claim/cut.py" 308, .int 5 0, .int 0 0, .int 0 0, .int 0 0, .int 0 0, .ref 48, .bool false, .int 276 0, .ref 49, .none, .none, .none, .none, .int 309 0, .int 5 0, .str "/claim/cut.py" 310]) ::
  { cls := .type "frame", slots := #[some (.ref 50), some (.ref 3), some (.ref 47), none, some (.str "cpy313.ftplib" 282), none, some (.ref 0)] } ::
  tup0 ::
  { cls := .type "dict", data := .dict #[kv P "__module__" 311 (.str "cpy313.ftplib" 282), kv P "__firstlineno__" 315 (.int 5 314), kv P "__static_attributes__" 316 (.ref 52), kv P "__doc__" 317 .none] 2 } ::
  { cls := .type "type", data := .cls { name := "error_reply", bases := [.ref 41], mro := [.ref 54, .ref 41, .type "Exception", .type "BaseException", .type "object"], ns := 53, qualname := "error_reply" }, slots := #[some (.ref 45), none, some (.str "error_reply" 304), some (.str "error_reply" 312), some (.builtin "Exception.__new__"), some (.bool true)] } ::
  ob "super" (.fields #[.ref 54, .ref 54, .ref 54]) ::
  ob "builtin_function_or_method" (.fields #[.builtin "object.__init_subclass__", .ref 54]) ::
  r
noncomputable def hE4 (P : Params) (r : List Obj) : List Obj :=
  ob "tuple" (.seq #[.ref 41]) ::
  ob "builtin_function_or_method" (.fields #[.builtin "type.__prepare__", .type "type"]) ::
  { cls := .type "dict", data := .dict #[kv P "__module__" 327 (.str "cpy313.ftplib" 282), kv P "__qualname__" 329 (.str "error_proto" 328), kv P "__firstlineno__" 331 (.int 7 330), kv P "__static_attributes__" 332 (.ref 64)] 4 } ::
  tup0 ::
  fld0 ::
  ob "code" (.fields #[.str "error_proto" 322, .str "error_proto" 323, .str "/claim/cut.py" 324, .int 7 0, .int 0 0, .int 0 0, .int 0 0, .int 0 0, .ref 60, .bool false, .int 276 0, .ref 61, .none, .none, .none, .none, .int 325 0, .int 7 0, .str "/claim/cut.py" 326]) ::
  { cls := .type "frame", slots := #[some (.ref 62), some (.ref 3), some (.ref 59), none, some (.str "cpy313.ftplib" 282), none, some (.ref 0)] } ::
  tup0 ::
  { cls := .type "dict", data := .dict #[kv P "__module__" 327 (.str "cpy313.ftplib" 282), kv P "__firstlineno__" 331 (.int 7 330), kv P "__static_attributes__" 332 (.ref 64), kv P "__doc__" 333 .none] 2 } ::
  { cls := .type "type", data := .cls { name := "error_proto", bases := [.ref 41], mro := [.ref 66, .ref 41, .type "Exception", .type "BaseException", .type "object"], ns := 65, qualname := "error_proto" }, slots := #[some (.ref 57), none, some (.str "error_proto" 320), some (.str "error_proto" 328), some (.builtin "Exception.__new__"), some (.bool true)] } ::
  ob "super" (.fields #[.ref 66, .ref 66, .ref 66]) ::
  ob "builtin_function_or_method" (.fields #[.builtin "object.__init_subclass__", .ref 66]) ::
  r
noncomputable def hE5 (P : Params) (r : List Obj) : List Obj :=
  tup0 ::
  fld0 ::
  ob "tuple" (.seq #[.str "resp" 339, .str "peer" 340, .str "left" 341, .str "right" 342, .str "parts" 343, .str "host" 344, .str "port" 345]) ::
  tup0 ::
  fnD 5 ::
  coO "parse229" 336 9 2 69 (.ref 71) (.ref 72) 73 346 ::
  fnO 5 (.str "cpy313.ftplib" 282) 74 ::
  tup0 ::
  fld0 ::
  ob "tuple" (.seq #[.str "resp" 352, .str "dirname" 353, .str "i" 354, .str "n" 355, .str "c" 356]) ::
  tup0 ::
  fnD 6 ::
  coO "parse257" 349 26 1 76 (.ref 78) (.ref 79) 80 357 ::
  fnO 6 (.str "cpy313.ftplib" 282) 81 ::
  ob "list" (.seq #[.int 14 363, .int 14 364, .int 4 365, .int 1 366, .int 1 367, .int 9 368, .int 0 369, .int 64 370, .int 0 371, .int 1342177280 372, .int 0 373, .int 0 374, .int 0 375, .int 0 376, .int 0 377, .int 17 378, .int 0 379, .int 13 380, .int 11 381, .int 9 382, .int 0 383, .int 64 384, .int 0 385, .int 1342177280 386, .int 0 387, .int 0 388, .int 0 389, .int 0 390, .int 0 391, .int 17 392, .int 1 393, .int 1 394]) ::
  { cls := .type "dict", data := .dict #[] } ::
  ob "tuple" (.seq #[.none, .none]) ::
  ob "tuple" (.seq #[.int 14 0, .int 14 0, .int 4 0, .int 1 0, .int 1 0, .int 9 0, .int 0 0, .int 64 0, .int 0 0, .int 1342177280 0, .int 0 0, .int 0 0, .int 0 0, .int 0 0, .int 0 0, .int 17 0, .int 0 0, .int 13 0, .int 11 0, .int 9 0, .int 0 0, .int 64 0, .int 0 0, .int 1342177280 0, .int 0 0, .int 0 0, .int 0 0, .int 0 0, .int 0 0, .int 17 0, .int 1 0, .int 1 0]) ::
  ob "re.Pattern" (.fields #[.str "([&~|])" 361, .int 32 396, .int 1 0, .none, .none, .ref 86, .int 0 0]) ::
  r
noncomputable def hF (P : Params) (r : List Obj) : List Obj :=
  ob "bytes_iterator" (.fields #[.none, .int 24 0]) ::
  { cls := .type "dict", data := .dict #[{ hash := 40, key := .int 40 401, val := .str "\\(" 405 }, { hash := 41, key := .int 41 407, val := .str "\\)" 411 }, { hash := 91, key := .int 91 413, val := .str "\\[" 417 }, { hash := 93, key := .int 93 419, val := .str "\\]" 423 }, { hash := 123, key := .int 123 425, val := .str "\\{" 429 }, { hash := 125, key := .int 125 431, val := .str "\\}" 435 }, { hash := 63, key := .int 63 437, val := .str "\\?" 441 }, { hash := 42, key := .int 42 443, val := .str "\\*" 447 }, { hash := 43, key := .int 43 449, val := .str "\\+" 453 }, { hash := 45, key := .int 45 455, val := .str "\\-" 459 }, { hash := 124, key := .int 124 461, val := .str "\\|" 465 }, { hash := 94, key := .int 94 467, val := .str "\\^" 471 }, { hash := 36, key := .int 36 473, val := .str "\\$" 477 }, { hash := 92, key := .int 92 479, val := .str "\\\\" 483 }, { hash := 46, key := .int 46 485, val := .str "\\." 489 }, { hash := 38, key := .int 38 491, val := .str "\\&" 495 }, { hash := 126, key := .int 126 497, val := .str "\\~" 501 }, { hash := 35, key := .int 35 503, val := .str "\\#" 507 }, { hash := 32, key := .int 32 509, val := .str "\\ " 513 }, { hash := 9, key := .int 9 515, val := .str "\\\t" 519 }, { hash := 10, key := .int 10 521, val := .str "\\\n" 525 }, { hash := 13, key := .int 13 527, val := .str "\\\x0d" 531 }, { hash := 11, key := .int 11 533, val := .str "\\\x0b" 537 }, { hash := 12, key := .int 12 539, val := .str "\\\x0c" 543 }] 24 } ::
  { cls := .type "dict", data := .dict #[] 2 } ::
  tup0 ::
  ob "StopIteration" (.fields #[.ref 91, .none, .none, .none, .bool false, .none]) ::
  r
noncomputable def hG (P : Params) (r : List Obj) : List Obj :=
  tup0 ::
  fld0 ::
  ob "tuple" (.seq #[.str "pattern" 549]) ::
  tup0 ::
  fnD 10 ::
  coO "escape" 546 46 1 93 (.ref 95) (.ref 96) 97 550 ::
  fnO 10 (.str "re" 398) 98 ::
  tup0 ::
  fld0 ::
  ob "tuple" (.seq #[.str "pat" 558, .str "STAR" 559, .str "QUESTION_MARK" 560, .str "res" 561, .str "add" 562, .str "i" 563, .str "n" 564, .str "c" 565, .str "j" 566, .str "stuff" 567, .str "chunks" 568, .str "k" 569, .str "chunk" 570]) ::
  tup0 ::
  fnD 12 ::
  coO "_translate" 555 53 3 100 (.ref 102) (.ref 103) 104 571 ::
  fnO 12 (.str "cpy313.fnmatch" 553) 105 ::
  tup0 ::
  fld0 ::
  ob "tuple" (.seq #[.str "heap" 579, .str "item" 580]) ::
  tup0 ::
  fnD 14 ::
  coO "heappush" 576 116 2 107 (.ref 109) (.ref 110) 111 581 ::
  fnO 14 (.str "cpy313.heapq" 574) 112 ::
  tup0 ::
  fld0 ::
  ob "tuple" (.seq #[.str "heap" 587, .str "lastelt" 588, .str "returnitem" 589]) ::
  tup0 ::
  fnD 15 ::
  coO "heappop" 584 119 1 114 (.ref 116) (.ref 117) 118 590 ::
  fnO 15 (.str "cpy313.heapq" 574) 119 ::
  tup0 ::
  fld0 ::
  ob "tuple" (.seq #[.str "heap" 596, .str "startpos" 597, .str "pos" 598, .str "newitem" 599, .str "parentpos" 600, .str "parent" 601]) ::
  tup0 ::
  fnD 16 ::
  coO "_siftdown" 593 127 3 121 (.ref 123) (.ref 124) 125 602 ::
  fnO 16 (.str "cpy313.heapq" 574) 126 ::
  tup0 ::
  fld0 ::
  ob "tuple" (.seq #[.str "heap" 608, .str "pos" 609, .str "endpos" 610, .str "startpos" 611, .str "newitem" 612, .str "childpos" 613, .str "rightpos" 614]) ::
  tup0 ::
  fnD 17 ::
  coO "_siftup" 605 138 2 128 (.ref 130) (.ref 131) 132 615 ::
  fnO 17 (.str "cpy313.heapq" 574) 133 ::
  tup0 ::
  fld0 ::
  tup0 ::
  tup0 ::
  fnD 19 ::
  coO "_law_names" 620 153 0 135 (.ref 137) (.ref 138) 139 623 ::
  fnO 19 (.str "law_kt0018_01" 618) 140 ::
  tup0 ::
  fld0 ::
  fnD 20 ::
  coO "_law_ways" 626 155 1 142 .none .none 144 629 ::
  fnO 20 (.str "law_kt0018_01" 618) 145 ::
  tup0 ::
  fld0 ::
  ob "tuple" (.seq #[.str "way" 635, .str "start" 636, .str "goal" 637, .str "cost" 638, .str "kind" 639, .str "mark" 640, .str "port" 641]) ::
  tup0 ::
  fnD 21 ::
  coO "_law_replies" 632 158 1 147 (.ref 149) (.ref 150) 151 642 ::
  fnO 21 (.str "law_kt0018_01" 618) 152 ::
  tup0 ::
  fld0 ::
  ob "tuple" (.seq #[.str "first" 648, .str "second" 649]) ::
  tup0 ::
  fnD 22 ::
  coO "_law_heard" 645 163 2 154 (.ref 156) (.ref 157) 158 650 ::
  fnO 22 (.str "law_kt0018_01" 618) 159 ::
  tup0 ::
  fld0 ::
  fnD 23 ::
  coO "_law_heaped" 653 170 1 161 .none .none 163 656 ::
  fnO 23 (.str "law_kt0018_01" 618) 164 ::
  tup0 ::
  fld0 ::
  fnD 24 ::
  coO "_law_searched" 659 172 1 166 .none .none 168 662 ::
  fnO 24 (.str "law_kt0018_01" 618) 169 ::
  tup0 ::
  fld0 ::
  fnD 25 ::
  coO "_law_takes" 665 187 3 171 .none .none 173 668 ::
  fnO 25 (.str "law_kt0018_01" 618) 174 ::
  tup0 ::
  fld0 ::
  fnD 26 ::
  coO "_law_fits" 671 197 2 176 .none .none 178 674 ::
  fnO 26 (.str "law_kt0018_01" 618) 179 ::
  tup0 ::
  fld0 ::
  fnD 27 ::
  coO "_law_least" 677 206 1 181 .none .none 183 680 ::
  fnO 27 (.str "law_kt0018_01" 618) 184 ::
  tup0 ::
  fld0 ::
  fnD 28 ::
  coO "law" 683 213 1 186 .none .none 188 686 ::
  fnO 28 (.str "law_kt0018_01" 618) 189 ::
  r
noncomputable def hp (P : Params) (s : Nat) (nm : Str) (t k : Nat) (r : List Obj) : Heap := ⟨⟨hA P (stt P s :: gls P nm t k :: hB P r)⟩, {}⟩
noncomputable def hp0 (P : Params) : Heap := hp P 9 "__main__" 164 10 []
noncomputable def hp1 (P : Params) : Heap := hp P 9 "__main__" 164 10 (tup0 :: cds 0 :: hD P [])
noncomputable def hp2 (P : Params) : Heap := hp P 11 "cpy313.ftplib" 282 11 (tup0 :: cds 1 :: hD P (hE1 P (err [] :: hE2 P [])))
noncomputable def hp3 (P : Params) : Heap := hp P 11 "cpy313.ftplib" 282 12 (tup0 :: cds 2 :: hD P (hE1 P (err [.ref 54] :: hE2 P (hE3 P []))))
noncomputable def hE (P : Params) (r : List Obj) : List Obj := hE1 P (err [.ref 54, .ref 66] :: hE2 P (hE3 P (hE4 P r)))
noncomputable def hp4 (P : Params) : Heap := hp P 11 "cpy313.ftplib" 282 13 (tup0 :: cds 3 :: hD P (hE P []))
noncomputable def hpA (P : Params) : Heap := hp P 11 "re" 398 16 (tup0 :: cds 5 :: hD P (hE P (hE5 P [])))
noncomputable def hpB (P : Params) : Heap := hp P 11 "re" 398 17 (tup0 :: cds 5 :: hD P (hE P (hE5 P (hF P []))))
noncomputable def hpZ (P : Params) : Heap := hp P 11 "law_kt0018_01" 618 33 (tup0 :: cds 23 :: hD P (hE P (hE5 P (hF P (hG P [])))))
noncomputable def fragAt : List Addr := [3, 40, 41, 53, 54, 65, 66, 74, 75, 81, 82, 86, 87, 89, 98, 99, 105, 106, 112, 113, 119, 120, 126, 127, 133, 134, 140, 141, 145, 146, 152, 153, 159, 160, 164, 165, 169, 170, 174, 175, 179, 180, 184, 185, 189, 190]
noncomputable def frag (P : Params) : Frag := fragAt.map fun a => (a, (hpZ P).objs.toList.getD a default)
noncomputable def view : Program := { pw_kt0018_01 with main := { pw_kt0018_01.main with body := [nth 0, nth 2, nth 3, nth 4, nth 5, nth 6, nth 7, nth 9, nth 10, nth 12, nth 14, nth 15, nth 16, nth 17, nth 19, nth 20, nth 21, nth 22, nth 23, nth 24, nth 25, nth 26, nth 27, nth 28] } }
noncomputable def looseN : List Str := ["_twin_re_1", "_special_chars_map"]
noncomputable def hook : Hook := kmHook frag fragAt (fun _ => by kernel_rfl) [101]
noncomputable abbrev LeftG (w : World) : Prop := (openEnds treeTable rw_kt0018_01.row.prog w 5212).map (fun s => (openSeen view looseN (importedModules rw_kt0018_01.row.prog.main.body) (fun s => xlAt view [] s && recOk (RowW.records rw_kt0018_01.row.toRowW) s) true s, Hook.obs hook s)) = some (openGood view looseN, Hook.val hook w)
theorem saidL (l : OpenLaw) (h : l = rw_kt0018_01) : l.wellSaid = true := by
  unfold OpenLaw.wellSaid OpenRow.wellSaid OpenRow.partSaid looksOpen
  with_reducible repeat' apply look_both
  all_goals subst h
  all_goals decide +kernel
theorem said : rw_kt0018_01.wellSaid = true := saidL _ rfl
set_option tactic.hygienic true
set_option tactic.hygienic false
noncomputable abbrev pg : Program := rw_kt0018_01.row.prog
noncomputable abbrev bh : List Stmt := behindTheImports pg
noncomputable abbrev en : Env := { scope := pg.main.scope, locals := mainNs, globals := mainNs, cells := [], code := .ref 30, frame := some 31 }
noncomputable abbrev cB : Code := .body bh en
noncomputable abbrev an0 : Option Value := some (.ref 6)
noncomputable abbrev fr0 : List Frame := [topFrame default]
noncomputable abbrev sh (h : Heap) (t : Nat) (os : OsState) : Shared := ⟨h, #[], {}, t, os⟩
theorem open0 : ∀ w : World, (fencedOpening treeTable pg w 5212).map (fun s => (s.heap, s.gens, s.drawn, s.toks)) = some (hp0 w.params, #[], {}, 276) := fun w => by kernel_rfl
theorem size0 : ∀ w : World, ((hp0 w.params).isNs mainGlobals && (#[] : Array GenState).size == 0, (hp0 w.params).objs.size, (hp0 w.params).nsMap mainGlobals "__annotations__") = (true, 28, an0) := fun w => by kernel_rfl
theorem go1 (w : World) (os : OsState) : topGo treeTable pg w 28 an0 12 (sh (hp0 w.params) 276 os) (topStub pg) = some (sh (hp1 w.params) 282 os, ⟨denote treeTable cB, cB, default, fr0⟩) := by kernel_rfl
theorem blk (w : World) (os : OsState) : segRun treeTable pg w 28 an0 1 1 (sh (hp1 w.params) 282 os) (blockOf bh en cB default fr0) = some (.next, sh (hp1 w.params) 282 os, cB, default) := by kernel_rfl
set_option tactic.hygienic true
set_option tactic.hygienic false
noncomputable abbrev Seg (w : World) (n : Nat) (h h' : Params → Heap) (t t' : Nat) (l : List Stmt) (p p' : Pos) : Prop := ∀ os : OsState, segRun treeTable pg w 28 an0 1 n (sh (h w.params) t os) (piecesOf l en cB p fr0) = some (.next, sh (h' w.params) t' os, cB, p')
theorem runA (w : World) : Seg w 792 hp1 hpA 282 400 (bh.take 8) default ⟨44, 0, 44, 8⟩ := fun os => by kernel_rfl
theorem runZ (w : World) : Seg w 504 hpB hpZ 546 689 (bh.drop 9) ⟨45, 0, 45, 18⟩ ⟨213, 0, 228, 109⟩ := fun os => by kernel_rfl
theorem end0 (w : World) (os : OsState) : topRun treeTable pg w 28 an0 2 (sh (hpZ w.params) 689 os) (restOf [] en cB ⟨213, 0, 228, 109⟩ fr0) = some (sh (hpZ w.params) 689 os) := by kernel_rfl
set_option tactic.hygienic true
set_option tactic.hygienic false
noncomputable abbrev SegB (w : World) : Prop := Seg w 1253 hpA hpB 400 546 [nth 9] ⟨44, 0, 44, 8⟩ ⟨45, 0, 45, 18⟩
theorem runB1 (w : World) : SegB ((w.withFollow "comprehension-iter-twice" false).withFollow "special-get-raises" false) := fun os => by kernel_rfl
theorem runB2 (w : World) : SegB ((w.withFollow "comprehension-iter-twice" false).withFollow "special-get-raises" true) := fun os => by kernel_rfl
theorem runB3 (w : World) : SegB ((w.withFollow "comprehension-iter-twice" true).withFollow "special-get-raises" false) := fun os => by kernel_rfl
theorem runB4 (w : World) : SegB ((w.withFollow "comprehension-iter-twice" true).withFollow "special-get-raises" true) := fun os => by kernel_rfl
theorem runB : ∀ w : World, SegB w :=
  byRow2 "special-get-raises" (P := SegB) (byRow2 "comprehension-iter-twice" (P := fun w => SegB (w.withFollow "special-get-raises" false)) runB1 runB3) (byRow2 "comprehension-iter-twice" (P := fun w => SegB (w.withFollow "special-get-raises" true)) runB2 runB4)
set_option tactic.hygienic true
set_option tactic.hygienic false
theorem lkK (w : World) (os : OsState) : (staticsOk (importedModules pg.main.body) (hp0 w.params) (hpZ w.params) && namesBound pg (hpZ w.params) && gensDone (sh (hpZ w.params) 689 os) && laidKept (hp0 w.params) (hpZ w.params)) = true := by kernel_rfl
theorem lkS (w : World) (os : OsState) : openSeen view looseN (importedModules pg.main.body) (fun s => xlAt view [] s && recOk (RowW.records rw_kt0018_01.row.toRowW) s) true (sh (hpZ w.params) 689 os) = openGood view looseN := by kernel_rfl
theorem lkH (w : World) (os : OsState) : Hook.obs hook (sh (hpZ w.params) 689 os) = Hook.val hook w := by kernel_rfl
set_option tactic.hygienic true
set_option tactic.hygienic false
theorem bhe : bh = bh.take 8 ++ ([nth 9] ++ (bh.drop 9 ++ [])) := by kernel_rfl
theorem runG (w : World) (os : OsState) : topRun treeTable pg w 28 an0 (12 + (1 + (792 + (1253 + (504 + 2))))) (sh (hp0 w.params) 276 os) (topStub pg) = some (sh (hpZ w.params) 689 os) :=
  go_top (go1 w os) (piece_block (blk w os) ((congrArg (fun l => topRun treeTable pg w 28 an0 (792 + (1253 + (504 + 2))) (sh (hp1 w.params) 282 os) (restOf l en cB default fr0)) bhe).trans
    (piece_app (runA w os) (piece_app (runB w os) (piece_app (runZ w os) (end0 w os))))))
theorem left : LeftO pg view looseN (fun s => xlAt view [] s && recOk (RowW.records rw_kt0018_01.row.toRowW) s) (Hook.obs hook) (Hook.val hook) 5212 :=
  LeftO.of_pieces (H₀ := hp0) (H₁ := hpZ) (gs₀ := #[]) (gs₁ := #[]) (d₀ := {}) (d₁ := {}) open0 size0 runG (by decide) fun w => funext fun os => by
    rw [Prod.mk.injEq, Prod.mk.injEq]
    exact ⟨lkK w os, lkS w os, lkH w os⟩
set_option tactic.hygienic true
set_option tactic.hygienic false

/-- plain values -/
inductive PV where
  | none
  | bool (b : Bool)
  | int (i : Int)
  | str (s : Str)
  | tup (l : List PV)
  | obj (n : Nat)
  | fn (v : Value)
/-- objects that may change -/
inductive PO where
  | list (l : List PV)
  | dict (l : List (PV × PV)) (ep : Nat)
  | blank
  | bound (n : Nat) (id : String)
  | tab (p : Addr)

/-- where the changing objects lie; places that no value may be read from -/
structure Lo where
  p : Nat → Addr
  F : Addr → Prop

inductive VR (σ : Lo) (N : Nat) (h : Heap) : Value → PV → Prop where
  | none : VR σ N h .none .none
  | bool (b : Bool) : VR σ N h (.bool b) (.bool b)
  | int (i : Int) (t : Tok) : VR σ N h (.int i t) (.int i)
  | str (x : Str) (t : Tok) : VR σ N h (.str x t) (.str x)
  | fn (v : Value) : VR σ N h v (.fn v)
  | obj (n : Nat) (hn : n < N) : VR σ N h (.ref (σ.p n)) (.obj n)
  | tup {a : Addr} {o : Obj} {vs : Array Value} {n : Nat} {ps : List PV} (hF : ¬ σ.F a) (ho : h.get? a = some o) (hc : o.cls = .type "tuple") (hd : o.data = .seq vs n) (hl : vs.size = ps.length)
      (hi : ∀ (i : Nat) (v : Value) (p : PV), vs[i]? = some v → ps[i]? = some p → VR σ N h v p) : VR σ N h (.ref a) (.tup ps)

noncomputable def VRs1 (σ : Lo) (N : Nat) (h : Heap) : PV → Value → Prop
  | .none, v => v = .none
  | .bool b, v => v = .bool b
  | .int i, v => ∃ t, v = .int i t
  | .str x, v => ∃ t, v = .str x t
  | .obj n, v => n < N ∧ v = .ref (σ.p n)
  | .fn u, v => v = u
  | .tup _, _ => True
theorem VR.inv {σ : Lo} {N : Nat} {h : Heap} {v : Value} {p : PV} (V : VR σ N h v p) : VRs1 σ N h p v := by
  cases V with
  | none => rfl
  | bool b => rfl
  | int i t => exact ⟨t, rfl⟩
  | str x t => exact ⟨t, rfl⟩
  | fn v => rfl
  | obj n hn => exact ⟨hn, rfl⟩
  | tup => trivial
noncomputable def VRs (σ : Lo) (N : Nat) (h : Heap) (vs : Array Value) (ps : List PV) : Prop := vs.size = ps.length ∧ ∀ (i : Nat) (v : Value) (p : PV), vs[i]? = some v → ps[i]? = some p → VR σ N h v p

noncomputable def ER1 (σ : Lo) (N : Nat) (h : Heap) (e : DictEntry) (kv : PV × PV) : Prop := VR σ N h e.key kv.1 ∧ VR σ N h e.val kv.2

noncomputable def OR (P : Params) (σ : Lo) (N : Nat) (h : Heap) (a : Addr) : PO → Prop
  | .list l => ∃ vs n, h.get? a = some { cls := .type "list", data := .seq vs n } ∧ VRs σ N h vs l
  | .dict l ep => ∃ (es : List DictEntry) (n : Nat), h.get? a = some { cls := .type "dict", data := .dict es.toArray n } ∧ (es.length = l.length ∧ n = ep) ∧
      ∀ (i : Nat) (e : DictEntry) (kv : PV × PV), es[i]? = some e → l[i]? = some kv → ER1 σ N h e kv ∧ (∀ x t, e.key = .str x t → e.hash = PyData.keyHash P x)
  | .blank => ∃ o, h.get? a = some o ∧ o.cls = .type "object" ∧ o.data = .plain
  | .bound n id => ∃ v, h.get? a = some { cls := .type "builtin_function_or_method", data := .fields #[.builtin id, v] } ∧ VR σ N h v (.obj n)
  | .tab p => a = p ∧ ∃ ps, h.get? a = some { cls := .none, data := .fields ps } ∧ TriplesOk ps.toList

theorem OR.notTup {P : Params} {σ : Lo} {N : Nat} {h : Heap} {a : Addr} {o : PO} (H : OR P σ N h a o) : ∃ ob, h.get? a = some ob ∧ ob.cls ≠ .type "tuple" ∧ ob.cls ≠ .type "frame" := by
  cases o with
  | list l => obtain ⟨vs, n, ho, _⟩ := H; exact ⟨_, ho, by simp, by simp⟩
  | dict l ep => obtain ⟨es, n, ho, _⟩ := H; exact ⟨_, ho, by simp, by simp⟩
  | blank => obtain ⟨o, ho, hc, _⟩ := H; exact ⟨_, ho, by simp [hc], by simp [hc]⟩
  | bound n id => obtain ⟨v, ho, _⟩ := H; exact ⟨_, ho, by simp, by simp⟩
  | tab p => obtain ⟨_, v, ho, _⟩ := H; exact ⟨_, ho, by simp, by simp⟩

structure Rel (P : Params) (G : Heap) (σ : Lo) (S : List PO) (h : Heap) : Prop where
  ground : ∀ b o, G.get? b = some o → h.get? b = some o
  objs : ∀ i o, S[i]? = some o → OR P σ S.length h (σ.p i) o
  fresh : ∀ i, i < S.length → G.get? (σ.p i) = none
  inj : ∀ i j, i < S.length → j < S.length → σ.p i = σ.p j → i = j
  fb : ∀ a, σ.F a → ∃ o, h.get? a = some o

noncomputable def KeepO (h' : Heap) (a : Addr) (o : Obj) : Prop := ∃ o', h'.get? a = some o' ∧ o'.data = o.data ∧ o'.cls = o.cls ∧ ((∀ es n, o.data = .dict es n → ¬ StrKeys es) → o' = o)
theorem KeepO.refl {h : Heap} {a : Addr} {o : Obj} (e : h.get? a = some o) : KeepO h a o := ⟨o, e, rfl, rfl, fun _ => rfl⟩
theorem KeepO.same {h : Heap} {a : Addr} {o : Obj} (k : KeepO h a o) (hc : ∀ es n, o.data = .dict es n → ¬ StrKeys es) : h.get? a = some o := by
  obtain ⟨o', e, _, _, f⟩ := k
  rw [f hc] at e; exact e

structure Ext (σ : Lo) (N : Nat) (h : Heap) (σ' : Lo) (N' : Nat) (h' : Heap) : Prop where
  len : N ≤ N'
  same : ∀ i, i < N → σ'.p i = σ.p i
  sameF : ∀ a, σ'.F a ↔ σ.F a
  new : ∀ i, N ≤ i → i < N' → h.get? (σ'.p i) = none
  keep : ∀ a o, h.get? a = some o → (∀ i, i < N → a ≠ σ.p i) → KeepO h' a o
theorem Ext.refl {σ : Lo} {N : Nat} {h : Heap} : Ext σ N h σ N h := ⟨Nat.le_refl _, fun _ _ => rfl, fun _ => Iff.rfl, fun i h1 h2 => absurd h2 (Nat.not_lt.mpr h1), fun _ _ e _ => KeepO.refl e⟩
theorem KeepO.trans {h' h'' : Heap} {a : Addr} {o : Obj} (k : KeepO h' a o) (f : ∀ o', h'.get? a = some o' → KeepO h'' a o') : KeepO h'' a o := by
  obtain ⟨o', e, d, c, q⟩ := k
  obtain ⟨o'', e', d', c', q'⟩ := f o' e
  exact ⟨o'', e', d'.trans d, c'.trans c, fun n => by have := q n; subst this; exact q' n⟩
theorem Rel.alive {P : Params} {G : Heap} {σ : Lo} {S : List PO} {h : Heap} (R : Rel P G σ S h) {i : Nat} (hi : i < S.length) : ∃ o, h.get? (σ.p i) = some o := by
  obtain ⟨ob, e, _⟩ := (R.objs i S[i] (by simp [hi])).notTup
  exact ⟨ob, e⟩
theorem Ext.trans {P : Params} {G : Heap} {S₁ : List PO} {σ σ₁ σ₂ : Lo} {N N₂ : Nat} {h h₁ h₂ : Heap} (R₁ : Rel P G σ₁ S₁ h₁) (x : Ext σ N h σ₁ S₁.length h₁) (y : Ext σ₁ S₁.length h₁ σ₂ N₂ h₂) : Ext σ N h σ₂ N₂ h₂ := by
  refine ⟨Nat.le_trans x.len y.len, fun i hi => (y.same i (Nat.lt_of_lt_of_le hi x.len)).trans (x.same i hi), fun a => (y.sameF a).trans (x.sameF a), fun i h1 h2 => ?_, fun a o e f => ?_⟩
  · by_cases hq : i < S₁.length
    · rw [y.same i hq]; exact x.new i h1 hq
    · have z := y.new i (Nat.le_of_not_lt hq) h2
      cases q : h.get? (σ₂.p i) with
      | none => rfl
      | some o =>
        exfalso
        by_cases hs : ∃ j, j < N ∧ σ₂.p i = σ.p j
        · obtain ⟨j, hj, ej⟩ := hs
          obtain ⟨ob, eo⟩ := R₁.alive (Nat.lt_of_lt_of_le hj x.len)
          rw [x.same j hj, ← ej, z] at eo; cases eo
        · obtain ⟨o', e', _⟩ := x.keep _ _ q fun j hj ej => hs ⟨j, hj, ej⟩
          rw [e'] at z; cases z
  · refine (x.keep a o e f).trans fun o' e' => y.keep a o' e' fun i hi => ?_
    by_cases hq : i < N
    · rw [x.same i hq]; exact f i hq
    · intro ea
      have h1 := x.new i (Nat.le_of_not_lt hq) hi
      rw [← ea, e] at h1; cases h1

section
variable {P : Params} {G : Heap} {σ σ' : Lo} {S S' : List PO} {h h' : Heap} {N' : Nat}
theorem Rel.off (R : Rel P G σ S h) {a : Addr} {o : Obj} (e : h.get? a = some o) (hc : o.cls = .type "tuple" ∨ o.cls = .type "frame") : ∀ i, i < S.length → a ≠ σ.p i := fun i hi q => by
  obtain ⟨ob, e', h1, h2⟩ := (R.objs i S[i] (by simp [hi])).notTup
  rw [← q, e] at e'
  cases e'
  rcases hc with hc | hc
  · exact h1 hc
  · exact h2 hc
theorem VR.mono' {N : Nat} (hl : N ≤ N') (hs : ∀ i, i < N → σ'.p i = σ.p i) (ht : ∀ a o, h.get? a = some o → o.cls = .type "tuple" → (∃ vs n, o.data = .seq vs n) → ¬ σ.F a → h'.get? a = some o ∧ ¬ σ'.F a) {v : Value} {p : PV} (H : VR σ N h v p) : VR σ' N' h' v p := by
  induction H with
  | none => exact .none
  | bool b => exact .bool b
  | int i t => exact .int i t
  | str x t => exact .str x t
  | fn v => exact .fn v
  | obj n hn => rw [← hs n hn]; exact .obj n (Nat.lt_of_lt_of_le hn hl)
  | tup h0 ho hc hd hl _ ih => exact .tup (ht _ _ ho hc ⟨_, _, hd⟩ h0).2 (ht _ _ ho hc ⟨_, _, hd⟩ h0).1 hc hd hl ih
theorem VR.mono {N : Nat} (hl : N ≤ N') (hs : ∀ i, i < N → σ'.p i = σ.p i) (hF : ∀ a, σ'.F a → σ.F a) (ht : ∀ a o, h.get? a = some o → o.cls = .type "tuple" → h'.get? a = some o) {v : Value} {p : PV} (H : VR σ N h v p) : VR σ' N' h' v p :=
  H.mono' hl hs fun a o e c _ n => ⟨ht a o e c, fun q => n (hF a q)⟩
theorem Ext.tup (R : Rel P G σ S h) (X : Ext σ S.length h σ' N' h') {a : Addr} {o : Obj} (e : h.get? a = some o) (hc : o.cls = .type "tuple") (hd : ∃ vs n, o.data = .seq vs n) : h'.get? a = some o :=
  (X.keep a o e (R.off e (.inl hc))).same (fun es n => by obtain ⟨vs, m, q⟩ := hd; rw [q]; simp)
theorem VR.ext (R : Rel P G σ S h) (X : Ext σ S.length h σ' N' h') {v : Value} {p : PV} (H : VR σ S.length h v p) : VR σ' N' h' v p :=
  H.mono' X.len X.same fun _ _ e hc hd hn => ⟨X.tup R e hc hd, fun q => hn ((X.sameF _).mp q)⟩
theorem VRs.ext (R : Rel P G σ S h) (X : Ext σ S.length h σ' N' h') {vs : Array Value} {ps : List PV} (H : VRs σ S.length h vs ps) : VRs σ' N' h' vs ps :=
  ⟨H.1, fun i v p h1 h2 => (H.2 i v p h1 h2).ext R X⟩
end

/-- the top -/
structure Gd (mg : Str → Option Value) (G : Heap) : Prop where
  g : G.Ns mainGlobals mg
  b : ∃ mb, G.Ns builtinsNs mb ∧ ∀ x : Str, x ≠ "__name__" → mb x = bootBuiltins x
  nolimit : G.NoLimit
  seer : G.NoSeer
  nodigits : ∃ mc, G.Ns cStatics mc ∧ mc "sys.int_max_str_digits" = none

structure Room (k : Nat) (A : Around) : Prop where
  hh : A.handled = none
  depth : A.depth + k + Builtin.pylongFrames < recursionLimit
  units : A.units + 8 * k + 80 < cLine

noncomputable abbrev Vars := List (Str × PV)

structure ER (env : Env) (ρ : Vars) (σ : Lo) (N : Nat) (h : Heap) : Prop where
  kind : env.scope.kind = .function
  gl : env.globals = mainGlobals
  bi : env.builtins = builtinsNs
  off : ∀ i, i < N → env.locals ≠ σ.p i
  ns : ∃ m, h.Ns env.locals m ∧ ∀ x p, ρ.lookup x = some p → env.kindOf x = some .local → ∃ v, m x = some v ∧ VR σ N h v p
  cell : ∀ x, (env.kindOf x = some .cell ∨ env.kindOf x = some .free) → ∃ c vo, env.cells.lookup x = some c ∧ h.IsCell c vo ∧ ∀ p, ρ.lookup x = some p → ∃ v, vo = some v ∧ VR σ N h v p
  dom : ∀ x p, ρ.lookup x = some p → env.kindOf x = some .local ∨ env.kindOf x = some .cell ∨ env.kindOf x = some .free
  cinj : ∀ x y c, env.cells.lookup x = some c → env.cells.lookup y = some c → x = y

noncomputable def FrOk (G : Heap) (A : Around) (σ : Lo) (N : Nat) (h : Heap) : Prop := ∃ l, A.frames = some l ∧ h.FunFrames G l ∧ ∀ env ∈ l, ∀ L, env.frame = some L → (∀ i, i < N → L ≠ σ.p i) ∧ ∃ o es n, h.get? L = some o ∧ o.data = .dict es n ∧ StrKeys es
structure Stk (G : Heap) (A : Around) (σ : Lo) (N : Nat) (h : Heap) : Prop where
  top : ∃ e r, A.frames = some (e :: r) ∧ e.scope.isGenerator = false ∧ e.scope.isCoroutine = false ∧ e.builtins = builtinsNs ∧ e.globals = mainGlobals
  fr : FrOk G A σ N h

/-- the env's own places are none of the ground's -/
structure Own (G : Heap) (env : Env) : Prop where
  loc : G.get? env.locals = none
  cells : ∀ x c, env.cells.lookup x = some c → G.get? c = none
  lcell : ∀ x c, env.cells.lookup x = some c → c ≠ env.locals

structure Sit (P : Params) (mg : Str → Option Value) (G : Heap) (A : Around) (k : Nat) (env : Env) (ρ : Vars) (σ : Lo) (S : List PO) (h : Heap) : Prop where
  gd : Gd mg G
  room : Room k A
  stk : Stk G A σ S.length h
  rel : Rel P G σ S h
  er : ER env ρ σ S.length h
  own : Own G env

section
variable {P : Params} {mg : Str → Option Value} {G : Heap} {A : Around} {k : Nat} {env : Env} {ρ : Vars} {σ σ' : Lo} {S S' : List PO} {h h' : Heap} {N' : Nat}
theorem Heap.Ns.keepO {h h' : Heap} {a : Addr} {m : Str → Option Value} (n : h.Ns a m) (k : ∀ o, h.get? a = some o → KeepO h' a o) : h'.Ns a m := by
  obtain ⟨o, es, ep, ho, hd, r⟩ := n
  obtain ⟨o', e, d, _, _⟩ := k o ho
  exact ⟨o', es, ep, e, d.trans hd, r⟩
theorem IsCell.keepO {h h' : Heap} {a : Addr} {v : Option Value} (n : h.IsCell a v) (k : ∀ o, h.get? a = some o → KeepO h' a o) : h'.IsCell a v := by
  obtain ⟨o, ho, hd⟩ := n
  obtain ⟨o', e, d, _, _⟩ := k o ho
  exact ⟨o', e, d.trans hd⟩
theorem OR.blankData {P : Params} {σ : Lo} {N : Nat} {h : Heap} {a : Addr} {o : PO} (H : OR P σ N h a o) : ∃ ob, h.get? a = some ob ∧ ∀ v, ob.data ≠ .cell v := by
  cases o with
  | list l => obtain ⟨vs, n, ho, _⟩ := H; exact ⟨_, ho, by simp⟩
  | dict l ep => obtain ⟨es, n, ho, _⟩ := H; exact ⟨_, ho, by simp⟩
  | blank => obtain ⟨o, ho, hc, hd⟩ := H; exact ⟨_, ho, by simp [hd]⟩
  | bound n id => obtain ⟨v, ho, _⟩ := H; exact ⟨_, ho, by simp⟩
  | tab p => obtain ⟨_, v, ho, _⟩ := H; exact ⟨_, ho, by simp⟩
theorem Rel.offCell (R : Rel P G σ S h) {a : Addr} {v : Option Value} (e : h.IsCell a v) : ∀ i, i < S.length → a ≠ σ.p i := fun i hi q => by
  obtain ⟨ob, e', h1⟩ := (R.objs i S[i] (by simp [hi])).blankData
  obtain ⟨o, ho, hd⟩ := e
  rw [← q, ho] at e'
  cases e'
  exact h1 _ hd
theorem ER.ext (R : Rel P G σ S h) (X : Ext σ S.length h σ' N' h') (H : ER env ρ σ S.length h) (hb : ∀ i, S.length ≤ i → i < N' → env.locals ≠ σ'.p i) : ER env ρ σ' N' h' := by
  refine ⟨H.kind, H.gl, H.bi, fun i hi => ?_, ?_, fun x hx => ?_, H.dom, H.cinj⟩
  · by_cases hq : i < S.length
    · rw [X.same i hq]; exact H.off i hq
    · exact hb i (Nat.le_of_not_lt hq) hi
  · obtain ⟨m, hm, hv⟩ := H.ns
    exact ⟨m, Heap.Ns.keepO hm fun o e => X.keep _ o e H.off, fun x p h1 h2 => let ⟨v, a, b⟩ := hv x p h1 h2; ⟨v, a, b.ext R X⟩⟩
  · obtain ⟨c, vo, h1, h2, h3⟩ := H.cell x hx
    exact ⟨c, vo, h1, IsCell.keepO h2 fun o e => X.keep _ o e (R.offCell h2), fun p hp => let ⟨v, a, b⟩ := h3 p hp; ⟨v, a, b.ext R X⟩⟩
theorem ER.newOff (X : Ext σ S.length h σ' N' h') (H : ER env ρ σ S.length h) : ∀ i, S.length ≤ i → i < N' → env.locals ≠ σ'.p i := fun i h1 h2 q => by
  obtain ⟨m, hm, _⟩ := H.ns
  have := X.new i h1 h2
  obtain ⟨o, _, _, ho, _⟩ := hm
  rw [← q, ho] at this; cases this
theorem Stk.ext (R : Rel P G σ S h) (X : Ext σ S.length h σ' N' h') (H : Stk G A σ S.length h) : Stk G A σ' N' h' := by
  obtain ⟨l, hl, hf, ho⟩ := H.fr
  have hk : ∀ env ∈ l, ∀ L, env.frame = some L → ∀ o, h.get? L = some o → KeepO h' L o := fun env he L hL o e => X.keep L o e (ho env he L hL).1
  refine ⟨H.top, l, hl, ?_, fun env he L hL => ⟨fun i hi q => ?_, ?_⟩⟩
  · have : ∀ l' : List Env, (∀ env ∈ l', ∀ L, env.frame = some L → ∀ o, h.get? L = some o → KeepO h' L o) → h.FunFrames G l' → h'.FunFrames G l' := by
      intro l'
      induction l' with
      | nil => intro _ _; trivial
      | cons e r ih =>
        intro ho ⟨hk, ⟨L, o, h1, h2, h3, h4⟩, hr⟩
        obtain ⟨o', e', d, _, _⟩ := ho e (.head _) L h1 o h3
        exact ⟨hk, ⟨L, o', h1, h2, e', by rw [d]; exact h4⟩, ih (fun env he => ho env (.tail _ he)) hr⟩
    exact this l hk hf
  · obtain ⟨h1, o, es, n, h3, _⟩ := ho env he L hL
    by_cases hq : i < S.length
    · rw [X.same i hq] at q; exact h1 i hq q
    · have := X.new i (Nat.le_of_not_lt hq) hi
      rw [← q, h3] at this; cases this
  · obtain ⟨h1, o, es, n, h3, h4⟩ := ho env he L hL
    obtain ⟨o', e', d, _, _⟩ := hk env he L hL o h3
    exact ⟨o', es, n, e', d.trans h4.1, h4.2⟩
theorem Sit.ext (H : Sit P mg G A k env ρ σ S h) (R' : Rel P G σ' S' h') (X : Ext σ S.length h σ' S'.length h') : Sit P mg G A k env ρ σ' S' h' :=
  ⟨H.gd, H.room, H.stk.ext H.rel X, R', H.er.ext H.rel X (H.er.newOff X), H.own⟩
end

/-- a statement that is not unfolded by the way -/
structure Lock (P : Prop) : Prop where
  run : P

/-- what a value-giving tree hands on -/
noncomputable def Post (P : Params) (G : Heap) (σ : Lo) (S : List PO) (s : Shared) (p : PV) (S' : List PO) (Q : Value → Shared → Prop) : Prop :=
  ∀ v σ' h' tk', Rel P G σ' S' h' → Ext σ S.length s.heap σ' S'.length h' → VR σ' S'.length h' v p → Q v { s with heap := h', toks := tk' }
noncomputable def PostB (P : Params) (G : Heap) (σ : Lo) (S : List PO) (s : Shared) (b : Bool) (S' : List PO) (Q : Bool → Shared → Prop) : Prop :=
  ∀ σ' h' tk', Rel P G σ' S' h' → Ext σ S.length s.heap σ' S'.length h' → Q b { s with heap := h', toks := tk' }
noncomputable def PostL (P : Params) (G : Heap) (σ : Lo) (S : List PO) (s : Shared) (ps : List PV) (S' : List PO) (Q : List Value → Shared → Prop) : Prop :=
  ∀ vs σ' h' tk', Rel P G σ' S' h' → Ext σ S.length s.heap σ' S'.length h' → VRs σ' S'.length h' vs.toArray ps → Q vs { s with heap := h', toks := tk' }

section
variable (prog : Program) (w : World) (mg : Str → Option Value) (G : Heap)
noncomputable def EV (k : Nat) (env : Env) (ρ : Vars) (S : List PO) (e : Expr) (p : PV) (S' : List PO) : Prop :=
  Lock (∀ A σ s, Sit w.params mg G A k env ρ σ S s.heap → ∀ Q E, Post w.params G σ S s p S' Q → wpAny (model prog w) A (eval e env) Q E s)
noncomputable def EB (k : Nat) (env : Env) (ρ : Vars) (S : List PO) (e : Expr) (b : Bool) (S' : List PO) : Prop :=
  Lock (∀ A σ s, Sit w.params mg G A k env ρ σ S s.heap → ∀ Q E, PostB w.params G σ S s b S' Q → wpAny (model prog w) A (isTrue e env (eval e env)) Q E s)
noncomputable def ELs (k : Nat) (env : Env) (ρ : Vars) (S : List PO) (pos : Pos) (es : List Expr) (ps : List PV) (S' : List PO) : Prop :=
  Lock (∀ A σ s, Sit w.params mg G A k env ρ σ S s.heap → ∀ Q E, PostL w.params G σ S s ps S' Q → wpAny (model prog w) A (spliced (backTo pos (starEach es env))) Q E s)
/-- a step on values at hand -/
noncomputable def OP1 (k : Nat) (S : List PO) (p : PV) (t : Value → Sem Value) (r : PV) (S' : List PO) : Prop :=
  Lock (∀ A σ s v, Gd mg G → Room k A → Stk G A σ S.length s.heap → Rel w.params G σ S s.heap → VR σ S.length s.heap v p → ∀ Q E, Post w.params G σ S s r S' Q → wpAny (model prog w) A (t v) Q E s)
noncomputable def OP2 (k : Nat) (S : List PO) (p q : PV) (t : Value → Value → Sem Value) (r : PV) (S' : List PO) : Prop :=
  Lock (∀ A σ s v u, Gd mg G → Room k A → Stk G A σ S.length s.heap → Rel w.params G σ S s.heap → VR σ S.length s.heap v p → VR σ S.length s.heap u q → ∀ Q E, Post w.params G σ S s r S' Q → wpAny (model prog w) A (t v u) Q E s)
noncomputable def OPL (k : Nat) (S : List PO) (ps : List PV) (t : List Value → Sem Value) (r : PV) (S' : List PO) : Prop :=
  Lock (∀ A σ s vs, Gd mg G → Room k A → Stk G A σ S.length s.heap → Rel w.params G σ S s.heap → VRs σ S.length s.heap vs.toArray ps → ∀ Q E, Post w.params G σ S s r S' Q → wpAny (model prog w) A (t vs) Q E s)
end

section
variable {prog : Program} {w : World} {mg : Str → Option Value} {G : Heap} {k : Nat} {env : Env} {ρ : Vars} {S S₁ S₂ S' : List PO}
theorem Post.ofExt {P : Params} {σ σ₁ : Lo} {s : Shared} {h₁ : Heap} {tk : Nat} {p : PV} {Q : Value → Shared → Prop} (R₁ : Rel P G σ₁ S₁ h₁) (X : Ext σ S.length s.heap σ₁ S₁.length h₁) (H : Post P G σ S s p S' Q) :
    Post P G σ₁ S₁ { s with heap := h₁, toks := tk } p S' Q := fun v σ' h' tk' R X' V => H v σ' h' tk' R (Ext.trans R₁ X X') V

theorem EV.int {i : Int} {n : Nat} {pos : Pos} : EV prog w mg G k env ρ S (.Constant (.int i) n pos) (.int i) S :=
  Lock.mk fun A σ s T Q E H => wpAny_Constant_int (H _ _ _ _ T.rel Ext.refl (.int _ _))
theorem EV.bool {b : Bool} {n : Nat} {pos : Pos} : EV prog w mg G k env ρ S (.Constant (.bool b) n pos) (.bool b) S :=
  Lock.mk fun A σ s T Q E H => wpAny_pure (H _ _ _ s.toks T.rel Ext.refl (.bool _))
theorem EV.none {n : Nat} {pos : Pos} : EV prog w mg G k env ρ S (.Constant .none n pos) .none S :=
  Lock.mk fun A σ s T Q E H => wpAny_pure (H _ _ _ s.toks T.rel Ext.refl .none)
theorem EV.str {x : Str} {n : Nat} {pos : Pos} : EV prog w mg G k env ρ S (.Constant (.str x) n pos) (.str x) S :=
  Lock.mk fun A σ s T Q E H => wpAny_mkText (H _ _ _ _ T.rel Ext.refl (.str _ _))

theorem EV.bin {l r : Expr} {op : Operator} {pos : Pos} {p q c : PV} (h1 : EV prog w mg G k env ρ S l p S₁) (h2 : EV prog w mg G k env ρ S₁ r q S₂) (h3 : OP2 prog w mg G k S₂ p q (binaryOp op) c S') :
    EV prog w mg G k env ρ S (.BinOp l op r pos) c S' := Lock.mk fun A σ s T Q E H => by
  refine wpAny_BinOp (h1.run A σ s T _ _ fun v σ₁ h₁ tk₁ R₁ X₁ V₁ => ?_)
  have T₁ := T.ext R₁ X₁
  refine h2.run A σ₁ _ T₁ _ _ fun u σ₂ h₂ tk₂ R₂ X₂ V₂ => ?_
  have T₂ := T₁.ext R₂ X₂
  exact h3.run A σ₂ _ _ _ T₂.gd T₂.room T₂.stk T₂.rel (V₁.ext R₁ X₂) V₂ _ _ ((H.ofExt (h₁ := h₁) (tk := tk₁) R₁ X₁).ofExt (h₁ := h₂) (tk := tk₂) R₂ X₂)
theorem EV.cmp {l r : Expr} {op : CmpOp} {pos : Pos} {p q c : PV} (h1 : EV prog w mg G k env ρ S l p S₁) (h2 : EV prog w mg G k env ρ S₁ r q S₂) (h3 : OP2 prog w mg G k S₂ p q (compareOp op) c S')
    (hm : behindInMarks op r = false := by with_unfolding_all rfl) :
    EV prog w mg G k env ρ S (.Compare l [op] [r] pos) c S' := Lock.mk fun A σ s T Q E H => by
  refine wpAny_Compare1 (h1.run A σ s T _ _ fun v σ₁ h₁ tk₁ R₁ X₁ V₁ => ?_) hm
  have T₁ := T.ext R₁ X₁
  refine h2.run A σ₁ _ T₁ _ _ fun u σ₂ h₂ tk₂ R₂ X₂ V₂ => ?_
  have T₂ := T₁.ext R₂ X₂
  exact h3.run A σ₂ _ _ _ T₂.gd T₂.room T₂.stk T₂.rel (V₁.ext R₁ X₂) V₂ _ _ ((H.ofExt (h₁ := h₁) (tk := tk₁) R₁ X₁).ofExt (h₁ := h₂) (tk := tk₂) R₂ X₂)
theorem EV.name {x : Str} {pos : Pos} {p : PV} (hx : ρ.lookup x = some p) (hd : (x == ("__debug__" : Str)) = false := by decide) (hn : (x == ("__classdict__" : Str)) = false := by decide) :
    EV prog w mg G k env ρ S (.Name x pos) p S := Lock.mk fun A σ s T Q E H => by
  refine wpAny_Name ?_ hd
  rcases T.er.dom x p hx with hk | hk | hk
  · obtain ⟨m, hm, hv⟩ := T.er.ns
    obtain ⟨v, e, V⟩ := hv x p hx hk
    exact wpAny_loadName_local T.er.kind hk hm e (H _ _ _ s.toks T.rel Ext.refl V)
  · obtain ⟨c, vo, h1, h2, h3⟩ := T.er.cell x (.inl hk)
    obtain ⟨v, e, V⟩ := h3 p hx
    subst e
    exact wpAny_loadName_cell T.er.kind hk h1 h2 (H _ _ _ s.toks T.rel Ext.refl V)
  · obtain ⟨c, vo, h1, h2, h3⟩ := T.er.cell x (.inr hk)
    obtain ⟨v, e, V⟩ := h3 p hx
    subst e
    exact wpAny_loadName_free T.er.kind hk h1 h2 (H _ _ _ s.toks T.rel Ext.refl V) hn
theorem EV.glob {x : Str} {pos : Pos} {v : Value} (hk : env.kindOf x = some .globalImplicit) (hm : mg x = some v) (hd : (x == ("__debug__" : Str)) = false := by decide) :
    EV prog w mg G k env ρ S (.Name x pos) (.fn v) S := Lock.mk fun A σ s T Q E H => by
  refine Name_function_global T.er.kind hk (loadGlobal_global (env := env) (by rw [T.er.gl]; exact T.gd.g.keeps T.rel.ground) hm (H _ _ _ s.toks T.rel Ext.refl (.fn _))) hd
theorem EV.builtin {x : Str} {pos : Pos} {v : Value} (hk : env.kindOf x = some .globalImplicit) (hm : mg x = Option.none) (hv : bootBuiltins x = some v) (hn : x ≠ "__name__") (hd : (x == ("__debug__" : Str)) = false := by decide) :
    EV prog w mg G k env ρ S (.Name x pos) (.fn v) S := Lock.mk fun A σ s T Q E H => by
  obtain ⟨mb, hb, he⟩ := T.gd.b
  refine Name_function_global T.er.kind hk (loadGlobal_builtin (env := env) (by rw [T.er.gl]; exact T.gd.g.keeps T.rel.ground) hm (by rw [T.er.bi]; exact hb.keeps T.rel.ground) ((he x hn).trans hv) (H _ _ _ s.toks T.rel Ext.refl (.fn _))) hd
end
set_option tactic.hygienic true
set_option tactic.hygienic false

noncomputable def upd : Vars → Str → PV → Vars
  | [], x, p => [(x, p)]
  | (y, q) :: r, x, p => if y = x then (x, p) :: r else (y, q) :: upd r x p
theorem lookup_upd (ρ : Vars) (x : Str) (p : PV) (y : Str) : (upd ρ x p).lookup y = if y = x then some p else ρ.lookup y := by
  induction ρ with
  | nil =>
    show List.lookup y [(x, p)] = _
    rw [List.lookup_cons]
    by_cases h : y = x
    · subst h; simp
    · have : (y == x) = false := beq_eq_false_iff_ne.mpr h
      simp [this, h]
  | cons a r ih =>
    obtain ⟨z, q⟩ := a
    unfold upd
    by_cases hz : z = x
    · subst hz
      rw [if_pos rfl, List.lookup_cons, List.lookup_cons]
      by_cases h : y = z
      · subst h; simp
      · have : (y == z) = false := beq_eq_false_iff_ne.mpr h
        simp [this, h]
    · rw [if_neg hz, List.lookup_cons, List.lookup_cons, ih]
      by_cases h : y = z
      · subst h; simp [hz]
      · have : (y == z) = false := beq_eq_false_iff_ne.mpr h
        simp [this]

noncomputable def envB (env : Env) (a : Addr) : Prop := a = env.locals ∨ ∃ x, (env.kindOf x = some .cell ∨ env.kindOf x = some .free) ∧ env.cells.lookup x = some a

structure ExtP (B : Addr → Prop) (σ : Lo) (N : Nat) (h : Heap) (σ' : Lo) (N' : Nat) (h' : Heap) : Prop where
  len : N ≤ N'
  same : ∀ i, i < N → σ'.p i = σ.p i
  sameF : ∀ a, σ'.F a ↔ σ.F a
  new : ∀ i, N ≤ i → i < N' → h.get? (σ'.p i) = none
  keep : ∀ a o, h.get? a = some o → (∀ i, i < N → a ≠ σ.p i) → ¬ B a → KeepO h' a o
noncomputable abbrev ExtX (env : Env) := ExtP (envB env)
theorem ExtP.weaken {B B' : Addr → Prop} {σ σ' : Lo} {N N' : Nat} {h h' : Heap} (x : ExtP B σ N h σ' N' h') (hb : ∀ a, B a → B' a) : ExtP B' σ N h σ' N' h' := ⟨x.len, x.same, x.sameF, x.new, fun a o e f n => x.keep a o e f fun q => n (hb a q)⟩
theorem Ext.toX {env : Env} {σ σ' : Lo} {N N' : Nat} {h h' : Heap} (x : Ext σ N h σ' N' h') : ExtX env σ N h σ' N' h' := ⟨x.len, x.same, x.sameF, x.new, fun a o e f _ => x.keep a o e f⟩
theorem ER.alive {env : Env} {ρ : Vars} {σ : Lo} {N : Nat} {h : Heap} (H : ER env ρ σ N h) {a : Addr} (hb : envB env a) : ∃ o, h.get? a = some o := by
  rcases hb with rfl | ⟨x, hk, hc⟩
  · obtain ⟨m, ⟨o, es, ep, ho, _⟩, _⟩ := H.ns
    exact ⟨o, ho⟩
  · obtain ⟨c, vo, h1, ⟨o, ho, _⟩, _⟩ := H.cell x hk
    rw [hc] at h1; cases h1
    exact ⟨o, ho⟩
theorem ExtP.trans {P : Params} {G : Heap} {S₁ : List PO} {B : Addr → Prop} {σ σ₁ σ₂ : Lo} {N N₂ : Nat} {h h₁ h₂ : Heap} (R₁ : Rel P G σ₁ S₁ h₁) (al : ∀ a, B a → ∃ o, h₁.get? a = some o) (x : ExtP B σ N h σ₁ S₁.length h₁) (y : ExtP B σ₁ S₁.length h₁ σ₂ N₂ h₂) :
    ExtP B σ N h σ₂ N₂ h₂ := by
  refine ⟨Nat.le_trans x.len y.len, fun i hi => (y.same i (Nat.lt_of_lt_of_le hi x.len)).trans (x.same i hi), fun a => (y.sameF a).trans (x.sameF a), fun i h1 h2 => ?_, fun a o e f g => ?_⟩
  · by_cases hq : i < S₁.length
    · rw [y.same i hq]; exact x.new i h1 hq
    · have z := y.new i (Nat.le_of_not_lt hq) h2
      cases q : h.get? (σ₂.p i) with
      | none => rfl
      | some o =>
        exfalso
        by_cases hs : ∃ j, j < N ∧ σ₂.p i = σ.p j
        · obtain ⟨j, hj, ej⟩ := hs
          obtain ⟨ob, eo⟩ := R₁.alive (Nat.lt_of_lt_of_le hj x.len)
          rw [x.same j hj, ← ej, z] at eo; cases eo
        · by_cases hb : B (σ₂.p i)
          · obtain ⟨o', e'⟩ := al _ hb
            rw [e'] at z; cases z
          · obtain ⟨o', e', _⟩ := x.keep _ _ q (fun j hj ej => hs ⟨j, hj, ej⟩) hb
            rw [e'] at z; cases z
  · refine (x.keep a o e f g).trans fun o' e' => y.keep a o' e' (fun i hi => ?_) g
    by_cases hq : i < N
    · rw [x.same i hq]; exact f i hq
    · intro ea
      have h1 := x.new i (Nat.le_of_not_lt hq) hi
      rw [← ea, e] at h1; cases h1

theorem ExtX.trans {P : Params} {G : Heap} {S₁ : List PO} {env : Env} {ρ₁ : Vars} {σ σ₁ σ₂ : Lo} {N N₂ : Nat} {h h₁ h₂ : Heap} (R₁ : Rel P G σ₁ S₁ h₁) (E₁ : ER env ρ₁ σ₁ S₁.length h₁) (x : ExtX env σ N h σ₁ S₁.length h₁) (y : ExtX env σ₁ S₁.length h₁ σ₂ N₂ h₂) :
    ExtX env σ N h σ₂ N₂ h₂ := ExtP.trans R₁ (fun _ hb => E₁.alive hb) x y
/-- what a store to a name may touch -/
noncomputable def stB (env : Env) (x : Str) (a : Addr) : Prop := (env.kindOf x = some .local ∧ a = env.locals) ∨ (env.kindOf x = some .cell ∧ env.cells.lookup x = some a)
theorem stB.env {env : Env} {x : Str} {a : Addr} (h : stB env x a) : envB env a := h.elim (fun q => .inl q.2) fun q => .inr ⟨x, .inl q.1, q.2⟩

section
variable {P : Params} {mg : Str → Option Value} {G : Heap} {A : Around} {k : Nat} {env : Env} {ρ ρ' : Vars} {σ σ' : Lo} {S S' : List PO} {h h' : Heap} {N' : Nat}
theorem ER.bData (H : ER env ρ σ S.length h) {a : Addr} (hb : envB env a) : ∃ o, h.get? a = some o ∧ (∀ vs n, o.data ≠ .seq vs n) ∧ (∀ vs, o.data ≠ .fields vs) := by
  rcases hb with rfl | ⟨x, hk, hc⟩
  · obtain ⟨m, ⟨o, es, ep, ho, hd, _⟩, _⟩ := H.ns
    exact ⟨o, ho, by simp [hd], by simp [hd]⟩
  · obtain ⟨c, vo, h1, ⟨o, ho, hd⟩, _⟩ := H.cell x hk
    rw [hc] at h1; cases h1
    exact ⟨o, ho, by simp [hd], by simp [hd]⟩
theorem VR.extX (R : Rel P G σ S h) (H : ER env ρ σ S.length h) (X : ExtX env σ S.length h σ' N' h') {v : Value} {p : PV} (V : VR σ S.length h v p) : VR σ' N' h' v p := by
  induction V with
  | none => exact .none
  | bool b => exact .bool b
  | int i t => exact .int i t
  | str x t => exact .str x t
  | fn v => exact .fn v
  | obj n hn => rw [← X.same n hn]; exact .obj n (Nat.lt_of_lt_of_le hn X.len)
  | tup h0 ho hc hd hl _ ih =>
    refine .tup (fun q => h0 ((X.sameF _).mp q)) ((X.keep _ _ ho (R.off ho (.inl hc)) fun hb => ?_).same (by rw [hd]; simp)) hc hd hl ih
    obtain ⟨o, ho', h1, _⟩ := H.bData hb
    rw [ho] at ho'; cases ho'
    exact h1 _ _ hd
theorem VRs.extX (R : Rel P G σ S h) (H : ER env ρ σ S.length h) (X : ExtX env σ S.length h σ' N' h') {vs : Array Value} {ps : List PV} (V : VRs σ S.length h vs ps) : VRs σ' N' h' vs ps :=
  ⟨V.1, fun i v p h1 h2 => (V.2 i v p h1 h2).extX R H X⟩
theorem Stk.extX (X : ExtX env σ S.length h σ' N' h') (H : Stk G A σ S.length h) (E₀ : ER env ρ σ S.length h) (E' : ER env ρ' σ' N' h') : Stk G A σ' N' h' := by
  obtain ⟨l, hl, hf, ho⟩ := H.fr
  have hk : ∀ env' ∈ l, ∀ L, env'.frame = some L → ∃ o es n, h'.get? L = some o ∧ o.data = .dict es n ∧ StrKeys es := fun env' he L hL => by
    obtain ⟨h1, o, es, n, h3, h4⟩ := ho env' he L hL
    by_cases hb : envB env L
    · rcases hb with rfl | ⟨x, hkx, hc⟩
      · obtain ⟨m, ⟨o', es, ep, ho', hd, hks, _⟩, _⟩ := E'.ns
        exact ⟨o', es, ep, ho', hd, hks⟩
      · obtain ⟨c, vo, h5, ⟨o', ho', hd'⟩, _⟩ := E₀.cell x hkx
        rw [hc] at h5; cases h5
        rw [h3] at ho'; cases ho'
        rw [h4.1] at hd'; cases hd'
    · obtain ⟨o', e', d, _, _⟩ := X.keep L o h3 h1 hb
      exact ⟨o', es, n, e', d.trans h4.1, h4.2⟩
  refine ⟨H.top, l, hl, ?_, fun env' he L hL => ⟨fun i hi q => ?_, hk env' he L hL⟩⟩
  · have : ∀ l' : List Env, (∀ env ∈ l', ∀ L, env.frame = some L → ∃ o es n, h'.get? L = some o ∧ o.data = .dict es n ∧ StrKeys es) → h.FunFrames G l' → h'.FunFrames G l' := by
      intro l'
      induction l' with
      | nil => intro _ _; trivial
      | cons e r ih =>
        intro ho ⟨hk, ⟨L, o, h1, h2, h3, h4⟩, hr⟩
        obtain ⟨o', es, n, e', d⟩ := ho e (.head _) L h1
        exact ⟨hk, ⟨L, o', h1, h2, e', by rw [d.1]; simp⟩, ih (fun env he => ho env (.tail _ he)) hr⟩
    exact this l hk hf
  · obtain ⟨h1, o, es, n, h3, _⟩ := ho env' he L hL
    by_cases hq : i < S.length
    · rw [X.same i hq] at q; exact h1 i hq q
    · have := X.new i (Nat.le_of_not_lt hq) hi
      rw [← q, h3] at this; cases this
theorem Sit.extX (H : Sit P mg G A k env ρ σ S h) (R' : Rel P G σ' S' h') (X : ExtX env σ S.length h σ' S'.length h') (E' : ER env ρ' σ' S'.length h') : Sit P mg G A k env ρ' σ' S' h' :=
  ⟨H.gd, H.room, H.stk.extX X H.er E', R', E', H.own⟩
end

inductive Out where
  | next (ρ : Vars) (S : List PO)
  | brk (ρ : Vars) (S : List PO)
  | cont (ρ : Vars) (S : List PO)
  | ret (p : PV) (S : List PO)

noncomputable def PostX (P : Params) (G : Heap) (env : Env) (σ : Lo) (S : List PO) (s : Shared) (o : Out) (Q : Flow → Shared → Prop) : Prop := match o with
  | .next ρ' S' => ∀ σ' h' tk', Rel P G σ' S' h' → ExtX env σ S.length s.heap σ' S'.length h' → ER env ρ' σ' S'.length h' → Q .next { s with heap := h', toks := tk' }
  | .brk ρ' S' => ∀ σ' h' tk', Rel P G σ' S' h' → ExtX env σ S.length s.heap σ' S'.length h' → ER env ρ' σ' S'.length h' → Q .brk { s with heap := h', toks := tk' }
  | .cont ρ' S' => ∀ σ' h' tk', Rel P G σ' S' h' → ExtX env σ S.length s.heap σ' S'.length h' → ER env ρ' σ' S'.length h' → Q .cont { s with heap := h', toks := tk' }
  | .ret p S' => ∀ v σ' h' tk', Rel P G σ' S' h' → ExtX env σ S.length s.heap σ' S'.length h' → VR σ' S'.length h' v p → Q (.ret v) { s with heap := h', toks := tk' }
theorem PostX.ofExt {P : Params} {G : Heap} {env : Env} {σ σ₁ : Lo} {S S₁ : List PO} {s : Shared} {h₁ : Heap} {tk : Nat} {o : Out} {ρ₁ : Vars} {Q : Flow → Shared → Prop} (R₁ : Rel P G σ₁ S₁ h₁) (E₁ : ER env ρ₁ σ₁ S₁.length h₁) (X : ExtX env σ S.length s.heap σ₁ S₁.length h₁) (H : PostX P G env σ S s o Q) :
    PostX P G env σ₁ S₁ { s with heap := h₁, toks := tk } o Q := by
  cases o with
  | next ρ' S' => exact fun σ' h' tk' R X' V => H σ' h' tk' R (ExtX.trans R₁ E₁ X X') V
  | brk ρ' S' => exact fun σ' h' tk' R X' V => H σ' h' tk' R (ExtX.trans R₁ E₁ X X') V
  | cont ρ' S' => exact fun σ' h' tk' R X' V => H σ' h' tk' R (ExtX.trans R₁ E₁ X X') V
  | ret p S' => exact fun v σ' h' tk' R X' V => H v σ' h' tk' R (ExtX.trans R₁ E₁ X X') V

section
variable (prog : Program) (w : World) (mg : Str → Option Value) (G : Heap)
noncomputable def EX (k : Nat) (env : Env) (ρ : Vars) (S : List PO) (st : Stmt) (o : Out) : Prop :=
  Lock (∀ A σ s, Sit w.params mg G A k env ρ σ S s.heap → Own G env → ∀ Q E, PostX w.params G env σ S s o Q → wpAny (model prog w) A (exec st env) Q E s)
noncomputable def EXs (k : Nat) (env : Env) (ρ : Vars) (S : List PO) (st : List Stmt) (o : Out) : Prop :=
  Lock (∀ A σ s, Sit w.params mg G A k env ρ σ S s.heap → Own G env → ∀ Q E, PostX w.params G env σ S s o Q → wpAny (model prog w) A (execs st env) Q E s)
end

section
variable {prog : Program} {w : World} {mg : Str → Option Value} {G : Heap} {k : Nat} {env : Env} {ρ ρ₁ ρ₂ : Vars} {S S₁ S₂ S' : List PO}

theorem EXs.nil : EXs prog w mg G k env ρ S [] (.next ρ S) := Lock.mk fun A σ s T O Q E H => wpAny_execs_nil (H σ s.heap s.toks T.rel Ext.refl.toX T.er)
theorem EXs.cons {st : Stmt} {rest : List Stmt} {o : Out} (h1 : EX prog w mg G k env ρ S st (.next ρ₁ S₁)) (h2 : EXs prog w mg G k env ρ₁ S₁ rest o) : EXs prog w mg G k env ρ S (st :: rest) o :=
  Lock.mk fun A σ s T O Q E H => by
    refine wpAny_execs_cons (h1.run A σ s T O _ _ fun σ₁ h₁ tk₁ R₁ X₁ E₁ => ?_)
    exact h2.run A σ₁ _ (T.extX R₁ X₁ E₁) O Q E (H.ofExt R₁ E₁ X₁)
theorem EXs.stop {st : Stmt} {rest : List Stmt} {p : PV} (h1 : EX prog w mg G k env ρ S st (.ret p S₁)) : EXs prog w mg G k env ρ S (st :: rest) (.ret p S₁) :=
  Lock.mk fun A σ s T O Q E H => wpAny_execs_cons (h1.run A σ s T O _ _ fun v σ₁ h₁ tk₁ R₁ X₁ V₁ => H v σ₁ h₁ tk₁ R₁ X₁ V₁)
theorem EXs.brk {st : Stmt} {rest : List Stmt} (h1 : EX prog w mg G k env ρ S st (.brk ρ₁ S₁)) : EXs prog w mg G k env ρ S (st :: rest) (.brk ρ₁ S₁) :=
  Lock.mk fun A σ s T O Q E H => wpAny_execs_cons (h1.run A σ s T O _ _ fun σ₁ h₁ tk₁ R₁ X₁ V₁ => H σ₁ h₁ tk₁ R₁ X₁ V₁)
theorem EXs.cont {st : Stmt} {rest : List Stmt} (h1 : EX prog w mg G k env ρ S st (.cont ρ₁ S₁)) : EXs prog w mg G k env ρ S (st :: rest) (.cont ρ₁ S₁) :=
  Lock.mk fun A σ s T O Q E H => wpAny_execs_cons (h1.run A σ s T O _ _ fun σ₁ h₁ tk₁ R₁ X₁ V₁ => H σ₁ h₁ tk₁ R₁ X₁ V₁)
theorem EX.ret {e : Expr} {pos : Pos} {p : PV} (h1 : EV prog w mg G k env ρ S e p S₁) : EX prog w mg G k env ρ S (.Return (some e) pos) (.ret p S₁) :=
  Lock.mk fun A σ s T O Q E H => wpAny_Return_some (h1.run A σ s T _ _ fun v σ₁ h₁ tk₁ R₁ X₁ V₁ => H v σ₁ h₁ tk₁ R₁ X₁.toX V₁)
theorem EX.break_ {pos : Pos} : EX prog w mg G k env ρ S (.Break pos) (.brk ρ S) := Lock.mk fun A σ s T O Q E H => wpAny_Break (H σ s.heap s.toks T.rel Ext.refl.toX T.er)
theorem EX.continue_ {pos : Pos} : EX prog w mg G k env ρ S (.Continue pos) (.cont ρ S) := Lock.mk fun A σ s T O Q E H => wpAny_Continue (H σ s.heap s.toks T.rel Ext.refl.toX T.er)
theorem EX.if_ {test : Expr} {body orelse : List Stmt} {pos : Pos} {b : Bool} {o : Out} (h1 : EB prog w mg G k env ρ S test b S₁) (h2 : b = true → EXs prog w mg G k env ρ S₁ body o) (h3 : b = false → EXs prog w mg G k env ρ S₁ orelse o) :
    EX prog w mg G k env ρ S (.If test body orelse pos) o := Lock.mk fun A σ s T O Q E H => by
  refine wpAny_If (h1.run A σ s T _ _ fun σ₁ h₁ tk₁ R₁ X₁ => ?_)
  have T₁ := T.ext R₁ X₁
  cases b with
  | true => exact (h2 rfl).run A σ₁ _ T₁ O Q E (H.ofExt R₁ T₁.er X₁.toX)
  | false => exact (h3 rfl).run A σ₁ _ T₁ O Q E (H.ofExt R₁ T₁.er X₁.toX)

/-- a store to a name -/
theorem store {x : Str} {p : PV} {A : Around} {σ : Lo} {s : Shared} {v : Value} (T : Sit w.params mg G A k env ρ σ S s.heap) (O : Own G env) (hk : env.kindOf x = some .local ∨ env.kindOf x = some .cell) (V : VR σ S.length s.heap v p)
    {Q : Unit → Shared → Prop} {E : Value → Shared → Prop} (H : ∀ h' tk', Rel w.params G σ S h' → ExtP (stB env x) σ S.length s.heap σ S.length h' → ER env (upd ρ x p) σ S.length h' → Q () { s with heap := h', toks := tk' }) :
    wpAny (model prog w) A (storeName env x v) Q E s := by
  have key : ∀ (a : Addr) (h' : Heap), stB env x a → (∀ i, i < S.length → a ≠ σ.p i) → G.get? a = none → Heap.SameBut a s.heap h' → (∃ o, h'.get? a = some o) → Rel w.params G σ S h' ∧ ExtP (stB env x) σ S.length s.heap σ S.length h' ∧ (∀ v p, VR σ S.length s.heap v p → VR σ S.length h' v p) := by
    intro a h' hb ho hg hs halive
    have X : ExtP (stB env x) σ S.length s.heap σ S.length h' := ⟨Nat.le_refl _, fun _ _ => rfl, fun _ => Iff.rfl, fun i h1 h2 => absurd h2 (Nat.not_lt.mpr h1), fun b o e _ nb => ⟨o, (hs.2 b fun q => nb (q ▸ hb)).trans e, rfl, rfl, fun _ => rfl⟩⟩
    have mono : ∀ v p, VR σ S.length s.heap v p → VR σ S.length h' v p := fun v p V => V.extX T.rel T.er (X.weaken fun _ q => q.env)
    refine ⟨⟨fun b o e => ?_, fun i o e => ?_, T.rel.fresh, T.rel.inj, fun b q => ?_⟩, X, mono⟩
    · exact (hs.2 b fun q => by rw [q, hg] at e; cases e).trans (T.rel.ground b o e)
    · have hi : i < S.length := (List.getElem?_eq_some_iff.mp e).1
      have eq : h'.get? (σ.p i) = s.heap.get? (σ.p i) := hs.2 _ (Ne.symm (ho i hi))
      have R := T.rel.objs i o e
      cases o with
      | list l =>
        obtain ⟨vs, n, h1, h2, h3⟩ := R
        exact ⟨vs, n, eq.trans h1, h2, fun i v p a b => mono _ _ (h3 i v p a b)⟩
      | dict l ep =>
        obtain ⟨es, n, h1, h2, h3⟩ := R
        exact ⟨es, n, eq.trans h1, h2, fun i e kv a b => ⟨⟨mono _ _ (h3 i e kv a b).1.1, mono _ _ (h3 i e kv a b).1.2⟩, (h3 i e kv a b).2⟩⟩
      | blank =>
        obtain ⟨o, h1, h2⟩ := R
        exact ⟨o, eq.trans h1, h2⟩
      | bound n id =>
        obtain ⟨v, h1, h2⟩ := R
        exact ⟨v, eq.trans h1, mono _ _ h2⟩
      | tab p =>
        obtain ⟨ha, v, h1, h2⟩ := R
        exact ⟨ha, v, eq.trans h1, h2⟩
    · by_cases hba : b = a
      · subst hba
        exact halive
      · obtain ⟨o, e⟩ := T.rel.fb b q
        exact ⟨o, (hs.2 b hba).trans e⟩
  rcases hk with hk | hk
  · obtain ⟨m, hm, hv⟩ := T.er.ns
    refine wpAny_storeName_local hk hm (fun h' hn hs => ?_) (by rw [T.er.kind]; rfl)
    obtain ⟨R', X, mono⟩ := key env.locals h' (.inl ⟨hk, rfl⟩) T.er.off O.loc hs (let ⟨o, _, _, e, _⟩ := hn; ⟨o, e⟩)
    refine H h' _ R' X ⟨T.er.kind, T.er.gl, T.er.bi, T.er.off, ⟨_, hn, fun y q h1 h2 => ?_⟩, fun y hy => ?_, fun y q h1 => ?_, T.er.cinj⟩
    · rw [lookup_upd] at h1
      by_cases hq : y = x
      · rw [if_pos hq] at h1; cases h1
        exact ⟨v, by rw [if_pos hq], mono _ _ V⟩
      · rw [if_neg hq] at h1
        obtain ⟨u, e, U⟩ := hv y q h1 h2
        exact ⟨u, by rw [if_neg hq]; exact e, mono _ _ U⟩
    · obtain ⟨c, vo, h1, h2, h3⟩ := T.er.cell y hy
      refine ⟨c, vo, h1, h2.sameBut hs (O.lcell y c h1), fun q hq => ?_⟩
      rw [lookup_upd] at hq
      by_cases hyx : y = x
      · subst hyx; rw [hk] at hy; rcases hy with hy | hy <;> cases hy
      · rw [if_neg hyx] at hq
        obtain ⟨u, e, U⟩ := h3 q hq
        exact ⟨u, e, mono _ _ U⟩
    · rw [lookup_upd] at h1
      by_cases hq : y = x
      · subst hq; exact .inl hk
      · rw [if_neg hq] at h1; exact T.er.dom y q h1
  · obtain ⟨c, vo, hc, hcell, _⟩ := T.er.cell x (.inl hk)
    refine wpAny_storeName_cell T.er.kind hk hc hcell fun h' hc' hs => ?_
    obtain ⟨R', X, mono⟩ := key c h' (.inr ⟨hk, hc⟩) (T.rel.offCell hcell) (O.cells x c hc) hs (let ⟨o, e, _⟩ := hc'; ⟨o, e⟩)
    obtain ⟨m, hm, hv⟩ := T.er.ns
    refine H h' _ R' X ⟨T.er.kind, T.er.gl, T.er.bi, T.er.off, ⟨m, hm.sameBut hs (Ne.symm (O.lcell x c hc)), fun y q h1 h2 => ?_⟩, fun y hy => ?_, fun y q h1 => ?_, T.er.cinj⟩
    · rw [lookup_upd] at h1
      by_cases hq : y = x
      · subst hq; rw [hk] at h2; cases h2
      · rw [if_neg hq] at h1
        obtain ⟨u, e, U⟩ := hv y q h1 h2
        exact ⟨u, e, mono _ _ U⟩
    · by_cases hyx : y = x
      · subst hyx
        refine ⟨c, some v, hc, hc', fun q hq => ?_⟩
        rw [lookup_upd, if_pos rfl] at hq
        cases hq
        exact ⟨v, rfl, mono _ _ V⟩
      · obtain ⟨c', vo', h1, h2, h3⟩ := T.er.cell y hy
        refine ⟨c', vo', h1, h2.sameBut hs fun q => hyx (T.er.cinj y x c' h1 (q ▸ hc)), fun q hq => ?_⟩
        rw [lookup_upd, if_neg hyx] at hq
        obtain ⟨u, e, U⟩ := h3 q hq
        exact ⟨u, e, mono _ _ U⟩
    · rw [lookup_upd] at h1
      by_cases hq : y = x
      · subst hq; exact .inr (.inl hk)
      · rw [if_neg hq] at h1; exact T.er.dom y q h1

theorem EX.assign {x : Str} {px pos : Pos} {e : Expr} {p : PV} (h1 : EV prog w mg G k env ρ S e p S₁) (hk : env.kindOf x = some .local ∨ env.kindOf x = some .cell) (hs : swapsWith e (some (.Name x px)) pos.line env = pure false) :
    EX prog w mg G k env ρ S (.Assign [.Name x px] e pos) (.next (upd ρ x p) S₁) := Lock.mk fun A σ s T O Q E H => by
  refine wpAny_Assign_Name (h1.run A σ s T _ _ fun v σ₁ h₁ tk₁ R₁ X₁ V₁ => ?_) hs
  exact store (T.ext R₁ X₁) O hk V₁ fun h' tk' R' X' E' => H σ₁ h' tk' R' (ExtX.trans R₁ (T.ext R₁ X₁).er X₁.toX (X'.weaken fun _ q => q.env)) E'
end
set_option tactic.hygienic true
set_option tactic.hygienic false

section
variable {prog : Program} {w : World} {mg : Str → Option Value} {G : Heap} {k : Nat} {env : Env} {ρ ρ₁ ρ₂ : Vars} {S S₁ S₂ S' : List PO}

theorem VRs.nil {σ : Lo} {N : Nat} {h : Heap} : VRs σ N h #[] [] := ⟨rfl, fun i v p e => by simp at e⟩
theorem VRs.cons {σ : Lo} {N : Nat} {h : Heap} {v : Value} {vs : List Value} {p : PV} {ps : List PV} (a : VR σ N h v p) (b : VRs σ N h vs.toArray ps) : VRs σ N h (v :: vs).toArray (p :: ps) := by
  refine ⟨by have := b.1; simp at this ⊢; omega, fun i u q e1 e2 => ?_⟩
  cases i with
  | zero => simp at e1 e2; subst e1; subst e2; exact a
  | succ i => exact b.2 i u q (by simpa using e1) (by simpa using e2)
theorem VRs.uncons {σ : Lo} {N : Nat} {h : Heap} {vs : List Value} {p : PV} {ps : List PV} (b : VRs σ N h vs.toArray (p :: ps)) : ∃ v vs', vs = v :: vs' ∧ VR σ N h v p ∧ VRs σ N h vs'.toArray ps := by
  obtain ⟨h1, h2⟩ := b
  cases vs with
  | nil => simp at h1
  | cons v vs => exact ⟨v, vs, rfl, h2 0 v p (by simp) (by simp), by simpa using h1, fun i u q e1 e2 => h2 (i + 1) u q (by simpa using e1) (by simpa using e2)⟩
theorem VRs.unnil {σ : Lo} {N : Nat} {h : Heap} {vs : List Value} (b : VRs σ N h vs.toArray []) : vs = [] := by
  have := b.1; simpa using this

theorem ELs.nil {pos : Pos} : ELs prog w mg G k env ρ S pos [] [] S := Lock.mk fun A σ s T Q E H =>
  Calls.spliced_nil (H [] σ s.heap s.toks T.rel Ext.refl VRs.nil)
theorem ELs.cons {pos : Pos} {e : Expr} {rest : List Expr} {p : PV} {ps : List PV} (h1 : EV prog w mg G k env ρ S e p S₁) (h2 : ELs prog w mg G k env ρ S₁ pos rest ps S')
    (he : starEach (e :: rest) env = (false, eval e env) :: starEach rest env := by rfl) : ELs prog w mg G k env ρ S pos (e :: rest) (p :: ps) S' := Lock.mk fun A σ s T Q E H => by
  rw [he]
  refine Calls.spliced_cons (h1.run A σ s T _ _ fun v σ₁ h₁ tk₁ R₁ X₁ V₁ => ?_)
  refine h2.run A σ₁ _ (T.ext R₁ X₁) _ _ fun vs σ₂ h₂ tk₂ R₂ X₂ V₂ => ?_
  exact H (v :: vs) σ₂ h₂ tk₂ R₂ (Ext.trans R₁ X₁ X₂) (.cons (V₁.ext R₁ X₂) V₂)

/-- who keeps what a call is made with -/
noncomputable def Kp (G : Heap) (v : Value) : Prop := ∀ (M : Model) (h : Heap), (∀ b o, G.get? b = some o → h.get? b = some o) → ∃ k, (k = Keeper.frame ∨ k = Keeper.machine ∨ k = Keeper.boundFrame) ∧ Looks M h (keeperOf v) k
theorem Kp.builtin {id : String} : Kp G (.builtin id) := fun M h _ => ⟨.machine, .inr (.inl rfl), Looks.of_pure rfl⟩
theorem Kp.type {t : String} : Kp G (.type t) := fun M h _ => ⟨.machine, .inr (.inl rfl), Looks.of_pure rfl⟩
theorem Kp.fn {f : Addr} {o : Obj} {fd : FuncData} (e : G.get? f = some o) (hd : o.data = .func fd) : Kp G (.ref f) := fun M h hk => by
  refine ⟨.frame, .inl rfl, ?_⟩
  unfold keeperOf
  refine (Looks.ld (part := none) (hk _ _ e)).andThen ?_
  rw [hd]; exact .now

theorem callWith_any {A : Around} {E : Value → Shared → Prop} {s : Shared} {pos : Pos} {f : Value} {first : List Value} {e : Expr} {es : List Expr} {Q : Value → Shared → Prop} (hk : Kp G f)
    (h : wpAny (model prog w) A (spliced (backTo pos (starEach (e :: es) env))) (fun vs s₁ => (∀ b o, G.get? b = some o → s₁.heap.get? b = some o) ∧ wpAny (model prog w) A (call f (first ++ vs)) Q E s₁) E s)
    (he : starEach (e :: es) env = (false, eval e env) :: starEach es env) (hp : (backTo pos (starEach es env)).any (·.1) = false) :
    wpAny (model prog w) A (callWith pos f first (backTo pos (starEach (e :: es) env)) []) Q E s := by
  rw [he] at h ⊢
  exact callWith_of (P := fun h => ∀ b o, G.get? b = some o → h.get? b = some o) (by show ((false || (backTo pos (starEach es env)).any (·.1)) || false) = false; rw [hp]; rfl) (fun h hP => hk _ h hP) (evalArgs_plain h)
theorem callWith_nil {A : Around} {E : Value → Shared → Prop} {s : Shared} {pos : Pos} {f : Value} {first : List Value} {Q : Value → Shared → Prop} (hk : Kp G f) (hg : ∀ b o, G.get? b = some o → s.heap.get? b = some o)
    (h : wpAny (model prog w) A (call f (first ++ [])) Q E s) : wpAny (model prog w) A (callWith pos f first (backTo pos (starEach [] env)) []) Q E s :=
  callWith_of (P := fun h => ∀ b o, G.get? b = some o → h.get? b = some o) rfl (fun h hP => hk _ h hP) (evalArgs_nil3 ⟨hg, h⟩)

theorem EV.callN {id : Str} {p pos : Pos} {e : Expr} {es : List Expr} {f : Value} {ps : List PV} {r : PV} (h0 : EV prog w mg G k env ρ S (.Name id p) (.fn f) S) (hk : Kp G f) (h1 : ELs prog w mg G k env ρ S pos (e :: es) ps S₁)
    (h2 : OPL prog w mg G k S₁ ps (fun vs => PySem.call f vs) r S')
    (he : starEach (e :: es) env = (false, eval e env) :: starEach es env := by rfl) (hp : (backTo pos (starEach es env)).any (·.1) = false := by rfl) :
    EV prog w mg G k env ρ S (.Call (.Name id p) (e :: es) [] pos) r S' := Lock.mk fun A σ s T Q E H => by
  refine wpAny_Call_Name_kw (h0.run A σ s T _ _ fun v σ₁ h₁ tk₁ R₁ X₁ V₁ => ?_)
  (first | (obtain ⟨_, rfl⟩ := VR.inv V₁) | (obtain rfl := VR.inv V₁))
  have T₁ := T.ext R₁ X₁
  refine callWith_any hk (h1.run A σ₁ _ T₁ _ _ fun vs σ₂ h₂ tk₂ R₂ X₂ V₂ => ⟨R₂.ground, ?_⟩) he hp
  have T₂ := T₁.ext R₂ X₂
  exact h2.run A σ₂ _ _ T₂.gd T₂.room T₂.stk T₂.rel V₂ _ _ ((H.ofExt (h₁ := h₁) (tk := tk₁) R₁ X₁).ofExt (h₁ := h₂) (tk := tk₂) R₂ X₂)
theorem EV.callN0 {id : Str} {p pos : Pos} {f : Value} {r : PV} (h0 : EV prog w mg G k env ρ S (.Name id p) (.fn f) S) (hk : Kp G f)
    (h2 : OPL prog w mg G k S [] (fun vs => PySem.call f vs) r S') :
    EV prog w mg G k env ρ S (.Call (.Name id p) [] [] pos) r S' := Lock.mk fun A σ s T Q E H => by
  refine wpAny_Call_Name_kw (h0.run A σ s T _ _ fun v σ₁ h₁ tk₁ R₁ X₁ V₁ => ?_)
  (first | (obtain ⟨_, rfl⟩ := VR.inv V₁) | (obtain rfl := VR.inv V₁))
  have T₁ := T.ext R₁ X₁
  refine callWith_nil hk R₁.ground ?_
  exact h2.run A σ₁ _ _ T₁.gd T₁.room T₁.stk T₁.rel VRs.nil _ _ (H.ofExt (h₁ := h₁) (tk := tk₁) R₁ X₁)

/-- a def's frame -/
noncomputable def fenv (fd : FuncData) (f : Addr) (L : Addr) : Env :=
  { scope := fd.scope, locals := L, globals := fd.globals, cells := cellsFrom (L + 1) fd.scope.names [], qual := fd.qualname ++ ".<locals>.", func := some f, code := fd.code, frame := some L, builtins := fd.builtins }

theorem bindL_other (ko : Str → Option NameKind) : ∀ (bs : List (Str × Value)) (m : Str → Option Value) (x : Str), x ∉ bs.map (·.1) → bindL ko bs m x = m x
  | [], _, _, _ => rfl
  | (n, v) :: r, m, x, h => by
    unfold bindL
    rw [bindL_other ko r _ x fun q => h (.tail _ q)]
    split
    · show (if x = n then some v else m x) = m x
      rw [if_neg fun q : x = n => h (by rw [q]; exact .head _)]
    · rfl
theorem bindC_other (ko : Str → Option NameKind) : ∀ (bs : List (Str × Value)) (m : Str → Option Value) (x : Str), x ∉ bs.map (·.1) → bindC ko bs m x = m x
  | [], _, _, _ => rfl
  | (n, v) :: r, m, x, h => by
    unfold bindC
    rw [bindC_other ko r _ x fun q => h (.tail _ q)]
    split
    · rfl
    · show (if x = n then some v else m x) = m x
      rw [if_neg fun q : x = n => h (by rw [q]; exact .head _)]
theorem bind_look (ko : Str → Option NameKind) {σ : Lo} {N : Nat} {h : Heap} : ∀ (xs : List Str) (vs : List Value) (ps : List PV) (m cm : Str → Option Value), xs.Nodup → VRs σ N h vs.toArray ps → ∀ x p, (xs.zip ps).lookup x = some p →
    ∃ v, VR σ N h v p ∧ (ko x = some .local → bindL ko (xs.zip vs) m x = some v) ∧ (ko x ≠ some .local → bindC ko (xs.zip vs) cm x = some v)
  | [], _, _, _, _, _, _, _, _, e => by simp at e
  | _ :: _, _, [], _, _, _, _, _, _, e => by simp at e
  | y :: ys, vs, q :: ps, m, cm, hn, V, x, p, e => by
    obtain ⟨v, vs', rfl, V1, V2⟩ := V.uncons
    rw [List.zip_cons_cons, List.lookup_cons] at e
    by_cases hxy : x = y
    · subst hxy
      simp at e
      subst e
      have hni : x ∉ (ys.zip vs').map (·.1) := fun q => by
        obtain ⟨z, hz, rfl⟩ := List.mem_map.mp q
        exact (List.nodup_cons.mp hn).1 (List.of_mem_zip (a := z.1) (b := z.2) hz).1
      refine ⟨v, V1, fun hl => ?_, fun hl => ?_⟩
      · rw [List.zip_cons_cons]; unfold bindL; rw [bindL_other _ _ _ _ hni, if_pos hl, if_pos rfl]
      · rw [List.zip_cons_cons]; unfold bindC; rw [bindC_other _ _ _ _ hni, if_neg hl, if_pos rfl]
    · have : (x == y) = false := beq_eq_false_iff_ne.mpr hxy
      rw [this] at e
      obtain ⟨u, U, a, b⟩ := bind_look ko ys vs' ps (if ko y = some .local then fun z => if z = y then some v else m z else m) (if ko y = some .local then cm else fun z => if z = y then some v else cm z) (List.nodup_cons.mp hn).2 V2 x p e
      exact ⟨u, U, fun hl => by rw [List.zip_cons_cons]; unfold bindL; exact a hl, fun hl => by rw [List.zip_cons_cons]; unfold bindC; exact b hl⟩

/-- what is asked of a def of the top -/
structure DefAt (G : Heap) (f : Addr) (fd : FuncData) (body : List Stmt) (xs : List Str) : Prop where
  at_ : ∃ o, G.get? f = some o ∧ o.data = .func fd
  code : G.CodeRec fd.code fd.qualname
  body : fd.body = .stmts body
  closure : fd.closure = []
  gl : fd.globals = mainGlobals
  bi : fd.builtins = builtinsNs
  kind : fd.scope.kind = .function
  co : fd.scope.isCoroutine = false
  gen : fd.scope.isGenerator = false
  bind : ∀ vs : List Value, vs.length = xs.length → bindArgs fd ⟨vs, []⟩ = pure (xs.zip vs)
  nodup : xs.Nodup
  binds : ∀ x ∈ xs, fd.scope.names.lookup x = some .local ∨ fd.scope.names.lookup x = some .cell
  names : ∀ x, fd.scope.names.lookup x = some .cell → (x, NameKind.cell) ∈ fd.scope.names
  noFree : ∀ x, fd.scope.names.lookup x ≠ some .free

theorem cells_isSome {x : Str} : ∀ (names : List (Str × NameKind)) (n : Nat) (acc : List (Str × Addr)), ((x, NameKind.cell) ∈ names ∨ (acc.lookup x).isSome = true) → ((cellsFrom n names acc).lookup x).isSome = true
  | [], _, _, h => h.elim (fun e => nomatch e) id
  | (y, kk) :: r, n, acc, h => by
    unfold cellsFrom
    by_cases hk : (kk == NameKind.cell) = true
    · rw [if_pos hk]
      refine cells_isSome r (n + 1) ((y, n) :: acc) ?_
      by_cases hy : (x == y) = true
      · exact .inr (by rw [List.lookup_cons, hy]; rfl)
      · refine h.imp (fun e => ?_) fun e => ?_
        · rcases List.mem_cons.mp e with e | e
          · exfalso; cases e; simp at hy
          · exact e
        · rw [List.lookup_cons]; simpa only [hy] using e
    · rw [if_neg hk]
      refine cells_isSome r n acc (h.imp (fun e => ?_) id)
      rcases List.mem_cons.mp e with e | e
      · exfalso; cases e; simp at hk
      · exact e

theorem enter {f : Addr} {fd : FuncData} {body : List Stmt} {xs : List Str} {ps : List PV} {A : Around} {σ : Lo} {s : Shared} {vs : List Value} {R : Result → Shared → Prop} (D : DefAt G f fd body xs) (hl : xs.length = ps.length)
    (hG : Gd mg G) (hA : Room (k + 1) A) (hS : FrOk G A σ S.length s.heap) (hR : Rel w.params G σ S s.heap) (hV : VRs σ S.length s.heap vs.toArray ps)
    (h : ∀ L h₁ tk₁, Sit w.params mg G (A.deeper (fenv fd f L)) k (fenv fd f L) (xs.zip ps) σ S h₁ → Own G (fenv fd f L) → s.heap.objs.size ≤ L → (∀ a o, s.heap.get? a = some o → h₁.get? a = some o ∧ ¬ envB (fenv fd f L) a) →
      s.heap.objs.size ≤ h₁.objs.size →
      wpAny (model prog w) (A.deeper (fenv fd f L)) (execs body (fenv fd f L)) (fun fl s' => R (.ok (.ret (match fl with | .ret v => v | _ => .none))) s')
        (fun e s' => wpAny (model prog w) (A.deeper (fenv fd f L)) (leaving (fenv fd f L) e) (fun _ s'' => R (.error e) s'') (fun e' s'' => R (.error e') s'') s')
        { s with heap := h₁, toks := tk₁ }) : codeAny (model prog w) A (.call (.ref f) ⟨vs, []⟩) R s := by
  obtain ⟨o, ho, hd⟩ := D.at_
  have hvl : vs.length = xs.length := by have := hV.1; simp at this; omega
  refine codeAny_call_function (by have := hA.depth; omega) (hR.ground _ _ ho) hd D.co D.gen D.body (D.code.keeps hR.ground) ?_
  rw [D.bind vs hvl]
  refine wpAny_pure ?_
  rw [D.closure]
  have hloc : ∀ y ∈ xs.zip vs, fd.scope.names.lookup y.1 = some .local ∨ (fd.scope.names.lookup y.1 = some .cell ∧ ((cellsFrom (s.heap.objs.size + 1) fd.scope.names []).lookup y.1).isSome = true) := fun y hy => by
    have := D.binds y.1 (List.of_mem_zip (a := y.1) (b := y.2) hy).1
    refine this.imp id fun e => ⟨e, cells_isSome _ _ _ (.inl (D.names _ e))⟩
  refine wpAny_newFunctionEnv_cells D.kind hloc fun env' he s' x => ?_
  have he' : env' = fenv fd f s.heap.objs.size := he
  clear he
  subst he'
  obtain ⟨h₁, tk₁, rfl, hk⟩ := x.done
  refine ⟨(hG.nolimit.keeps hR.ground).keeps hk, codeAny_func ?_⟩
  have hns := x.toInCall.ns
  have fresh : ∀ a, s.heap.objs.size ≤ a → G.get? a = none := fun a ha => by
    cases q : G.get? a with
    | none => rfl
    | some o => exact absurd (Heap.lt_size (hR.ground _ _ q)) (Nat.not_lt.mpr ha)
  have above : ∀ y c, (fenv fd f s.heap.objs.size).cells.lookup y = some c → s.heap.objs.size < c := fun y c hc => x.above y c (mem_of_lookup hc)
  have hsz : s.heap.objs.size ≤ h₁.objs.size := Nat.le_of_lt hns.lt
  have hltσ : ∀ i, i < S.length → σ.p i < s.heap.objs.size := fun i hi => by
    obtain ⟨ob, e, _⟩ := (hR.objs i S[i] (by simp [hi])).notTup
    exact Heap.lt_size e
  have mono : ∀ v p, VR σ S.length s.heap v p → VR σ S.length h₁ v p := fun v p V => V.mono (Nat.le_refl _) (fun _ _ => rfl) (fun _ q => q) fun a o e _ => hk a o e
  have R₁ : Rel w.params G σ S h₁ := by
    refine ⟨fun b o e => hk _ _ (hR.ground b o e), fun i o e => ?_, hR.fresh, hR.inj, fun a q => let ⟨o, e⟩ := hR.fb a q; ⟨o, hk _ _ e⟩⟩
    have Q := hR.objs i o e
    cases o with
    | list l =>
      obtain ⟨us, n, h1, h2, h3⟩ := Q
      exact ⟨us, n, hk _ _ h1, h2, fun i v p a b => mono _ _ (h3 i v p a b)⟩
    | dict l ep =>
      obtain ⟨es, n, h1, h2, h3⟩ := Q
      exact ⟨es, n, hk _ _ h1, h2, fun i e kv a b => ⟨⟨mono _ _ (h3 i e kv a b).1.1, mono _ _ (h3 i e kv a b).1.2⟩, (h3 i e kv a b).2⟩⟩
    | blank =>
      obtain ⟨o, h1, h2⟩ := Q
      exact ⟨o, hk _ _ h1, h2⟩
    | bound n id =>
      obtain ⟨v, h1, h2⟩ := Q
      exact ⟨v, hk _ _ h1, mono _ _ h2⟩
    | tab p =>
      obtain ⟨ha, v, h1, h2⟩ := Q
      exact ⟨ha, v, hk _ _ h1, h2⟩
  have own : Own G (fenv fd f s.heap.objs.size) := ⟨fresh _ (Nat.le_refl _), fun y c hc => fresh _ (Nat.le_of_lt (above y c hc)), fun y c hc => Nat.ne_of_gt (above y c hc)⟩
  refine h s.heap.objs.size h₁ tk₁ ⟨hG, ⟨hA.hh, by have := hA.depth; show A.depth + 1 + k + _ < _; omega, by have := hA.units; show A.units + 3 + 8 * k + 80 < _; omega⟩, ?_, R₁, ?_, own⟩ own (Nat.le_refl _)
    (fun a o e => ⟨hk a o e, fun hb => ?_⟩) hsz
  · obtain ⟨l, hl', hf, hoff⟩ := hS
    refine ⟨⟨_, _, Around.frames_deeper hl', D.gen, D.co, D.bi, D.gl⟩, fenv fd f s.heap.objs.size :: l, Around.frames_deeper hl', ⟨by show fd.scope.kind ≠ .module; rw [D.kind]; decide, ?_, hf.of_keeps fun b o e _ => ⟨o, hk b o e, rfl⟩⟩, fun env' he L hL => ?_⟩
    · obtain ⟨o', es, ep, e1, e2, _⟩ := hns
      exact ⟨_, o', rfl, fresh _ (Nat.le_refl _), e1, by simp [e2]⟩
    · rcases List.mem_cons.mp he with rfl | he
      · cases hL
        obtain ⟨o', es, ep, e1, e2, e3, _⟩ := hns
        exact ⟨fun i hi q => Nat.lt_irrefl _ (q ▸ hltσ i hi), o', es, ep, e1, e2, e3⟩
      · obtain ⟨g1, o', es, n, g3, g4⟩ := hoff env' he L hL
        exact ⟨g1, o', es, n, hk _ _ g3, g4⟩
  · refine ⟨D.kind, D.gl, D.bi, fun i hi q => Nat.lt_irrefl _ (q ▸ hltσ i hi), ⟨_, hns, fun y p h1 h2 => ?_⟩, fun y hy => ?_, fun y p h1 => ?_, fun y z c h1 h2 => name_of_addr x.apart (mem_of_lookup h1) (mem_of_lookup h2)⟩
    · obtain ⟨v, V, a, _⟩ := bind_look (fenv fd f s.heap.objs.size).kindOf xs vs ps (fun _ => none) (fun _ => none) D.nodup hV y p h1
      exact ⟨v, a h2, mono _ _ V⟩
    · have hy' : fd.scope.names.lookup y = some .cell := by
        rcases hy with hy | hy
        · exact hy
        · exact absurd hy (D.noFree y)
      have hs := cells_isSome (x := y) fd.scope.names (s.heap.objs.size + 1) [] (.inl (D.names y hy'))
      obtain ⟨c, hc⟩ := Option.isSome_iff_exists.mp hs
      refine ⟨c, _, hc, x.cell y c hc, fun p hp => ?_⟩
      obtain ⟨v, V, _, b⟩ := bind_look (fenv fd f s.heap.objs.size).kindOf xs vs ps (fun _ => none) (fun _ => none) D.nodup hV y p hp
      exact ⟨v, b (by show fd.scope.names.lookup y ≠ _; rw [hy']; decide), mono _ _ V⟩
    · have hm : y ∈ xs := by
        have := mem_of_lookup h1
        exact (List.of_mem_zip (a := y) (b := p) this).1
      exact (D.binds y hm).imp id .inl
  · have hlt := Heap.lt_size e
    rcases hb with rfl | ⟨y, _, hc⟩
    · exact Nat.lt_irrefl _ hlt
    · exact Nat.lt_irrefl _ (Nat.lt_trans hlt (above y a hc))

theorem backExt {env' : Env} {σ σ' : Lo} {N N' : Nat} {h h₁ h' : Heap} (hk : ∀ a o, h.get? a = some o → h₁.get? a = some o ∧ ¬ envB env' a) (X : ExtX env' σ N h₁ σ' N' h') : Ext σ N h σ' N' h' :=
  ⟨X.len, X.same, X.sameF, fun i h1 h2 => by
    cases q : h.get? (σ'.p i) with
    | none => rfl
    | some o => have := X.new i h1 h2; rw [(hk _ _ q).1] at this; (cases this), fun a o e f => X.keep a o (hk a o e).1 f (hk a o e).2⟩

theorem FN.intro {f : Addr} {fd : FuncData} {body : List Stmt} {xs : List Str} {ps : List PV} {r : PV} (D : DefAt G f fd body xs) (hl : xs.length = ps.length)
    (h : ∀ L, EXs prog w mg G k (fenv fd f L) (xs.zip ps) S body (.ret r S')) : OPL prog w mg G (k + 1) S ps (fun vs => PySem.call (.ref f) vs) r S' := by
  refine Lock.mk ?_
  intro A σ s vs hG hA hS hR hV Q E H
  refine wpAny_call (enter D hl hG hA hS.fr hR hV fun L h₁ tk₁ T O hL hk hsz => ?_)
  exact wpAny_mono ((h L).run _ σ _ T O _ (fun _ _ => False) fun v σ' h' tk' R' X' V' => H v σ' h' tk' R' (backExt hk X') V') (fun fl s' q => q) fun _ _ q => q.elim
theorem FN.introN {f : Addr} {fd : FuncData} {body : List Stmt} {xs : List Str} {ps : List PV} (D : DefAt G f fd body xs) (hl : xs.length = ps.length)
    (h : ∀ L, ∃ ρ', EXs prog w mg G k (fenv fd f L) (xs.zip ps) S body (.next ρ' S')) : OPL prog w mg G (k + 1) S ps (fun vs => PySem.call (.ref f) vs) .none S' := by
  refine Lock.mk ?_
  intro A σ s vs hG hA hS hR hV Q E H
  refine wpAny_call (enter D hl hG hA hS.fr hR hV fun L h₁ tk₁ T O hL hk hsz => ?_)
  obtain ⟨ρ', hE⟩ := h L
  exact wpAny_mono (hE.run _ σ _ T O (fun fl s' => Q (match fl with | .ret v => v | _ => .none) s') (fun _ _ => False) fun σ' h' tk' R' X' E' => H .none σ' h' tk' R' (backExt hk X') .none) (fun fl s' q => q) fun _ _ q => q.elim
end
set_option tactic.hygienic true
set_option tactic.hygienic false

noncomputable def Lo.add (σ : Lo) (wr : List Addr) : Lo := ⟨σ.p, fun a => σ.F a ∨ a ∈ wr⟩
noncomputable def Quiet (wr : List Addr) (h h' : Heap) : Prop := ∀ a o, a ∉ wr → h.get? a = some o → h'.get? a = some o
noncomputable def Prv (wr : List Addr) (G : Heap) (σ : Lo) (h : Heap) : Prop := ∀ a ∈ wr, G.get? a = none ∧ σ.F a ∧ ∃ o, h.get? a = some o ∧ o.cls ≠ .type "list" ∧ o.cls ≠ .type "dict" ∧ o.cls ≠ .type "object" ∧ (o.cls ≠ .type "builtin_function_or_method" ∧ o.cls ≠ .none) ∧ (∀ es n, o.data ≠ .dict es n) ∧ (∀ v, o.data ≠ .cell v)

section
variable {P : Params} {mg : Str → Option Value} {G : Heap} {A : Around} {k : Nat} {env : Env} {ρ ρ' : Vars} {σ σ' : Lo} {S S' : List PO} {h h' : Heap} {N' : Nat} {wr : List Addr}
theorem OR.cls {P : Params} {σ : Lo} {N : Nat} {h : Heap} {a : Addr} {o : PO} (H : OR P σ N h a o) : ∃ ob, h.get? a = some ob ∧ (ob.cls = .type "list" ∨ ob.cls = .type "dict" ∨ ob.cls = .type "object" ∨ ob.cls = .type "builtin_function_or_method" ∨ ob.cls = .none) := by
  cases o with
  | list l => obtain ⟨vs, n, ho, _⟩ := H; exact ⟨_, ho, .inl rfl⟩
  | dict l ep => obtain ⟨es, n, ho, _⟩ := H; exact ⟨_, ho, .inr (.inl rfl)⟩
  | blank => obtain ⟨o, ho, hc, _⟩ := H; exact ⟨_, ho, .inr (.inr (.inl hc))⟩
  | bound n id => obtain ⟨v, ho, _⟩ := H; exact ⟨_, ho, .inr (.inr (.inr (.inl rfl)))⟩
  | tab p => obtain ⟨_, v, ho, _⟩ := H; exact ⟨_, ho, .inr (.inr (.inr (.inr rfl)))⟩
theorem Prv.off (p : Prv wr G σ h) (R : Rel P G σ S h) {i : Nat} (hi : i < S.length) : σ.p i ∉ wr := fun hm => by
  obtain ⟨ob, e, hc⟩ := (R.objs i S[i] (by simp [hi])).cls
  obtain ⟨_, _, o, e', c1, c2, c3, c4, _⟩ := p _ hm
  rw [e] at e'; cases e'
  rcases hc with hc | hc | hc | hc | hc
  · exact c1 hc
  · exact c2 hc
  · exact c3 hc
  · exact c4.1 hc
  · exact c4.2 hc
theorem Prv.offB (p : Prv wr G σ h) (H : ER env ρ σ S.length h) {a : Addr} (hb : envB env a) : a ∉ wr := fun hm => by
  obtain ⟨_, _, o, e', _, _, _, _, c5, c6⟩ := p _ hm
  rcases hb with rfl | ⟨x, hk, hc⟩
  · obtain ⟨m, ⟨o', es, ep, ho, hd, _⟩, _⟩ := H.ns
    rw [e'] at ho; cases ho
    exact c5 _ _ hd
  · obtain ⟨c, vo, h1, ⟨o', ho, hd⟩, _⟩ := H.cell x hk
    rw [hc] at h1; cases h1
    rw [e'] at ho; cases ho
    exact c6 _ hd
theorem Rel.keeps (R : Rel P G σ S h) (hk : ∀ a o, h.get? a = some o → h'.get? a = some o) : Rel P G σ S h' := by
  have mono : ∀ v p, VR σ S.length h v p → VR σ S.length h' v p := fun v p V => V.mono (Nat.le_refl _) (fun _ _ => rfl) (fun _ q => q) fun a o e _ => hk a o e
  refine ⟨fun b o e => hk _ _ (R.ground b o e), fun i o e => ?_, R.fresh, R.inj, fun a q => let ⟨o, e⟩ := R.fb a q; ⟨o, hk _ _ e⟩⟩
  have Q := R.objs i o e
  cases o with
  | list l =>
    obtain ⟨us, n, h1, h2, h3⟩ := Q
    exact ⟨us, n, hk _ _ h1, h2, fun i v p a b => mono _ _ (h3 i v p a b)⟩
  | dict l ep =>
    obtain ⟨es, n, h1, h2, h3⟩ := Q
    exact ⟨es, n, hk _ _ h1, h2, fun i e kv a b => ⟨⟨mono _ _ (h3 i e kv a b).1.1, mono _ _ (h3 i e kv a b).1.2⟩, (h3 i e kv a b).2⟩⟩
  | blank =>
    obtain ⟨o, h1, h2⟩ := Q
    exact ⟨o, hk _ _ h1, h2⟩
  | bound n id =>
    obtain ⟨v, h1, h2⟩ := Q
    exact ⟨v, hk _ _ h1, mono _ _ h2⟩
  | tab p =>
    obtain ⟨ha, v, h1, h2⟩ := Q
    exact ⟨ha, v, hk _ _ h1, h2⟩
theorem VR.quiet (p : Prv wr G σ h) (q : Quiet wr h h') {N : Nat} {v : Value} {pv : PV} (V : VR σ N h v pv) : VR σ N h' v pv :=
  V.mono' (Nat.le_refl _) (fun _ _ => rfl) fun a o e _ _ n => ⟨q a o (fun hm => n (p a hm).2.1) e, n⟩
theorem Rel.quiet (R : Rel P G σ S h) (p : Prv wr G σ h) (q : Quiet wr h h') (al : ∀ a ∈ wr, ∃ o, h'.get? a = some o) : Rel P G σ S h' := by
  refine ⟨fun b o e => q b o (fun hm => by rw [(p b hm).1] at e; cases e) (R.ground b o e), fun i o e => ?_, R.fresh, R.inj, fun a ha => ?_⟩
  · have hi : i < S.length := (List.getElem?_eq_some_iff.mp e).1
    have Q := R.objs i o e
    have hn := p.off R hi
    cases o with
    | list l =>
      obtain ⟨us, n, h1, h2, h3⟩ := Q
      exact ⟨us, n, q _ _ hn h1, h2, fun i v p' a b => (h3 i v p' a b).quiet p q⟩
    | dict l ep =>
      obtain ⟨es, n, h1, h2, h3⟩ := Q
      exact ⟨es, n, q _ _ hn h1, h2, fun i e kv a b => ⟨⟨(h3 i e kv a b).1.1.quiet p q, (h3 i e kv a b).1.2.quiet p q⟩, (h3 i e kv a b).2⟩⟩
    | blank =>
      obtain ⟨o, h1, h2⟩ := Q
      exact ⟨o, q _ _ hn h1, h2⟩
    | bound n id =>
      obtain ⟨v, h1, h2⟩ := Q
      exact ⟨v, q _ _ hn h1, h2.quiet p q⟩
    | tab p =>
      obtain ⟨ha, v, h1, h2⟩ := Q
      exact ⟨ha, v, q _ _ hn h1, h2⟩
  · by_cases hm : a ∈ wr
    · exact al a hm
    · obtain ⟨o, e⟩ := R.fb a ha
      exact ⟨o, q a o hm e⟩
theorem ER.quiet (H : ER env ρ σ S.length h) (p : Prv wr G σ h) (q : Quiet wr h h') : ER env ρ σ S.length h' := by
  refine ⟨H.kind, H.gl, H.bi, H.off, ?_, fun x hx => ?_, H.dom, H.cinj⟩
  · obtain ⟨m, ⟨o, es, ep, ho, hr⟩, hv⟩ := H.ns
    exact ⟨m, ⟨o, es, ep, q _ _ (p.offB H (.inl rfl)) ho, hr⟩, fun x pv a b => let ⟨v, c, d⟩ := hv x pv a b; ⟨v, c, d.quiet p q⟩⟩
  · obtain ⟨c, vo, h1, ⟨o, ho, hd⟩, h3⟩ := H.cell x hx
    exact ⟨c, vo, h1, ⟨o, q _ _ (p.offB H (.inr ⟨x, hx, h1⟩)) ho, hd⟩, fun pv hp => let ⟨v, a, b⟩ := h3 pv hp; ⟨v, a, b.quiet p q⟩⟩
theorem Stk.quiet (H : Stk G A σ S.length h) (p : Prv wr G σ h) (q : Quiet wr h h') : Stk G A σ S.length h' := by
  obtain ⟨l, hl, hf, ho⟩ := H.fr
  have hk : ∀ env ∈ l, ∀ L, env.frame = some L → ∀ o, h.get? L = some o → h'.get? L = some o := fun env he L hL o e => by
    obtain ⟨_, o', es, n, h3, h4⟩ := ho env he L hL
    refine q L o (fun hm => ?_) e
    obtain ⟨_, _, o₂, e₂, _, _, _, _, c5, _⟩ := p _ hm
    rw [h3] at e₂; cases e₂
    exact c5 _ _ h4.1
  refine ⟨H.top, l, hl, ?_, fun env he L hL => ?_⟩
  · have : ∀ l' : List Env, (∀ env ∈ l', ∀ L, env.frame = some L → ∀ o, h.get? L = some o → h'.get? L = some o) → h.FunFrames G l' → h'.FunFrames G l' := by
      intro l'
      induction l' with
      | nil => intro _ _; trivial
      | cons e r ih =>
        intro ho ⟨hk, ⟨L, o, h1, h2, h3, h4⟩, hr⟩
        exact ⟨hk, ⟨L, o, h1, h2, ho e (.head _) L h1 o h3, h4⟩, ih (fun env he => ho env (.tail _ he)) hr⟩
    exact this l hk hf
  · obtain ⟨h1, o, es, n, h3, h4⟩ := ho env he L hL
    exact ⟨h1, o, es, n, hk env he L hL o h3, h4⟩
theorem Sit.quiet (T : Sit P mg G A k env ρ σ S h) (p : Prv wr G σ h) (q : Quiet wr h h') (al : ∀ a ∈ wr, ∃ o, h'.get? a = some o) : Sit P mg G A k env ρ σ S h' :=
  ⟨T.gd, T.room, T.stk.quiet p q, T.rel.quiet p q al, T.er.quiet p q, T.own⟩
/-- places taken away from what may be read, and given back -/
theorem Rel.weakF (R : Rel P G σ S h) (hp : ∀ i, σ'.p i = σ.p i) (hF : ∀ a, σ'.F a → σ.F a) : Rel P G σ' S h := by
  have mono : ∀ v p, VR σ S.length h v p → VR σ' S.length h v p := fun v p V => V.mono (Nat.le_refl _) (fun i _ => hp i) hF fun _ _ e _ => e
  refine ⟨R.ground, fun i o e => ?_, fun i hi => by rw [hp]; exact R.fresh i hi, fun i j hi hj e => R.inj i j hi hj (by rw [← hp, ← hp]; exact e), fun a ha => R.fb a (hF a ha)⟩
  have Q := R.objs i o e
  cases o with
  | list l =>
    obtain ⟨us, n, h1, h2, h3⟩ := Q
    exact ⟨us, n, by rw [hp]; exact h1, h2, fun i v p' a b => mono _ _ (h3 i v p' a b)⟩
  | dict l ep =>
    obtain ⟨es, n, h1, h2, h3⟩ := Q
    exact ⟨es, n, by rw [hp]; exact h1, h2, fun i e kv a b => ⟨⟨mono _ _ (h3 i e kv a b).1.1, mono _ _ (h3 i e kv a b).1.2⟩, (h3 i e kv a b).2⟩⟩
  | blank =>
    obtain ⟨o, h1, h2⟩ := Q
    exact ⟨o, by rw [hp]; exact h1, h2⟩
  | bound n id =>
    obtain ⟨v, h1, h2⟩ := Q
    exact ⟨v, by rw [hp]; exact h1, mono _ _ h2⟩
  | tab p =>
    obtain ⟨ha, v, h1, h2⟩ := Q
    exact ⟨by rw [hp]; exact ha, v, by rw [hp]; exact h1, h2⟩
theorem ER.weakF (H : ER env ρ σ S.length h) (hp : ∀ i, σ'.p i = σ.p i) (hF : ∀ a, σ'.F a → σ.F a) : ER env ρ σ' S.length h := by
  have mono : ∀ v p, VR σ S.length h v p → VR σ' S.length h v p := fun v p V => V.mono (Nat.le_refl _) (fun i _ => hp i) hF fun _ _ e _ => e
  refine ⟨H.kind, H.gl, H.bi, fun i hi => by rw [hp]; exact H.off i hi, ?_, fun x hx => ?_, H.dom, H.cinj⟩
  · obtain ⟨m, hm, hv⟩ := H.ns
    exact ⟨m, hm, fun x pv a b => let ⟨v, c, d⟩ := hv x pv a b; ⟨v, c, mono _ _ d⟩⟩
  · obtain ⟨c, vo, h1, h2, h3⟩ := H.cell x hx
    exact ⟨c, vo, h1, h2, fun pv hp => let ⟨v, a, b⟩ := h3 pv hp; ⟨v, a, mono _ _ b⟩⟩
theorem Rel.quietDrop {F : Addr → Prop} (R : Rel P G σ S h) (p : Prv wr G σ h) (q : Quiet wr h h') (hF : ∀ a, F a → σ.F a) (hn : ∀ a, F a → a ∉ wr) : Rel P G ⟨σ.p, F⟩ S h' := by
  have mono : ∀ v pv, VR σ S.length h v pv → VR ⟨σ.p, F⟩ S.length h' v pv := fun v pv V => VR.mono (σ := σ) (σ' := ⟨σ.p, F⟩) (H := V.quiet p q) (Nat.le_refl _) (fun _ _ => rfl) hF fun _ _ e _ => e
  refine ⟨fun b o e => q b o (fun hm => by rw [(p b hm).1] at e; cases e) (R.ground b o e), fun i o e => ?_, R.fresh, R.inj, fun a ha => let ⟨o, e⟩ := R.fb a (hF a ha); ⟨o, q a o (hn a ha) e⟩⟩
  have hi : i < S.length := (List.getElem?_eq_some_iff.mp e).1
  have Q := R.objs i o e
  have hn := p.off R hi
  cases o with
  | list l =>
    obtain ⟨us, n, h1, h2, h3⟩ := Q
    exact ⟨us, n, q _ _ hn h1, h2, fun i v p' a b => mono _ _ (h3 i v p' a b)⟩
  | dict l ep =>
    obtain ⟨es, n, h1, h2, h3⟩ := Q
    exact ⟨es, n, q _ _ hn h1, h2, fun i e kv a b => ⟨⟨mono _ _ (h3 i e kv a b).1.1, mono _ _ (h3 i e kv a b).1.2⟩, (h3 i e kv a b).2⟩⟩
  | blank =>
    obtain ⟨o, h1, h2⟩ := Q
    exact ⟨o, q _ _ hn h1, h2⟩
  | bound n id =>
    obtain ⟨v, h1, h2⟩ := Q
    exact ⟨v, q _ _ hn h1, mono _ _ h2⟩
  | tab p =>
    obtain ⟨ha, v, h1, h2⟩ := Q
    exact ⟨ha, v, q _ _ hn h1, h2⟩
/-- new places that hold no value yet -/
theorem VR.addF {N : Nat} {wr : List Addr} (hw : ∀ a ∈ wr, h.get? a = Option.none) (hk : ∀ a o, h.get? a = some o → h'.get? a = some o) {v : Value} {p : PV} (V : VR σ N h v p) : VR (σ.add wr) N h' v p :=
  V.mono' (σ := σ) (σ' := σ.add wr) (Nat.le_refl _) (fun _ _ => rfl) fun a o e _ _ n => ⟨hk a o e, fun (q : σ.F a ∨ a ∈ wr) => q.elim n fun hm => by rw [hw a hm] at e; cases e⟩
theorem VR.extAdd (R : Rel P G σ S h) (X : Ext σ S.length h σ' N' h') {wr : List Addr} (hw : ∀ a ∈ wr, h.get? a = Option.none) {v : Value} {p : PV} (V : VR σ S.length h v p) : VR (σ'.add wr) N' h' v p :=
  V.mono' (σ' := σ'.add wr) X.len X.same fun a o e c hd n => ⟨X.tup R e c hd, fun (q : σ'.F a ∨ a ∈ wr) => q.elim (fun f => n ((X.sameF a).mp f)) fun hm => by rw [hw a hm] at e; cases e⟩
theorem ER.extAdd (R : Rel P G σ S h) (X : Ext σ S.length h σ' N' h') {wr : List Addr} (hw : ∀ a ∈ wr, h.get? a = Option.none) (H : ER env ρ σ S.length h) : ER env ρ (σ'.add wr) N' h' := by
  refine ⟨H.kind, H.gl, H.bi, fun i hi => ?_, ?_, fun x hx => ?_, H.dom, H.cinj⟩
  · by_cases hq : i < S.length
    · show env.locals ≠ σ'.p i
      rw [X.same i hq]; exact H.off i hq
    · exact H.newOff X i (Nat.le_of_not_lt hq) hi
  · obtain ⟨m, hm, hv⟩ := H.ns
    exact ⟨m, Heap.Ns.keepO hm fun o e => X.keep _ o e H.off, fun x p h1 h2 => let ⟨v, a, b⟩ := hv x p h1 h2; ⟨v, a, b.extAdd R X hw⟩⟩
  · obtain ⟨c, vo, h1, h2, h3⟩ := H.cell x hx
    exact ⟨c, vo, h1, IsCell.keepO h2 fun o e => X.keep _ o e (R.offCell h2), fun p hp => let ⟨v, a, b⟩ := h3 p hp; ⟨v, a, b.extAdd R X hw⟩⟩
theorem Rel.addF (R : Rel P G σ S h) {wr : List Addr} (hw : ∀ a ∈ wr, h.get? a = none) (hk : ∀ a o, h.get? a = some o → h'.get? a = some o) (al : ∀ a ∈ wr, ∃ o, h'.get? a = some o) : Rel P G (σ.add wr) S h' := by
  refine ⟨fun b o e => hk _ _ (R.ground b o e), fun i o e => ?_, R.fresh, R.inj, fun a ha => ha.elim (fun q => let ⟨o, e⟩ := R.fb a q; ⟨o, hk _ _ e⟩) (al a)⟩
  have Q := R.objs i o e
  cases o with
  | list l =>
    obtain ⟨us, n, h1, h2, h3⟩ := Q
    exact ⟨us, n, hk _ _ h1, h2, fun i v p' a b => (h3 i v p' a b).addF hw hk⟩
  | dict l ep =>
    obtain ⟨es, n, h1, h2, h3⟩ := Q
    exact ⟨es, n, hk _ _ h1, h2, fun i e kv a b => ⟨⟨(h3 i e kv a b).1.1.addF hw hk, (h3 i e kv a b).1.2.addF hw hk⟩, (h3 i e kv a b).2⟩⟩
  | blank =>
    obtain ⟨o, h1, h2⟩ := Q
    exact ⟨o, hk _ _ h1, h2⟩
  | bound n id =>
    obtain ⟨v, h1, h2⟩ := Q
    exact ⟨v, hk _ _ h1, h2.addF hw hk⟩
  | tab p =>
    obtain ⟨ha, v, h1, h2⟩ := Q
    exact ⟨ha, v, hk _ _ h1, h2⟩
end

/-- where a loop's items come from -/
structure Src (prog : Program) (w : World) (G : Heap) (A : Around) (wr : List Addr) (it : Value) (tgt : Expr) (ps : List PV) (need : List PO → Prop) (J : Lo → Heap → Nat → Prop) : Prop where
  next : ∀ (σ : Lo) S (s : Shared) i p, Rel w.params G σ S s.heap → need S → J σ s.heap i → ps[i]? = some p → ∀ (K : Value → Shared → Prop) (E : Value → Shared → Prop),
    (∀ v h' tk', VR σ S.length h' v p → Quiet wr s.heap h' → (∀ a ∈ wr, ∃ o, h'.get? a = some o) → J σ h' (i + 1) → K v { s with heap := h', toks := tk' }) →
    wpAny (model prog w) A (pyNext it) (fun r s₁ => ∃ v, r = some v ∧ wpAny (model prog w) A (letOwnedTupleGo tgt it v) (fun _ s₂ => K v s₂) E s₁) E s
  stop : ∀ (σ : Lo) S (s : Shared), Rel w.params G σ S s.heap → need S → J σ s.heap ps.length → ∀ (K : Shared → Prop) (E : Value → Shared → Prop),
    (∀ h' tk', Quiet wr s.heap h' → K { s with heap := h', toks := tk' }) → wpAny (model prog w) A (pyNext it) (fun r s₁ => r = none ∧ K s₁) E s
  keep : ∀ (σ : Lo) S (σ' : Lo) h h' i, Rel w.params G σ S h → need S → (∀ i, i < S.length → σ'.p i = σ.p i) → (∀ a, σ.F a → σ'.F a) → (∀ a o, (∀ i, i < S.length → a ≠ σ.p i) → a ∈ wr → h.get? a = some o → KeepO h' a o) → J σ h i → J σ' h' i
  self : ∀ (σ : Lo) S (s : Shared) i, Rel w.params G σ S s.heap → J σ s.heap i → ∀ (Q : Value → Shared → Prop) (E : Value → Shared → Prop), Q it s → wpAny (model prog w) A (pyIter it) Q E s
  prv : ∀ (σ : Lo) S h i, Rel w.params G σ S h → J σ h i → Prv wr G σ h

section
variable (prog : Program) (w : World) (mg : Str → Option Value) (G : Heap)
noncomputable def ITR (k : Nat) (env : Env) (ρ : Vars) (S : List PO) (iter tgt : Expr) (ps : List PV) (need : List PO → Prop) (S₁ : List PO) : Prop :=
  Lock (∀ A σ s, Sit w.params mg G A k env ρ σ S s.heap → ∀ Q E,
    (∀ it wr J σ' h' tk', Src prog w G A wr it tgt ps need J → (∀ a ∈ wr, s.heap.get? a = none) → J (σ'.add wr) h' 0 → need S₁ → Rel w.params G (σ'.add wr) S₁ h' → Ext σ S.length s.heap σ' S₁.length h' →
      Q it { s with heap := h', toks := tk' }) → wpAny (model prog w) A (eval iter env) (fun x s₁ => wpAny (model prog w) A (pyIter x) Q E s₁) E s)
noncomputable def tgNames : Expr → List Str
  | .Name x _ => [x]
  | .Tuple ts _ _ => ts.filterMap fun t => match t with | .Name x _ => some x | _ => Option.none
  | _ => []
noncomputable def tgB (env : Env) (tgt : Expr) (a : Addr) : Prop := ∃ x ∈ tgNames tgt, stB env x a
theorem tgB.env {env : Env} {tgt : Expr} {a : Addr} (h : tgB env tgt a) : envB env a := let ⟨_, _, q⟩ := h; q.env
noncomputable def ASG (k : Nat) (env : Env) (tgt : Expr) (p : PV) (ρ ρ' : Vars) (S : List PO) : Prop :=
  Lock (∀ A σ s v, Sit w.params mg G A k env ρ σ S s.heap → Own G env → VR σ S.length s.heap v p → ∀ Q E,
    (∀ h' tk', Rel w.params G σ S h' → ExtP (tgB env tgt) σ S.length s.heap σ S.length h' → ER env ρ' σ S.length h' → Q () { s with heap := h', toks := tk' }) → wpAny (model prog w) A (assign tgt env v) Q E s)
end

inductive LoopR (step : PV → Vars → List PO → Out → Prop) (need : List PO → Prop) : List PV → Vars → List PO → Out → Prop where
  | nil {ρ : Vars} {S : List PO} : LoopR step need [] ρ S (.next ρ S)
  | next {p : PV} {ps : List PV} {ρ ρ' : Vars} {S S' : List PO} {o : Out} (h : step p ρ S (.next ρ' S')) (n : need S') (r : LoopR step need ps ρ' S' o) : LoopR step need (p :: ps) ρ S o
  | cont {p : PV} {ps : List PV} {ρ ρ' : Vars} {S S' : List PO} {o : Out} (h : step p ρ S (.cont ρ' S')) (n : need S') (r : LoopR step need ps ρ' S' o) : LoopR step need (p :: ps) ρ S o
  | brk {p : PV} {ps : List PV} {ρ ρ' : Vars} {S S' : List PO} (h : step p ρ S (.brk ρ' S')) : LoopR step need (p :: ps) ρ S (.next ρ' S')
  | ret {p r : PV} {ps : List PV} {ρ : Vars} {S S' : List PO} (h : step p ρ S (.ret r S')) : LoopR step need (p :: ps) ρ S (.ret r S')

section
variable {prog : Program} {w : World} {mg : Str → Option Value} {G : Heap} {k : Nat} {env : Env} {ρ ρ₁ ρ₂ : Vars} {S S₁ S₂ S' : List PO}

theorem codeAny_for1 {A : Around} {target : Expr} {it : Value} {body : List Stmt} {R : Result → Shared → Prop} {s : Shared} (turn : wpAny (model prog w) A (pyNext it) (fun r s₁ => match r with
      | none => R (.ok .next) s₁
      | some v => wpAny (model prog w) A (letOwnedTupleGo target it v) (fun _ s₁' => wpAny (model prog w) A (assign target env v) (fun _ s₂ => wpAny (model prog w) A (execs body env) (fun f s₃ => match f with
          | .next | .cont => codeAny (model prog w) A (.forLoop target it body [] env) R s₃
          | .brk => R (.ok .next) s₃
          | .ret v => R (.ok (.ret v)) s₃) (fun _ _ => False) s₂) (fun _ _ => False) s₁') (fun _ _ => False) s₁) (fun _ _ => False) s) : codeAny (model prog w) A (.forLoop target it body [] env) R s := by
  refine codeAny_of_tree ?_
  show wpAny _ _ ((forTurn target it body [] env).onRaise (fun x => do noteFrame x env; theTreesLotGoes x)) _ _ s
  refine wpAny_noted (wpAny_mono (E := fun _ _ => False) ?_ (fun _ _ q => q) fun _ _ q => q.elim)
  simp only [forTurn]
  refine wpAny_bind (wpAny_standAt (wpAny_bind (wpAny_onRaise (wpAny_mono turn (fun r s₁ h₁ => ?_) fun _ _ q => q.elim))))
  cases r with
  | none => exact wpAny_pure ⟨rfl, codeAny_block (wpAny_execs_nil h₁)⟩
  | some v =>
    refine wpAny_bind (wpAny_mono h₁ (fun _ s₁' h₁' => wpAny_bind (wpAny_mono h₁' (fun _ s₂ h₂ => wpAny_bind (wpAny_mono h₂ (fun f s₃ h₃ => ?_) fun _ _ q => q)) fun _ _ q => q)) fun _ _ q => q)
    cases f with
    | next => exact wpAny_pure ⟨rfl, h₃⟩
    | cont => exact wpAny_pure ⟨rfl, h₃⟩
    | brk => exact wpAny_pure h₃
    | ret v => exact wpAny_pure h₃

noncomputable def ForStep (prog : Program) (w : World) (mg : Str → Option Value) (G : Heap) (k : Nat) (env : Env) (tgt : Expr) (body : List Stmt) (p : PV) (ρ : Vars) (S : List PO) (o : Out) : Prop :=
  ∃ ρ₁, ASG prog w mg G k env tgt p ρ ρ₁ S ∧ EXs prog w mg G k env ρ₁ S body o

theorem ExtP.refF {B : Addr → Prop} {σ σ' : Lo} {N N' : Nat} {h h' : Heap} (X : ExtP B σ N h σ' N' h') (F : Addr → Prop) : ExtP B ⟨σ.p, F⟩ N h ⟨σ'.p, F⟩ N' h' := ⟨X.len, X.same, fun _ => Iff.rfl, X.new, X.keep⟩
theorem ExtP.quiet {B : Addr → Prop} {σ σ' : Lo} {N N' : Nat} {h h' h'' : Heap} {wr : List Addr} (X : ExtP B σ N h σ' N' h') (hw : ∀ a ∈ wr, h.get? a = none) (q : Quiet wr h' h'') : ExtP B σ N h σ' N' h'' :=
  ⟨X.len, X.same, X.sameF, X.new, fun a o e f g => (X.keep a o e f g).trans fun o' e' => KeepO.refl (q a o' (fun hm => by rw [hw a hm] at e; cases e) e')⟩

theorem for_loop {A : Around} {wr : List Addr} {it : Value} {tgt : Expr} {ps : List PV} {need : List PO → Prop} {J : Lo → Heap → Nat → Prop} {body : List Stmt} (C : Src prog w G A wr it tgt ps need J) (O : Own G env) {o : Out} {h₀ : Heap} {σ₀ : Lo} {N₀ : Nat}
    {R : Result → Shared → Prop} {s₀ : Shared} (hwr : ∀ a ∈ wr, h₀.get? a = none) (hFw : ∀ a, σ₀.F a → a ∉ wr)
    (fin : match o with
      | .next ρ' S' => ∀ (σ' : Lo) (h' : Heap) (tk' : Nat), Rel w.params G ⟨σ'.p, σ₀.F⟩ S' h' → ExtX env σ₀ N₀ h₀ ⟨σ'.p, σ₀.F⟩ S'.length h' → ER env ρ' ⟨σ'.p, σ₀.F⟩ S'.length h' → R (.ok .next) { s₀ with heap := h', toks := tk' }
      | .ret p S' => ∀ (v : Value) (σ' : Lo) (h' : Heap) (tk' : Nat), Rel w.params G ⟨σ'.p, σ₀.F⟩ S' h' → ExtX env σ₀ N₀ h₀ ⟨σ'.p, σ₀.F⟩ S'.length h' → VR ⟨σ'.p, σ₀.F⟩ S'.length h' v p → R (.ok (.ret v)) { s₀ with heap := h', toks := tk' }
      | _ => True) :
    ∀ (n : Nat) (i : Nat) (ρ : Vars) (S : List PO) (σ : Lo) (h : Heap) (tk : Nat), ps.length = i + n → LoopR (ForStep prog w mg G k env tgt body) need (ps.drop i) ρ S o → need S → J σ h i → Sit w.params mg G A k env ρ σ S h →
      (∀ a, σ₀.F a → σ.F a) → ExtX env σ₀ N₀ h₀ ⟨σ.p, σ₀.F⟩ S.length h → codeAny (model prog w) A (.forLoop tgt it body [] env) R { s₀ with heap := h, toks := tk } := by
  intro n
  induction n with
  | zero =>
    intro i ρ S σ h tk hn L hS hJ T hF0 X
    have hd : ps.drop i = [] := List.drop_eq_nil_of_le (by omega)
    rw [hd] at L
    cases L
    have hi : i = ps.length := by omega
    subst hi
    refine codeAny_for1 (wpAny_mono (C.stop σ S { s₀ with heap := h, toks := tk } T.rel hS hJ (fun s₁ => R (.ok .next) s₁) (fun _ _ => False) fun h' tk' q => ?_) (fun r s₁ hr => by rw [hr.1]; exact hr.2) fun _ _ q => q)
    have pv := C.prv σ S _ _ T.rel hJ
    exact fin σ h' tk' (T.rel.quietDrop pv q hF0 hFw) (X.quiet hwr q) ((T.er.quiet pv q).weakF (fun _ => rfl) hF0)
  | succ n ih =>
    intro i ρ S σ h tk hn L hS hJ T hF0 X
    have hlt : i < ps.length := by omega
    have hd : ps.drop i = ps[i] :: ps.drop (i + 1) := List.drop_eq_getElem_cons hlt
    rw [hd] at L
    refine codeAny_for1 (wpAny_mono (C.next σ S { s₀ with heap := h, toks := tk } i ps[i] T.rel hS hJ (by simp [hlt]) (fun v s₂ => wpAny (model prog w) A (assign tgt env v) (fun _ s₂ => wpAny (model prog w) A (execs body env) (fun f s₃ => match f with
          | .next | .cont => codeAny (model prog w) A (.forLoop tgt it body [] env) R s₃
          | .brk => R (.ok .next) s₃
          | .ret v => R (.ok (.ret v)) s₃) (fun _ _ => False) s₂) (fun _ _ => False) s₂) (fun _ _ => False) fun v h₁ tk₁ V q al hJ₁ => ?_) (fun r s₁ hr => ?_) fun _ _ q => q)
    · have T₁ := T.quiet (C.prv σ S _ _ T.rel hJ) q al
      have X₁ := X.quiet hwr q
      have pv₁ := C.prv σ S _ _ T₁.rel hJ₁
      have R₁' : Rel w.params G ⟨σ.p, σ₀.F⟩ S h₁ := T₁.rel.weakF (fun _ => rfl) hF0
      have E₁' : ER env ρ ⟨σ.p, σ₀.F⟩ S.length h₁ := T₁.er.weakF (fun _ => rfl) hF0
      have main : ∀ o', ForStep prog w mg G k env tgt body ps[i] ρ S o' → ∀ (Q : Flow → Shared → Prop), (match o' with
          | .next ρ' S' => ∀ (σ' : Lo) (h' : Heap) (tk' : Nat), Sit w.params mg G A k env ρ' σ' S' h' → (need S' → J σ' h' (i + 1)) → (∀ a, σ₀.F a → σ'.F a) → ExtX env σ₀ N₀ h₀ ⟨σ'.p, σ₀.F⟩ S'.length h' → Q .next { s₀ with heap := h', toks := tk' }
          | .cont ρ' S' => ∀ (σ' : Lo) (h' : Heap) (tk' : Nat), Sit w.params mg G A k env ρ' σ' S' h' → (need S' → J σ' h' (i + 1)) → (∀ a, σ₀.F a → σ'.F a) → ExtX env σ₀ N₀ h₀ ⟨σ'.p, σ₀.F⟩ S'.length h' → Q .cont { s₀ with heap := h', toks := tk' }
          | .brk ρ' S' => ∀ (σ' : Lo) (h' : Heap) (tk' : Nat), Sit w.params mg G A k env ρ' σ' S' h' → (∀ a, σ₀.F a → σ'.F a) → ExtX env σ₀ N₀ h₀ ⟨σ'.p, σ₀.F⟩ S'.length h' → Q .brk { s₀ with heap := h', toks := tk' }
          | .ret p S' => ∀ (v : Value) (σ' : Lo) (h' : Heap) (tk' : Nat), Rel w.params G σ' S' h' → VR σ' S'.length h' v p → (∀ a, σ₀.F a → σ'.F a) → ExtX env σ₀ N₀ h₀ ⟨σ'.p, σ₀.F⟩ S'.length h' → Q (.ret v) { s₀ with heap := h', toks := tk' }) →
          wpAny (model prog w) A (assign tgt env v) (fun _ s₂ => wpAny (model prog w) A (execs body env) Q (fun _ _ => False) s₂) (fun _ _ => False) { s₀ with heap := h₁, toks := tk₁ } := by
        rintro o' ⟨ρ₁, ha, hb⟩ Q HQ
        refine ha.run A σ _ v T₁ O V _ _ fun h₂ tk₂ R₂ X₂' E₂ => ?_
        have X₂ : ExtX env σ S.length h₁ σ S.length h₂ := X₂'.weaken fun _ q => q.env
        have T₂ : Sit w.params mg G A k env ρ₁ σ S h₂ := T₁.extX R₂ X₂ E₂
        have X02 := ExtX.trans R₁' E₁' X₁ (X₂.refF σ₀.F)
        have R₂' : Rel w.params G ⟨σ.p, σ₀.F⟩ S h₂ := R₂.weakF (fun _ => rfl) hF0
        have E₂' : ER env ρ₁ ⟨σ.p, σ₀.F⟩ S.length h₂ := E₂.weakF (fun _ => rfl) hF0
        have keepJ : ∀ (σ' : Lo) (h' : Heap) (N' : Nat), ExtX env σ S.length h₂ σ' N' h' → J σ' h' (i + 1) := fun σ' h' N' X' =>
          C.keep σ S σ' h₁ h' (i + 1) T₁.rel hS X'.same (fun a fa => (X'.sameF a).mpr fa) (fun a o f ha e => by
            have nb : ¬ envB env a := fun hb => pv₁.offB T₁.er hb ha
            exact (X₂.keep a o e f nb).trans fun o' e' => X'.keep a o' e' f nb) hJ₁
        refine hb.run A σ _ T₂ O Q _ ?_
        cases o' with
        | next ρ' S' => exact fun σ' h' tk' R' X' E' => HQ σ' h' tk' (T₂.extX R' X' E') (fun _ => keepJ σ' h' _ X') (fun a fa => (X'.sameF a).mpr (hF0 a fa)) (ExtX.trans R₂' E₂' X02 (X'.refF σ₀.F))
        | cont ρ' S' => exact fun σ' h' tk' R' X' E' => HQ σ' h' tk' (T₂.extX R' X' E') (fun _ => keepJ σ' h' _ X') (fun a fa => (X'.sameF a).mpr (hF0 a fa)) (ExtX.trans R₂' E₂' X02 (X'.refF σ₀.F))
        | brk ρ' S' => exact fun σ' h' tk' R' X' E' => HQ σ' h' tk' (T₂.extX R' X' E') (fun a fa => (X'.sameF a).mpr (hF0 a fa)) (ExtX.trans R₂' E₂' X02 (X'.refF σ₀.F))
        | ret p S' => exact fun v σ' h' tk' R' X' V' => HQ v σ' h' tk' R' V' (fun a fa => (X'.sameF a).mpr (hF0 a fa)) (ExtX.trans R₂' E₂' X02 (X'.refF σ₀.F))
      have goOn : ∀ ρ' S', need S' → LoopR (ForStep prog w mg G k env tgt body) need (ps.drop (i + 1)) ρ' S' o → ∀ (σ' : Lo) (h' : Heap) (tk' : Nat), Sit w.params mg G A k env ρ' σ' S' h' → (need S' → J σ' h' (i + 1)) → (∀ a, σ₀.F a → σ'.F a) → ExtX env σ₀ N₀ h₀ ⟨σ'.p, σ₀.F⟩ S'.length h' →
          codeAny (model prog w) A (.forLoop tgt it body [] env) R { s₀ with heap := h', toks := tk' } := fun ρ' S' n' L' σ' h' tk' T' j' f' x' => ih (i + 1) ρ' S' σ' h' tk' (by omega) L' n' (j' n') T' f' x'
      cases L with
      | next hs n' r => exact main _ hs _ fun σ' h' tk' T' j' f' x' => goOn _ _ n' r σ' h' tk' T' j' f' x'
      | cont hs n' r => exact main _ hs _ fun σ' h' tk' T' j' f' x' => goOn _ _ n' r σ' h' tk' T' j' f' x'
      | brk hs => exact main _ hs _ fun σ' h' tk' T' f' x' => fin σ' h' tk' (T'.rel.weakF (fun _ => rfl) f') x' (T'.er.weakF (fun _ => rfl) f')
      | ret hs => exact main _ hs _ fun v σ' h' tk' R' V' f' x' => fin v σ' h' tk' (R'.weakF (fun _ => rfl) f') x' (V'.mono (σ := σ') (σ' := ⟨σ'.p, σ₀.F⟩) (Nat.le_refl _) (fun _ _ => rfl) f' fun _ _ e _ => e)
    · obtain ⟨v, rfl, hv⟩ := hr
      exact hv

theorem EX.for_ {tgt iter : Expr} {body : List Stmt} {pos : Pos} {ps : List PV} {need : List PO → Prop} {o : Out} (hi : ITR prog w mg G k env ρ S iter tgt ps need S₁) (L : LoopR (ForStep prog w mg G k env tgt body) need ps ρ S₁ o)
    (hs : ∀ x, foldedSetIterable iter env x = pure x) (ho : (∃ ρ' S', o = .next ρ' S') ∨ ∃ p S', o = .ret p S') : EX prog w mg G k env ρ S (.For tgt iter body [] pos) o := Lock.mk fun A σ s T O Q E H => by
  refine wpAny_For (hi.run A σ s T _ _ fun it wr J σ' h' tk' C hwr hJ hS R' X' => ?_) hs
  have R'' : Rel w.params G σ' S₁ h' := R'.weakF (fun _ => rfl) (fun a q => .inl q)
  have T' : Sit w.params mg G A k env ρ σ' S₁ h' := T.ext R'' X'
  have pv := C.prv _ _ _ _ R' hJ
  have wn : ∀ a ∈ wr, h'.get? a ≠ none := fun a ha q => by obtain ⟨_, _, o, e, _⟩ := pv a ha; rw [q] at e; cases e
  have key := for_loop (k := k) (R := fun r s' => match r with | .ok f => Q f s' | .error e => cameBackBy (model prog w) A env E e s') (s₀ := s) C O (o := o) (h₀ := s.heap) (σ₀ := σ) (N₀ := S.length) hwr (fun a fa hm => by obtain ⟨o, e⟩ := T.rel.fb a fa; rw [hwr a hm] at e; cases e) (by
    rcases ho with ⟨ρ', S', rfl⟩ | ⟨p, S', rfl⟩
    · exact fun σ₂ h₂ tk₂ R₂ X₂ E₂ => H _ h₂ tk₂ R₂ X₂ E₂
    · exact fun v σ₂ h₂ tk₂ R₂ X₂ V₂ => H v _ h₂ tk₂ R₂ X₂ V₂) ps.length 0 ρ S₁ (σ'.add wr) h' tk' (by omega) (by simpa using L) hS hJ ?_ (fun a fa => .inl ((X'.sameF a).mpr fa)) ?_
  · exact key
  · refine ⟨T.gd, T.room, ?_, R', ?_, T.own⟩
    · exact ⟨T'.stk.top, let ⟨l, a, b, c⟩ := T'.stk.fr; ⟨l, a, b, c⟩⟩
    · exact T.er.extAdd T.rel X' hwr
  · exact ⟨X'.len, X'.same, fun _ => Iff.rfl, X'.new, fun a o e f _ => X'.keep a o e f⟩
end
set_option tactic.hygienic true

section
variable {prog : Program} {w : World} {mg : Str → Option Value} {G : Heap} {k : Nat} {env : Env} {ρ ρ₁ ρ₂ : Vars} {S S₁ S₂ S' : List PO}

/-- no owned tuple: a list's iterator, a range's -/
theorem letGo_plain {A : Around} {E : Value → Shared → Prop} {s : Shared} {tgt : Expr} {I : Addr} {o : Obj} {T : String} {v : Value} {Q : Unit → Shared → Prop} (ho : s.heap.get? I = some o) (hc : o.cls = .type T)
    (hT : (["enumerate", "zip", "dict_itemiterator", "dict_reverseitemiterator", "odict_iterator", "itertools.zip_longest", "itertools.pairwise"] : List String).contains T = false) (h : Q () s) :
    wpAny (model prog w) A (letOwnedTupleGo tgt (.ref I) v) Q E s := by
  have main : wpAny (model prog w) A (do
      let (.ref r, .ref a) := ((.ref I : Value), v) | return
      let o ← load r
      match o.cls, o.data with
      | .type n, .fields vs =>
        if ["enumerate", "zip", "dict_itemiterator", "dict_reverseitemiterator", "odict_iterator", "itertools.zip_longest", "itertools.pairwise"].contains n && vs[0]? == some (rawInt a) then
          rule "for.unpacks-the-owned-tuple"
          updateField r 0 .none
      | _, _ => pure () : Sem Unit) Q E s := by
    cases v with
    | ref a =>
      refine wpAny_bind (wpAny_load ho ?_)
      rw [hc]
      cases o.data with
      | fields vs =>
        dsimp only
        rw [hT]
        exact wpAny_pure h
      | _ => exact wpAny_pure h
    | _ => exact wpAny_pure h
  cases tgt <;> first | exact main | exact wpAny_pure h

theorem src_list {A : Around} {I : Addr} {n : Nat} {tgt : Expr} {ps : List PV} (hh : A.handled = none) : Src prog w G A [I] (.ref I) tgt ps (fun S => S[n]? = some (.list ps))
    (fun σ h i => h.IsListIter I (σ.p n) i ∧ G.get? I = none ∧ σ.F I) where
  next := fun σ S s i p R hS hJ hp K E H => by
    obtain ⟨hit, hg, hF⟩ := hJ
    obtain ⟨vs, m, ho, hv⟩ := R.objs n _ hS
    have hi : i < ps.length := (List.getElem?_eq_some_iff.mp hp).1
    have hlt : i < vs.size := by rw [hv.1]; exact hi
    have hl : s.heap.IsList (σ.p n) vs := ⟨_, ho, rfl, m, rfl⟩
    have pv : Prv [I] G σ s.heap := fun a ha => by
      obtain rfl := List.mem_singleton.mp ha
      obtain ⟨o, e, c, d⟩ := hit
      exact ⟨hg, hF, o, e, by simp [c], by simp [c], by simp [c], by simp [c], by simp [d], by simp [d]⟩
    refine wpAny_pyNext_list_item hit hl (x := vs[i]) (by simp [hlt]) fun h' hit' hs => ?_
    have q : Quiet [I] s.heap h' := fun a o hn e => hs.extBut a o (fun h => hn (by simp [h])) e
    have V : VR σ S.length h' vs[i] p := (hv.2 i vs[i] p (by simp [hlt]) hp).quiet pv q
    have al : ∀ a ∈ [I], ∃ o, h'.get? a = some o := fun a ha => by
      obtain rfl := List.mem_singleton.mp ha
      obtain ⟨o, e, _⟩ := hit'
      exact ⟨o, e⟩
    refine ⟨_, rfl, ?_⟩
    obtain ⟨o, e, c, d⟩ := id hit'
    exact letGo_plain e c (by decide) (H _ h' s.toks V q al ⟨hit', hg, hF⟩)
  stop := fun σ S s R hS hJ K E H => by
    obtain ⟨hit, hg, hF⟩ := hJ
    obtain ⟨vs, m, ho, hv⟩ := R.objs n _ hS
    have hl : s.heap.IsList (σ.p n) vs := ⟨_, ho, rfl, m, rfl⟩
    refine wpAny_pyNext_list_end hh hit hl (by rw [← hv.1]; simp) fun h' he => ⟨rfl, H h' s.toks fun a o hn e => he a o (fun h => hn (by simp [h])) e⟩
  keep := fun σ S σ' h h' i R hS hs hF' hk hJ => by
    obtain ⟨⟨o, e, c, d⟩, hg, hF⟩ := hJ
    have hn : n < S.length := (List.getElem?_eq_some_iff.mp hS).1
    refine ⟨⟨o, (hk I o (fun j hj q => ?_) (by simp) e).same (by rw [d]; simp), c, by rw [hs n hn]; exact d⟩, hg, hF' _ hF⟩
    obtain ⟨ob, e', hc⟩ := (R.objs j S[j] (by simp [hj])).cls
    rw [← q, e] at e'; cases e'
    rw [c] at hc
    rcases hc with hc | hc | hc | hc | hc <;> simp at hc
  self := fun σ S s i R hJ Q E H => wpAny_pyIter_listiter hJ.1 H
  prv := fun σ S h i R hJ a ha => by
    obtain rfl := List.mem_singleton.mp ha
    obtain ⟨⟨o, e, c, d⟩, hg, hF⟩ := hJ
    exact ⟨hg, hF, o, e, by simp [c], by simp [c], by simp [c], by simp [c], by simp [d], by simp [d]⟩

theorem ITR.list {iter tgt : Expr} {n : Nat} {ps : List PV} (h1 : EV prog w mg G k env ρ S iter (.obj n) S₁) (hn : S₁[n]? = some (.list ps)) : ITR prog w mg G k env ρ S iter tgt ps (fun S => S[n]? = some (.list ps)) S₁ :=
  Lock.mk fun A σ s T Q E H => by
    refine h1.run A σ s T _ _ fun v σ₁ h₁ tk₁ R₁ X₁ V₁ => ?_
    (first | (obtain ⟨_, rfl⟩ := VR.inv V₁) | (obtain rfl := VR.inv V₁))
    obtain ⟨vs, m, ho, hv⟩ := R₁.objs n _ hn
    refine wpAny_pyIter_list (s := { s with heap := h₁, toks := tk₁ }) (l := σ₁.p n) (items := vs) ⟨_, ho, rfl, m, rfl⟩ ?_
    have hfr : h₁.get? h₁.objs.size = none := by
      cases q : h₁.get? h₁.objs.size with
      | none => rfl
      | some o => exact absurd (Heap.lt_size q) (Nat.lt_irrefl _)
    have hG : G.get? h₁.objs.size = none := by
      cases q : G.get? h₁.objs.size with
      | none => rfl
      | some o => have := R₁.ground _ _ q; rw [hfr] at this; cases this
    have hk : ∀ a o, h₁.get? a = some o → (h₁.push { cls := .type "list_iterator", data := .fields #[.ref (σ₁.p n), .int 0 0] }).get? a = some o := fun a o e => Heap.get?_push_of_some _ e
    refine H _ [h₁.objs.size] _ σ₁ _ _ (src_list T.room.hh) (fun a ha => ?_) ⟨⟨_, Heap.get?_push_size _ rfl, rfl, rfl⟩, hG, .inr (by simp)⟩ hn (R₁.addF (fun a ha => by rw [List.mem_singleton.mp ha]; exact hfr) hk (fun a ha => by rw [List.mem_singleton.mp ha]; exact ⟨_, Heap.get?_push_size _ rfl⟩))
      ⟨X₁.len, X₁.same, X₁.sameF, X₁.new, fun a o e f => (X₁.keep a o e f).trans fun o' e' => KeepO.refl (hk _ _ e')⟩
    rw [List.mem_singleton.mp ha]
    cases q : s.heap.get? h₁.objs.size with
    | none => rfl
    | some o =>
      exfalso
      by_cases hs : ∃ j, j < S.length ∧ h₁.objs.size = σ.p j
      · obtain ⟨j, hj, ej⟩ := hs
        obtain ⟨ob, eo⟩ := R₁.alive (Nat.lt_of_lt_of_le hj X₁.len)
        rw [X₁.same j hj, ← ej, hfr] at eo; cases eo
      · obtain ⟨o', e', _⟩ := X₁.keep _ _ q fun j hj ej => hs ⟨j, hj, ej⟩
        rw [hfr] at e'; cases e'

theorem ASG.name {x : Str} {pos : Pos} {p : PV} (hk : env.kindOf x = some .local ∨ env.kindOf x = some .cell) : ASG prog w mg G k env (.Name x pos) p ρ (upd ρ x p) S := Lock.mk fun A σ s v T O V Q E H =>
  wpAny_assign_Name (store T O hk V fun h' tk' R' X' E' => H h' tk' R' (X'.weaken fun _ q => ⟨x, by simp [tgNames], q⟩) E')

noncomputable def ASGs (prog : Program) (w : World) (mg : Str → Option Value) (G : Heap) (k : Nat) (env : Env) (ts : List Expr) (ps : List PV) (ρ ρ' : Vars) (S : List PO) : Prop :=
  Lock (∀ A σ s vs, Sit w.params mg G A k env ρ σ S s.heap → Own G env → VRs σ S.length s.heap vs.toArray ps → ∀ Q E,
    (∀ h' tk', Rel w.params G σ S h' → ExtP (fun a => ∃ t ∈ ts, tgB env t a) σ S.length s.heap σ S.length h' → ER env ρ' σ S.length h' → Q () { s with heap := h', toks := tk' }) → wpAny (model prog w) A (assignInOrder ((assignEach ts env).map (·.2)) vs) Q E s)
theorem ASGs.nil : ASGs prog w mg G k env [] [] ρ ρ S := Lock.mk fun A σ s vs T O V Q E H => by
  rw [V.unnil]
  exact assignInOrder_nil (H _ _ T.rel ⟨Nat.le_refl _, fun _ _ => rfl, fun _ => Iff.rfl, fun i h1 h2 => absurd h2 (Nat.not_lt.mpr h1), fun a o e _ _ => KeepO.refl e⟩ T.er)
theorem ASGs.cons {t : Expr} {ts : List Expr} {p : PV} {ps : List PV} (h1 : ASG prog w mg G k env t p ρ ρ₁ S) (h2 : ASGs prog w mg G k env ts ps ρ₁ ρ₂ S) (he : assignEach (t :: ts) env = (false, assign t env) :: assignEach ts env := by rfl) :
    ASGs prog w mg G k env (t :: ts) (p :: ps) ρ ρ₂ S := Lock.mk fun A σ s vs T O V Q E H => by
  obtain ⟨v, vs', rfl, V1, V2⟩ := V.uncons
  rw [he]
  refine assignInOrder_cons (h1.run A σ s v T O V1 _ _ fun h₁ tk₁ R₁ X₁ E₁ => ?_)
  have X₁' : ExtX env σ S.length s.heap σ S.length h₁ := X₁.weaken fun _ q => q.env
  exact h2.run A σ _ vs' (T.extX R₁ X₁' E₁) O (V2.extX T.rel T.er X₁') Q E fun h₂ tk₂ R₂ X₂ E₂ =>
    H h₂ tk₂ R₂ (ExtP.trans R₁ (fun a ha => E₁.alive (let ⟨_, _, q⟩ := ha; q.env)) (X₁.weaken fun a q => ⟨t, .head _, q⟩) (X₂.weaken fun a ⟨t', ht, q⟩ => ⟨t', .tail _ ht, q⟩)) E₂
theorem ASG.tup {ts : List Expr} {x1 : Nat} {pos : Pos} {ps : List PV} {ρ' : Vars} (h : ASGs prog w mg G k env ts ps ρ ρ' S) (hn : (assignEach ts env).length = ps.length) (hstar : (assignEach ts env).findIdx? (·.1) = none) (hts : ts.all (fun t => match t with | .Name .. => true | _ => false) = true) :
    ASG prog w mg G k env (.Tuple ts x1 pos) (.tup ps) ρ ρ' S := Lock.mk fun A σ s v T O V Q E H => by
  cases V with
  | tup hF ho hc hd hl hi =>
    rename_i a o vs n
    refine assign_Tuple_tuple T.room.hh (t := a) (items := vs) ⟨o, ho, hc, n, hd⟩ (by rw [hl]; exact hn) hstar fun h' he => ?_
    have hk : ∀ a o, s.heap.get? a = some o → h'.get? a = some o := fun a o e => he a o (Nat.ne_of_lt (Heap.lt_size e)) e
    have X : Ext σ S.length s.heap σ S.length h' := ⟨Nat.le_refl _, fun _ _ => rfl, fun _ => Iff.rfl, fun i h1 h2 => absurd h2 (Nat.not_lt.mpr h1), fun a o e _ => KeepO.refl (hk a o e)⟩
    have R' : Rel w.params G σ S h' := T.rel.keeps hk
    refine h.run A σ _ vs.toList (T.ext R' X) O ?_ Q E fun h₂ tk₂ R₂ X₂ E₂ => H h₂ tk₂ R₂ (ExtP.trans R' (fun a ha => (T.ext R' X).er.alive ha.env) ⟨X.len, X.same, X.sameF, X.new, fun a o e f _ => X.keep a o e f⟩ (X₂.weaken fun a ⟨t, ht, q⟩ => by
      have := List.all_eq_true.mp hts t ht
      cases t <;> simp at this
      rename_i x px
      obtain ⟨y, hy, q⟩ := q
      simp [tgNames] at hy
      subst hy
      exact ⟨y, List.mem_filterMap.mpr ⟨_, ht, rfl⟩, q⟩)) E₂
    have : VRs σ S.length s.heap vs ps := ⟨hl, hi⟩
    simpa using this.ext T.rel X

inductive WLoop (prog : Program) (w : World) (mg : Str → Option Value) (G : Heap) (k : Nat) (env : Env) (test : Expr) (body : List Stmt) : Vars → List PO → Out → Prop where
  | stop {ρ : Vars} {S S₁ : List PO} (h : EB prog w mg G k env ρ S test false S₁) : WLoop prog w mg G k env test body ρ S (.next ρ S₁)
  | next {ρ ρ' : Vars} {S S₁ S' : List PO} {o : Out} (h : EB prog w mg G k env ρ S test true S₁) (b : EXs prog w mg G k env ρ S₁ body (.next ρ' S')) (r : WLoop prog w mg G k env test body ρ' S' o) : WLoop prog w mg G k env test body ρ S o
  | cont {ρ ρ' : Vars} {S S₁ S' : List PO} {o : Out} (h : EB prog w mg G k env ρ S test true S₁) (b : EXs prog w mg G k env ρ S₁ body (.cont ρ' S')) (r : WLoop prog w mg G k env test body ρ' S' o) : WLoop prog w mg G k env test body ρ S o
  | brk {ρ ρ' : Vars} {S S₁ S' : List PO} (h : EB prog w mg G k env ρ S test true S₁) (b : EXs prog w mg G k env ρ S₁ body (.brk ρ' S')) : WLoop prog w mg G k env test body ρ S (.next ρ' S')
  | ret {ρ : Vars} {p : PV} {S S₁ S' : List PO} (h : EB prog w mg G k env ρ S test true S₁) (b : EXs prog w mg G k env ρ S₁ body (.ret p S')) : WLoop prog w mg G k env test body ρ S (.ret p S')

theorem codeAny_while1 {A : Around} {test : Expr} {body : List Stmt} {R : Result → Shared → Prop} {s : Shared} (turn : wpAny (model prog w) A (isTrue test env (eval test env)) (fun b s₂ =>
      if b = true then wpAny (model prog w) A (execs body env) (fun f s₃ => match f with
          | .next | .cont => codeAny (model prog w) A (.whileLoop test body [] env) R s₃
          | .brk => R (.ok .next) s₃
          | .ret v => R (.ok (.ret v)) s₃) (fun _ _ => False) s₂ else R (.ok .next) s₂) (fun _ _ => False) s) : codeAny (model prog w) A (.whileLoop test body [] env) R s := by
  refine codeAny_of_tree ?_
  show wpAny _ A ((whileTurn test body [] env).onRaise (fun x => do noteFrame x env; theTreesLotGoes x)) _ _ s
  refine wpAny_noted (wpAny_mono (E := fun _ _ => False) ?_ (fun _ _ q => q) fun _ _ q => q.elim)
  simp only [whileTurn]
  refine wpAny_bind (wpAny_mono turn (fun b s₂ h₂ => ?_) fun _ _ h' => h')
  cases b with
  | false => exact wpAny_bind (wpAny_execs_nil (wpAny_pure h₂))
  | true =>
    refine wpAny_bind (wpAny_mono h₂ (fun f s₃ h₃ => ?_) fun _ _ h' => h')
    cases f with
    | next => exact wpAny_pure ⟨rfl, h₃⟩
    | cont => exact wpAny_pure ⟨rfl, h₃⟩
    | brk => exact wpAny_pure h₃
    | ret v => exact wpAny_pure h₃

theorem EX.while_ {test : Expr} {body : List Stmt} {pos : Pos} {o : Out} (L : WLoop prog w mg G k env test body ρ S o) : EX prog w mg G k env ρ S (.While test body [] pos) o := Lock.mk fun A σ s T O Q E H => by
  refine wpAny_While ?_
  have go : ∀ (ρ : Vars) (S : List PO) (o : Out), WLoop prog w mg G k env test body ρ S o → ∀ (σ : Lo) (s : Shared), Sit w.params mg G A k env ρ σ S s.heap → PostX w.params G env σ S s o Q →
      codeAny (model prog w) A (.whileLoop test body [] env) (fun r s' => match r with | .ok f => Q f s' | .error e => cameBackBy (model prog w) A env E e s') s := by
    intro ρ S o L
    induction L with
    | stop h =>
      intro σ s T H
      refine codeAny_while1 (h.run A σ s T _ _ fun σ₁ h₁ tk₁ R₁ X₁ => ?_)
      rw [if_neg (by simp)]
      exact H σ₁ h₁ tk₁ R₁ X₁.toX (T.ext R₁ X₁).er
    | next h b r ih =>
      intro σ s T H
      refine codeAny_while1 (h.run A σ s T _ _ fun σ₁ h₁ tk₁ R₁ X₁ => ?_)
      rw [if_pos rfl]
      have T₁ := T.ext R₁ X₁
      refine b.run A σ₁ _ T₁ O _ _ fun σ₂ h₂ tk₂ R₂ X₂ E₂ => ?_
      exact ih σ₂ _ (T₁.extX R₂ X₂ E₂) ((H.ofExt (h₁ := h₁) (tk := tk₁) R₁ T₁.er X₁.toX).ofExt (h₁ := h₂) (tk := tk₂) R₂ E₂ X₂)
    | cont h b r ih =>
      intro σ s T H
      refine codeAny_while1 (h.run A σ s T _ _ fun σ₁ h₁ tk₁ R₁ X₁ => ?_)
      rw [if_pos rfl]
      have T₁ := T.ext R₁ X₁
      refine b.run A σ₁ _ T₁ O _ _ fun σ₂ h₂ tk₂ R₂ X₂ E₂ => ?_
      exact ih σ₂ _ (T₁.extX R₂ X₂ E₂) ((H.ofExt (h₁ := h₁) (tk := tk₁) R₁ T₁.er X₁.toX).ofExt (h₁ := h₂) (tk := tk₂) R₂ E₂ X₂)
    | brk h b =>
      intro σ s T H
      refine codeAny_while1 (h.run A σ s T _ _ fun σ₁ h₁ tk₁ R₁ X₁ => ?_)
      rw [if_pos rfl]
      have T₁ := T.ext R₁ X₁
      refine b.run A σ₁ _ T₁ O _ _ fun σ₂ h₂ tk₂ R₂ X₂ E₂ => ?_
      exact H σ₂ h₂ tk₂ R₂ (ExtX.trans R₁ T₁.er X₁.toX X₂) E₂
    | ret h b =>
      intro σ s T H
      refine codeAny_while1 (h.run A σ s T _ _ fun σ₁ h₁ tk₁ R₁ X₁ => ?_)
      rw [if_pos rfl]
      have T₁ := T.ext R₁ X₁
      refine b.run A σ₁ _ T₁ O _ _ fun v σ₂ h₂ tk₂ R₂ X₂ V₂ => ?_
      exact H v σ₂ h₂ tk₂ R₂ (ExtX.trans R₁ T₁.er X₁.toX X₂) V₂
  exact go ρ S o L σ s T H
end
set_option tactic.hygienic false

noncomputable def closAdd (env : Env) (cs : List (Str × Addr)) (x : Str × NameKind) : List (Str × Addr) := if x.2 == NameKind.free then (x.1, (env.cells.lookup x.1).getD 0) :: cs else cs
noncomputable def clos (scope : Scope) (env : Env) : List (Str × Addr) := scope.names.foldl (closAdd env) []
theorem forIn_clos {env : Env} (f : Str × NameKind → List (Str × Addr) → Sem (ForInStep (List (Str × Addr))))
    (hf : ∀ name kind cs, f (name, kind) cs = if kind == NameKind.free then (do let a ← cellOf env name; pure (.yield ((name, a) :: cs))) else pure (.yield cs)) :
    ∀ (l : List (Str × NameKind)) (acc : List (Str × Addr)), (∀ x ∈ l, x.2 = .free → (env.cells.lookup x.1).isSome = true) → forIn l acc f = pure (l.foldl (closAdd env) acc)
  | [], acc, _ => by rw [List.forIn_nil]; rfl
  | (name, kind) :: r, acc, h => by
    rw [List.forIn_cons, hf, List.foldl_cons]
    have hr : ∀ x ∈ r, x.2 = .free → (env.cells.lookup x.1).isSome = true := fun x hx => h x (.tail _ hx)
    unfold closAdd
    by_cases hk : (kind == NameKind.free) = true
    · obtain ⟨c, hc⟩ := Option.isSome_iff_exists.mp (h (name, kind) (.head _) (by simpa using hk))
      rw [if_pos hk, if_pos hk]
      unfold cellOf
      rw [hc]
      show (forIn r ((name, c) :: acc) f) = _
      rw [forIn_clos f hf r _ hr]
      simp only [Option.getD_some]
      rfl
    · rw [if_neg hk, if_neg hk]
      show (forIn r acc f) = _
      rw [forIn_clos f hf r _ hr]
      rfl
theorem closureFor_is {scope : Scope} {env : Env} (h : ∀ x ∈ scope.names, x.2 = .free → (env.cells.lookup x.1).isSome = true) : closureFor scope env = pure (clos scope env) := by
  simp only [closureFor]
  rw [forIn_clos (env := env) _ (fun name kind cs => by cases hk : kind == NameKind.free <;> simp [hk]) scope.names [] h]
  rfl

noncomputable def cenvOf (scope : Scope) (env : Env) (C : Addr) : Env :=
  { scope := relabel scope env, locals := C, globals := env.globals, cells := cellsFrom (C + 1) scope.names (clos scope env), qual := env.qual, func := none, code := env.code, frame := env.frame, builtins := builtinsNs }

theorem newEnvC {M : Model} {A : Around} {E : Value → Shared → Prop} {s : Shared} {scope : Scope} {env : Env} {cl : List (Str × Addr)} {Q : Env → Shared → Prop}
    (h : Q { scope, locals := s.heap.objs.size, globals := env.globals, cells := cellsFrom (s.heap.objs.size + 1) scope.names cl, qual := env.qual, func := none, code := env.code, frame := env.frame, builtins := builtinsNs }
      { s with heap := pushCells (s.heap.push { cls := .type "dict", data := .dict #[] }) scope.names })
    (hb : env.builtins = builtinsNs) :
    wpAny M A (newFunctionEnv scope env.globals cl [] env.qual none .none (some env)) Q E s := by
  simp only [newFunctionEnv, Option.isSome_some, if_true]
  refine wpAny_bind (wpAny_alloc ?_)
  refine wpAny_bind (wpAny_layCells _ (fun name kind cells => by cases hkc : kind == NameKind.cell <;> simp [hkc]) _ _ _ _ ?_)
  rw [show ({ s with heap := s.heap.push { cls := .type "dict", data := .dict #[] } } : Shared).heap.objs.size = s.heap.objs.size + 1 from Heap.size_push ..]
  refine wpAny_bind ?_
  rw [List.forIn_nil]
  refine wpAny_pure (wpAny_pure ?_)
  rw [hb]
  exact h

theorem cellsFrom_bound : ∀ (names : List (Str × NameKind)) (n : Nat) (acc : List (Str × Addr)), (∀ x y c, acc.lookup x = some c → acc.lookup y = some c → x = y) → (∀ x c, acc.lookup x = some c → c < n) →
    ∀ x y c, (cellsFrom n names acc).lookup x = some c → (cellsFrom n names acc).lookup y = some c → x = y
  | [], _, _, hi, _ => hi
  | (name, kind) :: r, n, acc, hi, hb => by
    unfold cellsFrom
    split
    · refine cellsFrom_bound r (n + 1) _ (fun x y c h1 h2 => ?_) fun x c h => ?_
      · rw [List.lookup_cons] at h1 h2
        by_cases hx : (x == name) = true
        · by_cases hy : (y == name) = true
          · rw [beq_iff_eq.mp hx, beq_iff_eq.mp hy]
          · simp only [hx, hy] at h1 h2
            cases h1
            exact absurd (hb y _ h2) (Nat.lt_irrefl _)
        · by_cases hy : (y == name) = true
          · simp only [hx, hy] at h1 h2
            cases h2
            exact absurd (hb x _ h1) (Nat.lt_irrefl _)
          · simp only [hx, hy] at h1 h2
            exact hi x y c h1 h2
      · rw [List.lookup_cons] at h
        by_cases hx : (x == name) = true
        · simp only [hx] at h; cases h; exact Nat.lt_succ_self _
        · simp only [hx] at h; exact Nat.lt_succ_of_lt (hb x c h)
    · exact cellsFrom_bound r n acc hi hb
theorem cellsFrom_cases : ∀ (names : List (Str × NameKind)) (h : Heap) (acc : List (Str × Addr)) (x : Str) (c : Addr), (cellsFrom h.objs.size names acc).lookup x = some c →
    (acc.lookup x = some c ∧ (x, NameKind.cell) ∉ names) ∨ (h.objs.size ≤ c ∧ (pushCells h names).IsCell c none ∧ (x, NameKind.cell) ∈ names)
  | [], _, _, _, _, e => .inl ⟨e, fun h => nomatch h⟩
  | (name, kind) :: r, h, acc, x, c, e => by
    unfold cellsFrom pushCells at *
    by_cases hk : (kind == NameKind.cell) = true
    · rw [if_pos hk] at e ⊢
      have hk' : kind = .cell := by simpa using hk
      have sz : (h.push { cls := .type "cell", data := .cell none }).objs.size = h.objs.size + 1 := Heap.size_push ..
      rw [← sz] at e
      rcases cellsFrom_cases r _ _ x c e with ⟨q, nm⟩ | ⟨q1, q2, q3⟩
      · rw [List.lookup_cons] at q
        by_cases hx : (x == name) = true
        · simp only [hx] at q
          cases q
          refine .inr ⟨Nat.le_refl _, ?_, ?_⟩
          · exact ⟨_, pushCells_keeps _ _ _ _ (Heap.get?_push_size _ rfl), rfl⟩
          · rw [beq_iff_eq.mp hx, hk']; exact .head _
        · simp only [hx] at q
          refine .inl ⟨q, fun hm => ?_⟩
          rcases List.mem_cons.mp hm with hm | hm
          · cases hm; simp at hx
          · exact nm hm
      · exact .inr ⟨by rw [sz] at q1; omega, q2, .tail _ q3⟩
    · rw [if_neg hk] at e ⊢
      rcases cellsFrom_cases r h acc x c e with ⟨q, nm⟩ | ⟨q1, q2, q3⟩
      · refine .inl ⟨q, fun hm => ?_⟩
        rcases List.mem_cons.mp hm with hm | hm
        · cases hm; simp at hk
        · exact nm hm
      · exact .inr ⟨q1, q2, .tail _ q3⟩

theorem clos_look (env : Env) : ∀ (l : List (Str × NameKind)) (acc : List (Str × Addr)) (x : Str) (c : Addr), (l.foldl (closAdd env) acc).lookup x = some c →
    acc.lookup x = some c ∨ ((x, NameKind.free) ∈ l ∧ c = (env.cells.lookup x).getD 0)
  | [], _, _, _, e => .inl e
  | (n, kd) :: r, acc, x, c, e => by
    rw [List.foldl_cons] at e
    rcases clos_look env r _ x c e with q | ⟨q1, q2⟩
    · unfold closAdd at q
      by_cases hk : (kd == NameKind.free) = true
      · rw [if_pos hk, List.lookup_cons] at q
        by_cases hx : (x == n) = true
        · simp only [hx] at q
          cases q
          refine .inr ⟨?_, by rw [beq_iff_eq.mp hx]⟩
          rw [beq_iff_eq.mp hx, show kd = .free from by simpa using hk]; exact .head _
        · simp only [hx] at q; exact .inl q
      · rw [if_neg hk] at q; exact .inl q
    · exact .inr ⟨.tail _ q1, q2⟩
theorem clos_some (env : Env) : ∀ (l : List (Str × NameKind)) (acc : List (Str × Addr)) (x : Str), ((x, NameKind.free) ∈ l ∨ (acc.lookup x).isSome = true) → ((l.foldl (closAdd env) acc).lookup x).isSome = true
  | [], _, _, h => h.elim (fun e => nomatch e) id
  | (n, kd) :: r, acc, x, h => by
    rw [List.foldl_cons]
    refine clos_some env r _ x ?_
    unfold closAdd
    by_cases hk : (kd == NameKind.free) = true
    · rw [if_pos hk, List.lookup_cons]
      by_cases hx : (x == n) = true
      · exact .inr (by simp [hx])
      · simp only [hx]
        refine h.imp (fun e => ?_) id
        rcases List.mem_cons.mp e with e | e
        · exfalso; cases e; simp at hx
        · exact e
    · rw [if_neg hk]
      refine h.imp (fun e => ?_) id
      rcases List.mem_cons.mp e with e | e
      · exfalso; cases e; simp at hk
      · exact e
theorem cellsFrom_some' {x : Str} : ∀ (names : List (Str × NameKind)) (n : Nat) (acc : List (Str × Addr)), ((x, NameKind.cell) ∈ names ∨ (acc.lookup x).isSome = true) → ((cellsFrom n names acc).lookup x).isSome = true := cells_isSome

/-- what is asked of a comprehension's scope -/
structure ScOk (scope : Scope) (env : Env) : Prop where
  kind : scope.kind = .function
  nodup : (scope.names.map (·.1)).Nodup
  free : ∀ x ∈ scope.names, x.2 = .free → env.kindOf x.1 = some .cell ∨ env.kindOf x.1 = some .free

theorem look_mem {l : List (Str × NameKind)} {x : Str} {kd : NameKind} (h : l.lookup x = some kd) : (x, kd) ∈ l := mem_of_lookup h
theorem look_nodup : ∀ {l : List (Str × NameKind)} {x : Str} {kd : NameKind}, (l.map (·.1)).Nodup → (x, kd) ∈ l → l.lookup x = some kd
  | (y, k') :: r, x, kd, hn, hm => by
    rw [List.lookup_cons]
    rcases List.mem_cons.mp hm with e | e
    · cases e; simp
    · have : x ≠ y := fun q => by
        rw [List.map_cons, List.nodup_cons] at hn
        exact hn.1 (q ▸ List.mem_map_of_mem (f := (·.1)) e)
      have hb : (x == y) = false := beq_eq_false_iff_ne.mpr this
      rw [hb]
      exact look_nodup (by rw [List.map_cons, List.nodup_cons] at hn; exact hn.2) e
theorem relabel_look (scope : Scope) (env : Env) (x : Str) : (relabel scope env).names.lookup x = (scope.names.lookup x).map fun kd => if (kd == .free && env.scope.kind == .function && env.kindOf x == some .cell) then .cell else kd := by
  unfold relabel
  dsimp only
  induction scope.names with
  | nil => rfl
  | cons a r ih =>
    obtain ⟨n, kd⟩ := a
    rw [List.map_cons, List.lookup_cons (a := x) (as := r)]
    by_cases hx : (x == n) = true
    · obtain rfl := beq_iff_eq.mp hx
      split <;> simp_all
    · simp only [hx]
      rw [← ih]
      split <;> simp only [List.lookup_cons, hx]
set_option tactic.hygienic true
set_option tactic.hygienic false

section
variable {P : Params} {mg : Str → Option Value} {G : Heap} {A : Around} {k : Nat} {env : Env} {ρ ρ' ρc : Vars} {σ σ' : Lo} {S S' : List PO} {h h' : Heap} {N' : Nat} {scope : Scope}
theorem Ext.ofKeeps (hk : ∀ a o, h.get? a = some o → h'.get? a = some o) : Ext σ S.length h σ S.length h' := ⟨Nat.le_refl _, fun _ _ => rfl, fun _ => Iff.rfl, fun i h1 h2 => absurd h2 (Nat.not_lt.mpr h1), fun a o e _ => KeepO.refl (hk a o e)⟩
theorem Sit.keeps (T : Sit P mg G A k env ρ σ S h) (hk : ∀ a o, h.get? a = some o → h'.get? a = some o) : Sit P mg G A k env ρ σ S h' := T.ext (T.rel.keeps hk) (Ext.ofKeeps hk)

theorem Ext.refF {N : Nat} (X : Ext σ N h σ' N' h') (F : Addr → Prop) : Ext ⟨σ.p, F⟩ N h ⟨σ'.p, F⟩ N' h' := ⟨X.len, X.same, fun _ => Iff.rfl, X.new, X.keep⟩
theorem ER.less (H : ER env ρ σ S.length h) (hw : ∀ x p, ρ'.lookup x = some p → ρ.lookup x = some p) : ER env ρ' σ S.length h :=
  ⟨H.kind, H.gl, H.bi, H.off, let ⟨m, hm, hv⟩ := H.ns; ⟨m, hm, fun x p a b => hv x p (hw x p a) b⟩, fun x hx => let ⟨c, vo, a, b, d⟩ := H.cell x hx; ⟨c, vo, a, b, fun p hp => d p (hw x p hp)⟩, fun x p a => H.dom x p (hw x p a), H.cinj⟩
theorem kind_free (ok : ScOk scope env) {x : Str} (hx : (x, NameKind.free) ∈ scope.names) (C : Addr) : (cenvOf scope env C).kindOf x = some .cell ∨ (cenvOf scope env C).kindOf x = some .free := by
  show (relabel scope env).names.lookup x = _ ∨ _
  have e : (cenvOf scope env C).kindOf x = (relabel scope env).names.lookup x := rfl
  rw [e, relabel_look, look_nodup ok.nodup hx, Option.map_some]
  split <;> simp

theorem cenvER (R : Rel P G σ S h) (H : ER env ρ σ S.length h) (ok : ScOk scope env) (hρ : ∀ x p, ρc.lookup x = some p → (x, NameKind.free) ∈ scope.names ∧ ρ.lookup x = some p)
    (hh : h' = pushCells (h.push { cls := .type "dict", data := .dict #[] }) scope.names) : ER (cenvOf scope env h.objs.size) ρc σ S.length h' ∧ (Own G env → Own G (cenvOf scope env h.objs.size)) ∧ (∀ a o, h.get? a = some o → h'.get? a = some o) ∧
      (∀ x c, (x, NameKind.cell) ∈ scope.names → (cenvOf scope env h.objs.size).cells.lookup x = some c → h.objs.size < c) := by
  have hk : ∀ a o, h.get? a = some o → h'.get? a = some o := fun a o e => by rw [hh]; exact pushCells_keeps _ _ _ _ (Heap.get?_push_of_some _ e)
  have mono : ∀ v p, VR σ S.length h v p → VR σ S.length h' v p := fun v p V => V.mono (Nat.le_refl _) (fun _ _ => rfl) (fun _ q => q) fun a o e _ => hk a o e
  have sz : (h.push { cls := .type "dict", data := .dict #[] }).objs.size = h.objs.size + 1 := Heap.size_push ..
  have nd := ok.nodup
  have freeC : ∀ x, (x, NameKind.free) ∈ scope.names → ∃ c vo, env.cells.lookup x = some c ∧ h.IsCell c vo ∧ ∀ p, ρ.lookup x = some p → ∃ v, vo = some v ∧ VR σ S.length h v p := fun x hx => H.cell x (ok.free _ hx rfl)
  have clc : ∀ x c, (clos scope env).lookup x = some c → (x, NameKind.free) ∈ scope.names ∧ env.cells.lookup x = some c := fun x c e => by
    rcases clos_look env scope.names [] x c e with q | ⟨q1, q2⟩
    · cases q
    · obtain ⟨c', vo, h1, _⟩ := freeC x q1
      rw [h1] at q2; cases q2
      exact ⟨q1, h1⟩
  have cases' : ∀ x c, (cenvOf scope env h.objs.size).cells.lookup x = some c → ((clos scope env).lookup x = some c ∧ (x, NameKind.cell) ∉ scope.names) ∨ (h.objs.size + 1 ≤ c ∧ h'.IsCell c none ∧ (x, NameKind.cell) ∈ scope.names) := fun x c e => by
    have := cellsFrom_cases scope.names (h.push { cls := .type "dict", data := .dict #[] }) (clos scope env) x c (by rw [sz]; exact e)
    rw [sz, ← hh] at this
    exact this
  have lt_of : ∀ x c, (clos scope env).lookup x = some c → c < h.objs.size := fun x c e => by
    obtain ⟨q1, q2⟩ := clc x c e
    obtain ⟨c', vo, h1, ⟨o, ho, _⟩, _⟩ := freeC x q1
    rw [q2] at h1; cases h1
    exact Heap.lt_size ho
  have frG : ∀ a, h.objs.size ≤ a → G.get? a = none := fun a ha => by
    cases q : G.get? a with
    | none => rfl
    | some o => exact absurd (Heap.lt_size (R.ground _ _ q)) (Nat.not_lt.mpr ha)
  refine ⟨⟨ok.kind, H.gl, rfl, fun i hi q => ?_, ⟨fun _ => none, ?_, fun x p h1 h2 => ?_⟩, fun x hx => ?_, fun x p h1 => ?_, fun x y c h1 h2 => ?_⟩, fun O => ⟨frG _ (Nat.le_refl _), fun x c e => ?_, fun x c e q => ?_⟩, hk, fun x c hm e => ?_⟩
  · obtain ⟨o, e⟩ := R.alive hi
    have := Heap.lt_size e
    rw [← q] at this
    exact Nat.lt_irrefl _ this
  · rw [hh]; exact (Heap.Ns.new h (.type "dict")).keeps (pushCells_keeps _ _)
  · exfalso
    rcases kind_free ok (hρ x p h1).1 h.objs.size with q | q <;> (rw [h2] at q; cases q)
  · have e : (cenvOf scope env h.objs.size).kindOf x = (relabel scope env).names.lookup x := rfl
    rw [e, relabel_look] at hx
    cases hl : scope.names.lookup x with
    | none => rw [hl] at hx; rcases hx with q | q <;> cases q
    | some kd =>
      have hm := look_mem hl
      rw [hl] at hx
      have hkd : kd = .cell ∨ kd = .free := by
        rw [Option.map_some] at hx
        split at hx
        · rename_i hc
          right
          simp at hc
          exact hc.1.1
        · rcases hx with q | q
          · left; exact Option.some.inj q
          · right; exact Option.some.inj q
      rcases hkd with rfl | rfl
      · obtain ⟨c, hc⟩ := Option.isSome_iff_exists.mp (cells_isSome (x := x) scope.names (h.objs.size + 1) (clos scope env) (.inl hm))
        rcases cases' x c hc with ⟨_, nm⟩ | ⟨_, q, _⟩
        · exact absurd hm nm
        · refine ⟨c, none, hc, q, fun p hp => ?_⟩
          have := look_nodup nd (hρ x p hp).1
          rw [hl] at this; cases this
      · obtain ⟨c, hc⟩ := Option.isSome_iff_exists.mp (cells_isSome (x := x) scope.names (h.objs.size + 1) (clos scope env) (.inr (clos_some env scope.names [] x (.inl hm))))
        rcases cases' x c hc with ⟨q, _⟩ | ⟨_, _, q⟩
        · obtain ⟨_, q2⟩ := clc x c q
          obtain ⟨c', vo, h1, h2, h3⟩ := freeC x hm
          rw [q2] at h1; cases h1
          exact ⟨c, vo, hc, h2.keeps hk, fun p hp => let ⟨v, a, b⟩ := h3 p (hρ x p hp).2; ⟨v, a, mono _ _ b⟩⟩
        · have := look_nodup nd q
          rw [hl] at this; cases this
  · exact .inr (kind_free ok (hρ x p h1).1 _)
  · refine cellsFrom_bound scope.names (h.objs.size + 1) (clos scope env) (fun x y c h1 h2 => ?_) (fun x c e => Nat.lt_succ_of_lt (lt_of x c e)) x y c h1 h2
    exact H.cinj x y c (clc x c h1).2 (clc y c h2).2
  · rcases cases' x c e with ⟨q, _⟩ | ⟨q, _, _⟩
    · exact O.cells x c (clc x c q).2
    · exact frG _ (Nat.le_of_succ_le q)
  · rcases cases' x c e with ⟨q', _⟩ | ⟨q', _, _⟩
    · exact absurd (lt_of x c q') (by rw [show c = h.objs.size from q]; exact Nat.lt_irrefl _)
    · rw [show c = h.objs.size from q] at q'; exact absurd q' (Nat.not_succ_le_self _)
  · rcases cases' x c e with ⟨_, nm⟩ | ⟨q, _, _⟩
    · exact absurd hm nm
    · exact q
end

section
variable (prog : Program) (w : World) (mg : Str → Option Value) (G : Heap)
inductive EIfs (k : Nat) (env : Env) (ρ : Vars) (S : List PO) : List Expr → Bool → List PO → Prop where
  | nil : EIfs k env ρ S [] true S
  | one {c : Expr} {b : Bool} {S' : List PO} (h : EB prog w mg G k env ρ S c b S') : EIfs k env ρ S [c] b S'

/-- one turn of a comprehension -/
inductive CompStep (k : Nat) (env : Env) (scope : Scope) (ρc : Vars) (tgt : Expr) (ifs : List Expr) (elt : Expr) (p : PV) (S : List PO) : Option PV → List PO → Prop where
  | skip (ρ₁ : Vars) {S' : List PO} (hw : ∀ x p, ρc.lookup x = some p → ρ₁.lookup x = some p) (h : ∀ C, ASG prog w mg G k (cenvOf scope env C) tgt p ρc ρ₁ S ∧ EIfs prog w mg G k (cenvOf scope env C) ρ₁ S ifs false S') : CompStep k env scope ρc tgt ifs elt p S none S'
  | take (ρ₁ : Vars) (S₁ : List PO) {q : PV} {S' : List PO} (hw : ∀ x p, ρc.lookup x = some p → ρ₁.lookup x = some p) (h : ∀ C, ASG prog w mg G k (cenvOf scope env C) tgt p ρc ρ₁ S ∧ EIfs prog w mg G k (cenvOf scope env C) ρ₁ S ifs true S₁ ∧ EV prog w mg G k (cenvOf scope env C) ρ₁ S₁ elt q S') :
      CompStep k env scope ρc tgt ifs elt p S (some q) S'
end

inductive CompR (step : PV → List PO → Option PV → List PO → Prop) (need : List PO → Prop) : List PV → List PO → List PV → List PO → Prop where
  | nil {S : List PO} : CompR step need [] S [] S
  | skip {p : PV} {ps qs : List PV} {S S' S'' : List PO} (h : step p S none S') (n : need S') (r : CompR step need ps S' qs S'') : CompR step need (p :: ps) S qs S''
  | take {p q : PV} {ps qs : List PV} {S S' S'' : List PO} (h : step p S (some q) S') (n : need S') (r : CompR step need ps S' qs S'') : CompR step need (p :: ps) S (q :: qs) S''

section
variable {prog : Program} {w : World} {mg : Str → Option Value} {G : Heap} {k : Nat} {env : Env} {ρ ρ₁ ρ₂ : Vars} {S S₁ S₂ S' : List PO}

theorem codeAny_comp1 {A : Around} {elt tgt iter : Expr} {ifs : List Expr} {scope : Scope} {pos : Pos} {it acc : Value} {ce : Env} {R : Result → Shared → Prop} {s : Shared}
    (turn : wpAny (model prog w) A (pyNext it) (fun r s₁ => match r with
      | none => R (.ok .next) s₁
      | some v => wpAny (model prog w) A (letOwnedTupleGo tgt it v) (fun _ s₁' => wpAny (model prog w) A (assign tgt ce v) (fun _ s₂ =>
          wpAny (model prog w) A (forIn ifs true fun c r => if r = true then do let ok ← isTrue c ce (eval c ce); pure (ForInStep.yield ok) else pure (ForInStep.yield r)) (fun ok s₃ =>
            if ok = true then wpAny (model prog w) A (eval elt ce) (fun x s₄ =>
              wpAny (model prog w) A (PySem.call (.builtin "list.append") [acc, x]) (fun _ s₅ => codeAny (model prog w) A (.compLoop (.ListComp elt [⟨tgt, iter, ifs, 0⟩] scope pos) 0 it acc ce) R s₅) (fun _ _ => False) s₄) (fun _ _ => False) s₃
            else codeAny (model prog w) A (.compLoop (.ListComp elt [⟨tgt, iter, ifs, 0⟩] scope pos) 0 it acc ce) R s₃) (fun _ _ => False) s₂) (fun _ _ => False) s₁') (fun _ _ => False) s₁) (fun _ _ => False) s) :
    codeAny (model prog w) A (.compLoop (.ListComp elt [⟨tgt, iter, ifs, 0⟩] scope pos) 0 it acc ce) R s := by
  refine codeAny_of_tree ?_
  show wpAny _ A ((compTurn (.ListComp elt [⟨tgt, iter, ifs, 0⟩] scope pos) 0 it acc ce).onRaise (fun x => do noteFrame x ce; theTreesLotGoes x)) _ _ s
  refine wpAny_noted (wpAny_mono (E := fun _ _ => False) ?_ (fun _ _ q => q) fun _ _ q => q.elim)
  rw [compTurn_list]
  refine wpAny_bind (wpAny_standAt (wpAny_bind (wpAny_mono turn (fun r s₁ h₁ => ?_) fun _ _ h' => h')))
  cases r with
  | none => exact wpAny_pure h₁
  | some v =>
    refine wpAny_bind (wpAny_mono h₁ (fun _ s₁' h₁' => ?_) fun _ _ h' => h')
    refine wpAny_bind (wpAny_mono h₁' (fun _ s₂ h₂ => wpAny_bind (wpAny_mono h₂ (fun ok s₃ h₃ => ?_) fun _ _ h' => h')) fun _ _ h' => h')
    cases ok with
    | false => exact wpAny_pure ⟨rfl, h₃⟩
    | true =>
      exact wpAny_bind (wpAny_bind (wpAny_mono h₃ (fun x s₄ h₄ => wpAny_bind (wpAny_mono h₄ (fun _ s₅ h₅ => wpAny_pure (wpAny_pure ⟨rfl, h₅⟩)) fun _ _ h' => h')) fun _ _ h' => h'))

theorem EIfs.run {A : Around} {σ : Lo} {s : Shared} {ifs : List Expr} {b : Bool} (H : EIfs prog w mg G k env ρ S ifs b S') (T : Sit w.params mg G A k env ρ σ S s.heap) {Q : Bool → Shared → Prop} {E : Value → Shared → Prop} (K : PostB w.params G σ S s b S' Q) :
    wpAny (model prog w) A (forIn ifs true fun c r => if r = true then do let ok ← isTrue c env (eval c env); pure (ForInStep.yield ok) else pure (ForInStep.yield r)) Q E s := by
  cases H with
  | nil => exact wpAny_tests_nil (K σ s.heap s.toks T.rel Ext.refl)
  | one h => exact wpAny_tests_one (h.run A σ s T _ _ K)
end
set_option tactic.hygienic true

section
variable {P : Params} {mg : Str → Option Value} {G : Heap} {A : Around} {k : Nat} {env : Env} {ρ ρ' ρc : Vars} {σ σ' : Lo} {S S' : List PO} {h h' : Heap} {N' : Nat} {D : Addr}
/-- one place changes, and nothing reads it -/
structure Chg (D : Addr) (G : Heap) (σ : Lo) (N : Nat) (h h' : Heap) : Prop where
  keep : ∀ a o, a ≠ D → h.get? a = some o → h'.get? a = some o
  alive : σ.F D → ∃ o, h'.get? D = some o
  off : ∀ i, i < N → D ≠ σ.p i
  ground : G.get? D = none
  tup : ∀ o, h.get? D = some o → o.cls = .type "tuple" → ∀ vs n, o.data ≠ .seq vs n
theorem VR.chg {N : Nat} (q : Chg D G σ S.length h h') {v : Value} {p : PV} (V : VR σ N h v p) : VR σ N h' v p :=
  V.mono' (Nat.le_refl _) (fun _ _ => rfl) fun a o e c ⟨vs, n, d⟩ f => ⟨q.keep a o (fun x => q.tup o (x ▸ e) c vs n d) e, f⟩
theorem Rel.chg (R : Rel P G σ S h) (q : Chg D G σ S.length h h') : Rel P G σ S h' := by
  refine ⟨fun b o e => q.keep b o (fun x => by rw [x, q.ground] at e; cases e) (R.ground b o e), fun i o e => ?_, R.fresh, R.inj, fun a ha => ?_⟩
  · have hi : i < S.length := (List.getElem?_eq_some_iff.mp e).1
    have Q := R.objs i o e
    have hn : σ.p i ≠ D := Ne.symm (q.off i hi)
    cases o with
    | list l =>
      obtain ⟨us, n, h1, h2, h3⟩ := Q
      exact ⟨us, n, q.keep _ _ hn h1, h2, fun i v p' a b => (h3 i v p' a b).chg q⟩
    | dict l ep =>
      obtain ⟨es, n, h1, h2, h3⟩ := Q
      exact ⟨es, n, q.keep _ _ hn h1, h2, fun i e kv a b => ⟨⟨(h3 i e kv a b).1.1.chg q, (h3 i e kv a b).1.2.chg q⟩, (h3 i e kv a b).2⟩⟩
    | blank =>
      obtain ⟨o, h1, h2⟩ := Q
      exact ⟨o, q.keep _ _ hn h1, h2⟩
    | bound n id =>
      obtain ⟨v, h1, h2⟩ := Q
      exact ⟨v, q.keep _ _ hn h1, h2.chg q⟩
    | tab p =>
      obtain ⟨ha, v, h1, h2⟩ := Q
      exact ⟨ha, v, q.keep _ _ hn h1, h2⟩
  · by_cases hx : a = D
    · rw [hx] at ha ⊢; exact q.alive ha
    · obtain ⟨o, e⟩ := R.fb a ha
      exact ⟨o, q.keep a o hx e⟩
theorem ER.chg (H : ER env ρ σ S.length h) (q : Chg D G σ S.length h h') (nb : ¬ envB env D) : ER env ρ σ S.length h' := by
  refine ⟨H.kind, H.gl, H.bi, H.off, ?_, fun x hx => ?_, H.dom, H.cinj⟩
  · obtain ⟨m, ⟨o, es, ep, ho, hr⟩, hv⟩ := H.ns
    exact ⟨m, ⟨o, es, ep, q.keep _ _ (fun x => nb (.inl x.symm)) ho, hr⟩, fun x pv a b => let ⟨v, c, d⟩ := hv x pv a b; ⟨v, c, d.chg q⟩⟩
  · obtain ⟨c, vo, h1, ⟨o, ho, hd⟩, h3⟩ := H.cell x hx
    exact ⟨c, vo, h1, ⟨o, q.keep _ _ (fun y => nb (.inr ⟨x, hx, y ▸ h1⟩)) ho, hd⟩, fun pv hp => let ⟨v, a, b⟩ := h3 pv hp; ⟨v, a, b.chg q⟩⟩
theorem Stk.chg (H : Stk G A σ S.length h) (q : Chg D G σ S.length h h') (nd : ∀ o, h.get? D = some o → ∀ es n, o.data ≠ .dict es n) : Stk G A σ S.length h' := by
  obtain ⟨l, hl, hf, ho⟩ := H.fr
  have hk : ∀ env ∈ l, ∀ L, env.frame = some L → ∀ o, h.get? L = some o → h'.get? L = some o := fun env he L hL o e => by
    obtain ⟨_, o', es, n, h3, h4⟩ := ho env he L hL
    exact q.keep L o (fun x => nd o' (x ▸ h3) _ _ h4.1) e
  refine ⟨H.top, l, hl, ?_, fun env he L hL => ?_⟩
  · have : ∀ l' : List Env, (∀ env ∈ l', ∀ L, env.frame = some L → ∀ o, h.get? L = some o → h'.get? L = some o) → h.FunFrames G l' → h'.FunFrames G l' := by
      intro l'
      induction l' with
      | nil => intro _ _; trivial
      | cons e r ih =>
        intro ho ⟨hk, ⟨L, o, h1, h2, h3, h4⟩, hr⟩
        exact ⟨hk, ⟨L, o, h1, h2, ho e (.head _) L h1 o h3, h4⟩, ih (fun env he => ho env (.tail _ he)) hr⟩
    exact this l hk hf
  · obtain ⟨h1, o, es, n, h3, h4⟩ := ho env he L hL
    exact ⟨h1, o, es, n, hk env he L hL o h3, h4⟩
theorem VRs.snoc {N : Nat} {vs : Array Value} {ps : List PV} {v : Value} {p : PV} (a : VRs σ N h vs ps) (b : VR σ N h v p) : VRs σ N h (vs.push v) (ps ++ [p]) := by
  refine ⟨by simp [a.1], fun i u q e1 e2 => ?_⟩
  rw [Array.getElem?_push] at e1
  by_cases hi : i = vs.size
  · rw [if_pos hi] at e1
    cases e1
    rw [hi, a.1] at e2
    simp at e2
    subst e2; exact b
  · rw [if_neg hi] at e1
    have hlt : i < vs.size := (Array.getElem?_eq_some_iff.mp e1).1
    rw [List.getElem?_append_left (by rw [← a.1]; exact hlt)] at e2
    exact a.2 i u q e1 e2
end

section
variable {prog : Program} {w : World} {mg : Str → Option Value} {G : Heap} {k : Nat} {env : Env} {ρ ρc ρ₁ ρ₂ : Vars} {S S₁ S₂ S' : List PO}

theorem comp_loop {A : Around} {wr : List Addr} {it : Value} {tgt iter elt : Expr} {ifs : List Expr} {scope : Scope} {pos : Pos} {ps : List PV} {need : List PO → Prop} {J : Lo → Heap → Nat → Prop} {C D : Addr} (Sr : Src prog w G A wr it tgt ps need J)
    (O : Own G (cenvOf scope env C)) {h₀ : Heap} {σ₀ : Lo} {N₀ : Nat} {R : Result → Shared → Prop} {s₀ : Shared} (hwr : ∀ a ∈ wr, h₀.get? a = none) (hFw : ∀ a, σ₀.F a → a ∉ wr) (htg : ∀ a, tgB (cenvOf scope env C) tgt a → h₀.get? a = none)
    (hD0 : h₀.get? D = none) (hDG : G.get? D = none) (hDB : ¬ envB (cenvOf scope env C) D) (hDw : D ∉ wr) {qs : List PV} {S₂ : List PO} {c : List PV} (hsz : c.length + ps.length ≤ sizeLine)
    (fin : ∀ (σ' : Lo) (h' : Heap) (tk' : Nat) (ys : Array Value) (n : Nat), Rel w.params G ⟨σ'.p, σ₀.F⟩ S₂ h' → Ext σ₀ N₀ h₀ ⟨σ'.p, σ₀.F⟩ S₂.length h' → h'.get? D = some { cls := .type "list", data := .seq ys n } → VRs ⟨σ'.p, σ₀.F⟩ S₂.length h' ys (c ++ qs) →
      (∀ i, i < S₂.length → D ≠ σ'.p i) → ER (cenvOf scope env C) ρc ⟨σ'.p, σ₀.F⟩ S₂.length h' → R (.ok .next) { s₀ with heap := h', toks := tk' }) :
    ∀ (n : Nat) (i : Nat) (dn rs : List PV) (S : List PO) (σ : Lo) (h : Heap) (tk : Nat), ps.length = i + n → qs = dn ++ rs → dn.length ≤ i → CompR (CompStep prog w mg G k env scope ρc tgt ifs elt) need (ps.drop i) S rs S₂ → need S → J σ h i →
      Sit w.params mg G A k (cenvOf scope env C) ρc σ S h → (∃ ys n, h.get? D = some { cls := .type "list", data := .seq ys n } ∧ VRs σ S.length h ys (c ++ dn)) → (∀ i, i < S.length → D ≠ σ.p i) →
      (∀ a, σ₀.F a → σ.F a) → Ext σ₀ N₀ h₀ ⟨σ.p, σ₀.F⟩ S.length h →
      codeAny (model prog w) A (.compLoop (.ListComp elt [⟨tgt, iter, ifs, 0⟩] scope pos) 0 it (.ref D) (cenvOf scope env C)) R { s₀ with heap := h, toks := tk } := by
  intro n
  induction n with
  | zero =>
    intro i dn rs S σ h tk hn hq hd L hS hJ T hl hDσ hF0 X
    have hdr : ps.drop i = [] := List.drop_eq_nil_of_le (by omega)
    rw [hdr] at L
    cases L
    have hi : i = ps.length := by omega
    subst hi
    rw [List.append_nil] at hq
    subst hq
    refine codeAny_comp1 (wpAny_mono (Sr.stop σ S₂ { s₀ with heap := h, toks := tk } T.rel hS hJ (fun s₁ => R (.ok .next) s₁) (fun _ _ => False) fun h' tk' q => ?_) (fun r s₁ hr => by rw [hr.1]; exact hr.2) fun _ _ q => q)
    have pv := Sr.prv σ S₂ _ _ T.rel hJ
    obtain ⟨ys, m, e, V⟩ := hl
    refine fin σ h' tk' ys m (T.rel.quietDrop pv q hF0 hFw) ⟨X.len, X.same, X.sameF, X.new, fun a o e f => (X.keep a o e f).trans fun o' e' => KeepO.refl (q a o' (fun hm => by rw [hwr a hm] at e; cases e) e')⟩ (q _ _ hDw e)
      ⟨V.1, fun i v p a b => VR.mono (σ := σ) (σ' := ⟨σ.p, σ₀.F⟩) (Nat.le_refl _) (fun _ _ => rfl) hF0 (fun _ _ e _ => e) ((V.2 i v p a b).quiet pv q)⟩ hDσ ((T.er.quiet pv q).weakF (fun _ => rfl) hF0)
  | succ n ih =>
    intro i dn rs S σ h tk hn hq hd L hS hJ T hl hDσ hF0 X
    have hlt : i < ps.length := by omega
    have hdr : ps.drop i = ps[i] :: ps.drop (i + 1) := List.drop_eq_getElem_cons hlt
    rw [hdr] at L
    have main : ∀ r S', CompStep prog w mg G k env scope ρc tgt ifs elt ps[i] S r S' → need S' →
        (∀ (σ' : Lo) (h' : Heap) (tk' : Nat), J σ' h' (i + 1) → Sit w.params mg G A k (cenvOf scope env C) ρc σ' S' h' → (∃ ys n, h'.get? D = some { cls := .type "list", data := .seq ys n } ∧ VRs σ' S'.length h' ys (c ++ (dn ++ r.toList))) →
          (∀ i, i < S'.length → D ≠ σ'.p i) → (∀ a, σ₀.F a → σ'.F a) → Ext σ₀ N₀ h₀ ⟨σ'.p, σ₀.F⟩ S'.length h' →
          codeAny (model prog w) A (.compLoop (.ListComp elt [⟨tgt, iter, ifs, 0⟩] scope pos) 0 it (.ref D) (cenvOf scope env C)) R { s₀ with heap := h', toks := tk' }) →
        codeAny (model prog w) A (.compLoop (.ListComp elt [⟨tgt, iter, ifs, 0⟩] scope pos) 0 it (.ref D) (cenvOf scope env C)) R { s₀ with heap := h, toks := tk } := by
      intro r S' hstep hS' go
      refine codeAny_comp1 (wpAny_mono (Sr.next σ S { s₀ with heap := h, toks := tk } i ps[i] T.rel hS hJ (by simp [hlt]) (fun v s₂ => wpAny (model prog w) A (assign tgt (cenvOf scope env C) v) (fun _ s₂ =>
          wpAny (model prog w) A (forIn ifs true fun c r => if r = true then do let ok ← isTrue c (cenvOf scope env C) (eval c (cenvOf scope env C)); pure (ForInStep.yield ok) else pure (ForInStep.yield r)) (fun ok s₃ =>
            if ok = true then wpAny (model prog w) A (eval elt (cenvOf scope env C)) (fun x s₄ =>
              wpAny (model prog w) A (PySem.call (.builtin "list.append") [.ref D, x]) (fun _ s₅ => codeAny (model prog w) A (.compLoop (.ListComp elt [⟨tgt, iter, ifs, 0⟩] scope pos) 0 it (.ref D) (cenvOf scope env C)) R s₅) (fun _ _ => False) s₄) (fun _ _ => False) s₃
            else codeAny (model prog w) A (.compLoop (.ListComp elt [⟨tgt, iter, ifs, 0⟩] scope pos) 0 it (.ref D) (cenvOf scope env C)) R s₃) (fun _ _ => False) s₂) (fun _ _ => False) s₂) (fun _ _ => False) fun v h₁ tk₁ V q al hJ₁ => ?_) (fun r s₁ hr => ?_) fun _ _ q => q)
      · have pv := Sr.prv σ S _ _ T.rel hJ
        have T₁ := T.quiet pv q al
        have pv₁ := Sr.prv σ S _ _ T₁.rel hJ₁
        obtain ⟨ys, m, eD, VD⟩ := hl
        have eD₁ := q _ _ hDw eD
        have VD₁ : VRs σ S.length h₁ ys (c ++ dn) := ⟨VD.1, fun i v p a b => (VD.2 i v p a b).quiet pv q⟩
        have X₁ : Ext σ₀ N₀ h₀ ⟨σ.p, σ₀.F⟩ S.length h₁ := ⟨X.len, X.same, X.sameF, X.new, fun a o e f => (X.keep a o e f).trans fun o' e' => KeepO.refl (q a o' (fun hm => by rw [hwr a hm] at e; cases e) e')⟩
        have asg : ∀ ρ₁, ASG prog w mg G k (cenvOf scope env C) tgt ps[i] ρc ρ₁ S → ∀ (Q : Unit → Shared → Prop), (∀ h₂ tk₂, Sit w.params mg G A k (cenvOf scope env C) ρ₁ σ S h₂ → J σ h₂ (i + 1) → h₂.get? D = some { cls := .type "list", data := .seq ys m } → VRs σ S.length h₂ ys (c ++ dn) →
            Ext σ₀ N₀ h₀ ⟨σ.p, σ₀.F⟩ S.length h₂ → Q () { s₀ with heap := h₂, toks := tk₂ }) → wpAny (model prog w) A (assign tgt (cenvOf scope env C) v) Q (fun _ _ => False) { s₀ with heap := h₁, toks := tk₁ } := by
          intro ρ₁ ha Q HQ
          refine ha.run A σ _ v T₁ O V _ _ fun h₂ tk₂ R₂ X₂ E₂ => ?_
          have X₂' : ExtX (cenvOf scope env C) σ S.length h₁ σ S.length h₂ := X₂.weaken fun _ q => q.env
          refine HQ h₂ tk₂ (T₁.extX R₂ X₂' E₂) ?_ ((X₂.keep D _ eD₁ hDσ fun hb => hDB hb.env).same (by simp)) (VD₁.extX T₁.rel T₁.er X₂') ⟨X₁.len, X₁.same, X₁.sameF, X₁.new, fun a o e f => (X₁.keep a o e f).trans fun o' e' => X₂.keep a o' e' (fun j hj => ?_) fun hb => by rw [htg a hb] at e; cases e⟩
          · exact Sr.keep σ S σ h₁ h₂ (i + 1) T₁.rel hS (fun _ _ => rfl) (fun a fa => fa) (fun a o f ha e => X₂.keep a o e f fun hb => pv₁.offB T₁.er hb.env ha) hJ₁
          · by_cases hq : j < N₀
            · have : σ.p j = σ₀.p j := X₁.same j hq
              rw [this]; exact f j hq
            · intro ea
              have h1 : h₀.get? (σ.p j) = none := X₁.new j (Nat.le_of_not_lt hq) hj
              rw [← ea, e] at h1; cases h1
        have offD : ∀ (σ₃ : Lo) (h₂ h₃ : Heap) (N₃ : Nat), h₂.get? D = some { cls := .type "list", data := .seq ys m } → Ext σ S.length h₂ σ₃ N₃ h₃ → ∀ j, j < N₃ → D ≠ σ₃.p j := fun σ₃ h₂ h₃ N₃ e X₃ j hj q => by
          by_cases hq : j < S.length
          · rw [X₃.same j hq] at q; exact hDσ j hq q
          · have := X₃.new j (Nat.le_of_not_lt hq) hj
            rw [← q, e] at this; cases this
        cases hstep with
        | skip ρ₁ hw hh =>
          obtain ⟨ha, hi⟩ := hh C
          refine asg ρ₁ ha _ fun h₂ tk₂ T₂ hJ₂ eD₂ VD₂ X₂ => ?_
          refine hi.run T₂ fun σ₃ h₃ tk₃ R₃ X₃ => ?_
          rw [if_neg (by simp)]
          have T₃ := T₂.ext R₃ X₃
          have pv₂ := Sr.prv σ S _ _ T₂.rel hJ₂
          refine go σ₃ h₃ tk₃ (Sr.keep σ S σ₃ h₂ h₃ (i + 1) T₂.rel hS X₃.same (fun a fa => (X₃.sameF a).mpr fa) (fun a o f _ e => X₃.keep a o e f) hJ₂) ⟨T₃.gd, T₃.room, T₃.stk, T₃.rel, T₃.er.less hw, O⟩
            ⟨ys, m, (X₃.keep D _ eD₂ hDσ).same (by simp), by simpa using VD₂.ext T₂.rel X₃⟩ (offD σ₃ h₂ h₃ _ eD₂ X₃) (fun a fa => (X₃.sameF a).mpr (hF0 a fa)) (Ext.trans (T₂.rel.weakF (σ' := ⟨σ.p, σ₀.F⟩) (fun _ => rfl) hF0) X₂ (X₃.refF σ₀.F))
        | take ρ₁ S₃ hw hh =>
          rename_i qv
          obtain ⟨ha, hi, he⟩ := hh C
          refine asg ρ₁ ha _ fun h₂ tk₂ T₂ hJ₂ eD₂ VD₂ X₂ => ?_
          refine hi.run T₂ fun σ₃ h₃ tk₃ R₃ X₃ => ?_
          rw [if_pos rfl]
          have T₃ := T₂.ext R₃ X₃
          refine he.run A σ₃ _ T₃ _ _ fun u σ₄ h₄ tk₄ R₄ X₄ V₄ => ?_
          have X24 := Ext.trans R₃ X₃ X₄
          have T₄ := T₂.ext R₄ X24
          have eD₄ := (X24.keep D _ eD₂ hDσ).same (by simp)
          have VD₄ := VD₂.ext T₂.rel X24
          have hD₄ := offD σ₄ h₂ h₄ _ eD₂ X24
          have hJ₄ := Sr.keep σ S σ₄ h₂ h₄ (i + 1) T₂.rel hS X24.same (fun a fa => (X24.sameF a).mpr fa) (fun a o f _ e => X24.keep a o e f) hJ₂
          refine wpAny_list_append_plain (s := { s₀ with heap := h₄, toks := tk₄ }) (l := D) (items := ys) ⟨m, eD₄⟩ (fun h₅ hl₅ hs₅ => ?_) (by have := VD₄.1; simp at this; omega)
          obtain ⟨m₅, eD₅⟩ := hl₅
          have cg : Chg D G σ₄ S'.length h₄ h₅ := ⟨fun a o hn e => hs₅.extBut a o hn e, fun _ => ⟨_, eD₅⟩, hD₄, hDG, fun o e => by rw [eD₄] at e; cases e; simp⟩
          have R₅ := R₄.chg cg
          refine go σ₄ h₅ tk₄ (Sr.keep σ₄ S' σ₄ h₄ h₅ (i + 1) R₄ hS' (fun _ _ => rfl) (fun a fa => fa) (fun a o f ha e => KeepO.refl (cg.keep a o (fun q => hDw (q ▸ ha)) e)) hJ₄)
            ⟨T₄.gd, T₄.room, T₄.stk.chg cg (fun o e => by rw [eD₄] at e; cases e; simp), R₅, (T₄.er.less hw).chg cg hDB, O⟩ ⟨ys.push u, m₅, eD₅, ?_⟩ hD₄ (fun a fa => (X24.sameF a).mpr (hF0 a fa)) ?_
          · have V5 : VRs σ₄ S'.length h₅ ys (c ++ dn) := ⟨VD₄.1, fun i v p a b => (VD₄.2 i v p a b).chg cg⟩
            have := V5.snoc (V₄.chg cg)
            simpa using this
          · have X04 := Ext.trans (T₂.rel.weakF (σ' := ⟨σ.p, σ₀.F⟩) (fun _ => rfl) hF0) X₂ (X24.refF σ₀.F)
            exact ⟨X04.len, X04.same, X04.sameF, X04.new, fun a o e f => (X04.keep a o e f).trans fun o' e' => KeepO.refl (cg.keep a o' (fun q => by rw [q, hD0] at e; cases e) e')⟩
      · obtain ⟨v, rfl, hv⟩ := hr
        exact hv
    cases L with
    | skip h1 h2 h3 => exact main _ _ h1 h2 fun σ' h' tk' j' T' l' d' f' x' => ih (i + 1) dn rs _ σ' h' tk' (by omega) hq (by omega) h3 h2 j' T' (by simpa using l') d' f' x'
    | take h1 h2 h3 =>
      rename_i q qs' S'
      exact main _ _ h1 h2 fun σ' h' tk' j' T' l' d' f' x' => ih (i + 1) (dn ++ [q]) qs' _ σ' h' tk' (by omega) (by rw [hq]; simp) (by simp; omega) h3 h2 j' T' (by simpa using l') d' f' x'

theorem Ext.old {P : Params} {σ σ' : Lo} {h h' : Heap} (R' : Rel P G σ' S' h') (X : Ext σ S.length h σ' S'.length h') {a : Addr} {o : Obj} (e : h.get? a = some o) : ∃ o', h'.get? a = some o' := by
  by_cases hs : ∃ j, j < S.length ∧ a = σ.p j
  · obtain ⟨j, hj, ej⟩ := hs
    obtain ⟨ob, eo⟩ := R'.alive (Nat.lt_of_lt_of_le hj X.len)
    rw [X.same j hj, ← ej] at eo
    exact ⟨ob, eo⟩
  · obtain ⟨o', e', _⟩ := X.keep _ _ e fun j hj ej => hs ⟨j, hj, ej⟩
    exact ⟨o', e'⟩
noncomputable def Lo.put (σ : Lo) (n : Nat) (D : Addr) : Lo := ⟨fun i => if i = n then D else σ.p i, σ.F⟩
theorem VR.put {σ : Lo} {N : Nat} {h : Heap} {D : Addr} {v : Value} {p : PV} (V : VR σ N h v p) : VR (σ.put N D) (N + 1) h v p :=
  VR.mono (σ := σ) (σ' := σ.put N D) (Nat.le_succ _) (fun i hi => by show (if i = N then D else σ.p i) = _; rw [if_neg (Nat.ne_of_lt hi)]) (fun _ q => q) (fun _ _ e _ => e) V
theorem OR.put {P : Params} {σ : Lo} {N : Nat} {h : Heap} {D a : Addr} {o : PO} (Q : OR P σ N h a o) : OR P (σ.put N D) (N + 1) h a o := by
  cases o with
  | list l =>
    obtain ⟨us, n, h1, h2, h3⟩ := Q
    exact ⟨us, n, h1, h2, fun i v p' a b => (h3 i v p' a b).put⟩
  | dict l ep =>
    obtain ⟨es, n, h1, h2, h3⟩ := Q
    exact ⟨es, n, h1, h2, fun i e kv a b => ⟨⟨(h3 i e kv a b).1.1.put, (h3 i e kv a b).1.2.put⟩, (h3 i e kv a b).2⟩⟩
  | blank => exact Q
  | bound n id =>
    obtain ⟨v, h1, h2⟩ := Q
    exact ⟨v, h1, h2.put⟩
  | tab p =>
    obtain ⟨ha, v, h1, h2⟩ := Q
    exact ⟨ha, v, h1, h2⟩
theorem Rel.addObj {P : Params} {σ : Lo} {h : Heap} (R : Rel P G σ S h) {o : PO} {D : Addr} (hO : OR P σ S.length h D o) (off : ∀ i, i < S.length → D ≠ σ.p i) (hG : G.get? D = none) : Rel P G (σ.put S.length D) (S ++ [o]) h := by
  have e1 : ∀ i, i < S.length → (σ.put S.length D).p i = σ.p i := fun i hi => by show (if i = S.length then D else σ.p i) = _; rw [if_neg (Nat.ne_of_lt hi)]
  have e2 : (σ.put S.length D).p S.length = D := by show (if S.length = S.length then D else _) = _; rw [if_pos rfl]
  refine ⟨R.ground, fun i o' e => ?_, fun i hi => ?_, fun i j hi hj e => ?_, R.fb⟩
  · rw [List.length_append, List.length_singleton]
    by_cases hi : i < S.length
    · rw [List.getElem?_append_left hi] at e
      rw [e1 i hi]; exact (R.objs i o' e).put
    · have hl := (List.getElem?_eq_some_iff.mp e).1
      rw [List.length_append, List.length_singleton] at hl
      have : i = S.length := by omega
      subst this
      simp at e
      subst e
      rw [e2]; exact hO.put
  · rw [List.length_append, List.length_singleton] at hi
    by_cases h' : i < S.length
    · rw [e1 i h']; exact R.fresh i h'
    · have : i = S.length := by omega
      subst this
      rw [e2]; exact hG
  · rw [List.length_append, List.length_singleton] at hi hj
    by_cases hi' : i < S.length <;> by_cases hj' : j < S.length
    · rw [e1 i hi', e1 j hj'] at e; exact R.inj i j hi' hj' e
    · have : j = S.length := by omega
      subst this
      rw [e1 i hi', e2] at e
      exact absurd e.symm (off i hi')
    · have : i = S.length := by omega
      subst this
      rw [e2, e1 j hj'] at e
      exact absurd e (off j hj')
    · omega

theorem comp_core {A : Around} {σ : Lo} {s : Shared} {iter tgt elt : Expr} {ifs : List Expr} {scope : Scope} {pos : Pos} {ps qs : List PV} {need : List PO → Prop} {E : Value → Shared → Prop} (T : Sit w.params mg G A k env ρ σ S s.heap) (O : Own G env)
    (hi : ITR prog w mg G k env ρ S iter tgt ps need S₁) (ok : ScOk scope env) (hρ : ∀ x p, ρc.lookup x = some p → (x, NameKind.free) ∈ scope.names ∧ ρ.lookup x = some p)
    (htn : ∀ x ∈ tgNames tgt, (x, NameKind.local) ∈ scope.names ∨ (x, NameKind.cell) ∈ scope.names) (L : CompR (CompStep prog w mg G k env scope ρc tgt ifs elt) need ps S₁ qs S₂) (hsz : ps.length ≤ sizeLine) {RR : Value → Addr → Result → Shared → Prop}
    (fin : ∀ D C σ' h' tk', Rel w.params G σ' (S₂ ++ [.list qs]) h' → Ext σ S.length s.heap σ' (S₂ ++ [PO.list qs]).length h' → σ'.p S₂.length = D → (∃ m, h'.Ns C m) → (∀ i, i < (S₂ ++ [PO.list qs]).length → C ≠ σ'.p i) → G.get? C = none → s.heap.get? C = none →
      RR (.ref D) C (.ok .next) { s with heap := h', toks := tk' }) :
    wpAny (model prog w) A (eval iter env) (fun x s₁ => wpAny (model prog w) A (pyIter x) (fun it s₂ => wpAny (model prog w) A (newList []) (fun acc s₃ =>
      wpAny (model prog w) A (newFunctionEnv scope env.globals (clos scope env) [] env.qual none .none (some env)) (fun cenv s₄ =>
        codeAny (model prog w) A (.compStart (.ListComp elt [⟨tgt, iter, ifs, 0⟩] scope pos) 0 it acc { cenv with scope := relabel scope env }) (RR acc cenv.locals) s₄) E s₃) E s₂) E s₁) E s := by
  refine hi.run A σ s T _ _ fun it wr J σ' h' tk' Sr hwr hJ hS R' X' => ?_
  have R'' : Rel w.params G σ' S₁ h' := R'.weakF (fun _ => rfl) (fun a q => .inl q)
  have old : ∀ a o, s.heap.get? a = some o → ∃ o', h'.get? a = some o' := fun a o e => X'.old R'' e
  have T' : Sit w.params mg G A k env ρ (σ'.add wr) S₁ h' := ⟨T.gd, T.room, ⟨T.stk.top, let ⟨l, a, b, c⟩ := (T.ext R'' X').stk.fr; ⟨l, a, b, c⟩⟩, R', T.er.extAdd T.rel X' hwr, T.own⟩
  refine wpAny_newObj_type (newEnvC ?_ T.er.bi)
  have hk1 : ∀ a o, h'.get? a = some o → (h'.push { cls := .type "list", data := .seq ([] : List Value).toArray }).get? a = some o := fun a o e => Heap.get?_push_of_some _ e
  generalize hh1 : h'.push { cls := .type "list", data := .seq ([] : List Value).toArray } = h₁ at hk1
  have sz1 : h₁.objs.size = h'.objs.size + 1 := by rw [← hh1]; exact Heap.size_push ..
  have eD1 : h₁.get? h'.objs.size = some { cls := .type "list", data := .seq #[] } := by rw [← hh1]; exact Heap.get?_push_size _ rfl
  have T₁ := T'.keeps hk1
  generalize hh2 : pushCells (h₁.push { cls := .type "dict", data := .dict #[] }) scope.names = h₂
  obtain ⟨E₂, O₂, hk2, above⟩ := cenvER (h' := h₂) T₁.rel T₁.er ok hρ hh2.symm
  have T₂ : Sit w.params mg G A k (cenvOf scope env h₁.objs.size) ρc (σ'.add wr) S₁ h₂ := ⟨T₁.gd, T₁.room, (T₁.keeps hk2).stk, (T₁.keeps hk2).rel, E₂, O₂ O⟩
  have eD2 := hk2 _ _ eD1
  have frH : ∀ a, h'.objs.size ≤ a → h'.get? a = none := fun a ha => by
    cases q : h'.get? a with
    | none => rfl
    | some o => exact absurd (Heap.lt_size q) (Nat.not_lt.mpr ha)
  have frS : ∀ a, h'.objs.size ≤ a → s.heap.get? a = none := fun a ha => by
    cases q : s.heap.get? a with
    | none => rfl
    | some o => obtain ⟨o', e⟩ := old a o q; rw [frH a ha] at e; cases e
  have frG : ∀ a, h'.objs.size ≤ a → G.get? a = none := fun a ha => by
    cases q : G.get? a with
    | none => rfl
    | some o => have := R'.ground _ _ q; rw [frH a ha] at this; cases this
  have pv := Sr.prv _ _ _ _ R' hJ
  have hDw : h'.objs.size ∉ wr := fun hm => by obtain ⟨_, _, o, e, _⟩ := pv _ hm; rw [frH _ (Nat.le_refl _)] at e; cases e
  have hkw : ∀ a o, h'.get? a = some o → h₂.get? a = some o := fun a o e => hk2 _ _ (hk1 _ _ e)
  have hJ₂ : J (σ'.add wr) h₂ 0 := Sr.keep _ S₁ _ h' h₂ 0 R' hS (fun _ _ => rfl) (fun _ q => q) (fun a o _ _ e => KeepO.refl (hkw a o e)) hJ
  have hDB : ¬ envB (cenvOf scope env h₁.objs.size) h'.objs.size := fun hb => by
    rcases hb with hb | ⟨x, hkx, hc⟩
    · have : h'.objs.size = h₁.objs.size := hb
      omega
    · obtain ⟨c, vo, h3, ⟨o, ho, hd⟩, _⟩ := E₂.cell x hkx
      rw [hc] at h3; cases h3
      rw [eD2] at ho; cases ho
      cases hd
  have htg : ∀ a, tgB (cenvOf scope env h₁.objs.size) tgt a → s.heap.get? a = none := fun a ⟨x, hx, hb⟩ => by
    rcases hb with ⟨_, rfl⟩ | ⟨hkx, hc⟩
    · exact frS _ (by show h'.objs.size ≤ h₁.objs.size; omega)
    · rcases htn x hx with hm | hm
      · exfalso
        have e : (cenvOf scope env h₁.objs.size).kindOf x = (relabel scope env).names.lookup x := rfl
        rw [e, relabel_look, look_nodup ok.nodup hm] at hkx
        simp at hkx
      · have := above x a hm hc
        exact frS _ (by omega)
  have X2 : Ext σ S.length s.heap ⟨(σ'.add wr).p, σ.F⟩ S₁.length h₂ := ⟨X'.len, X'.same, fun _ => Iff.rfl, X'.new, fun a o e f => (X'.keep a o e f).trans fun o' e' => KeepO.refl (hkw a o' e')⟩
  have hFw : ∀ a, σ.F a → a ∉ wr := fun a fa hm => by obtain ⟨o, e⟩ := T.rel.fb a fa; rw [hwr a hm] at e; cases e
  have loop := comp_loop (prog := prog) (w := w) (mg := mg) (k := k) (env := env) (ρc := ρc) (iter := iter) (pos := pos) (R := RR (.ref h'.objs.size) h₁.objs.size) (s₀ := s) (h₀ := s.heap) (σ₀ := σ) (N₀ := S.length) (C := h₁.objs.size) (D := h'.objs.size) (qs := qs) (S₂ := S₂) (c := [])
    Sr (O₂ O) hwr hFw htg (frS _ (Nat.le_refl _)) (frG _ (Nat.le_refl _)) hDB hDw (by simpa using hsz) (fun σ₃ h₃ tk₃ ys n R₃ X₃ eD₃ VD₃ offD E₃ => by
      have hO : OR w.params ⟨σ₃.p, σ.F⟩ S₂.length h₃ h'.objs.size (.list qs) := ⟨ys, n, eD₃, by simpa using VD₃⟩
      refine fin _ _ (Lo.put ⟨σ₃.p, σ.F⟩ S₂.length h'.objs.size) h₃ tk₃ (R₃.addObj hO offD (frG _ (Nat.le_refl _))) ?_ ?_ ?_ ?_ (frG _ (by omega)) (frS _ (by omega))
      · refine ⟨by rw [List.length_append]; exact Nat.le_trans X₃.len (Nat.le_add_right _ _), fun i hi => ?_, X₃.sameF, fun i h1 h2 => ?_, X₃.keep⟩
        · show (if i = S₂.length then _ else _) = _
          rw [if_neg (by have := X₃.len; omega)]
          exact X₃.same i hi
        · show s.heap.get? (if i = S₂.length then _ else _) = _
          split
          · exact frS _ (Nat.le_refl _)
          · rename_i hne
            exact X₃.new i h1 (by rw [List.length_append, List.length_singleton] at h2; omega)
      · show (if S₂.length = S₂.length then _ else _) = _
        rw [if_pos rfl]
      · obtain ⟨m, hm, _⟩ := E₃.ns
        exact ⟨m, hm⟩
      · intro i hi' q
        rw [List.length_append, List.length_singleton] at hi'
        have q' : h₁.objs.size = (if i = S₂.length then h'.objs.size else σ₃.p i) := q
        split at q'
        · omega
        · rename_i hne
          exact E₃.off i (by omega) q')
    ps.length 0 [] qs S₁ (σ'.add wr) h₂ tk' (by omega) rfl (Nat.le_refl _) (by simpa using L) hS hJ₂ T₂ ⟨#[], 0, eD2, by simpa using VRs.nil⟩ (fun i hi q => by
      obtain ⟨o, e⟩ := R'.alive hi
      rw [← q, frH _ (Nat.le_refl _)] at e; cases e) (fun a fa => .inl ((X'.sameF a).mpr fa)) X2
  exact codeAny_compStart_list loop (Sr.self (σ'.add wr) S₁ { s with heap := h₂, toks := tk' } 0 T₂.rel hJ₂ _ _ loop)
end
set_option tactic.hygienic false

section
variable {prog : Program} {w : World} {mg : Str → Option Value} {G : Heap} {k : Nat} {env : Env} {ρ ρc ρ₁ ρ₂ : Vars} {S S₁ S₂ S' : List PO}

theorem letGo_end {P : Params} {σ σ' : Lo} {h h' h'' : Heap} {C : Addr} (R : Rel P G σ S h) (R' : Rel P G σ' S' h') (X : Ext σ S.length h σ' S'.length h') (hm : ∃ m, h'.Ns C m) (hC : ∀ i, i < S'.length → C ≠ σ'.p i) (hG : G.get? C = none) (h0 : h.get? C = none)
    (hs : Heap.SameBut C h' h'') : Rel P G σ' S' h'' ∧ Ext σ S.length h σ' S'.length h'' ∧ (∀ v p, VR σ' S'.length h' v p → VR σ' S'.length h'' v p) := by
  have cg : Chg C G σ' S'.length h' h'' := ⟨fun a o hn e => hs.extBut a o hn e, fun hF => by
    obtain ⟨o, e⟩ := R.fb C ((X.sameF C).mp hF)
    rw [h0] at e; (cases e), hC, hG, fun o e _ vs n hd => by
    obtain ⟨m, o', es, ep, ho, hd', _⟩ := hm
    rw [e] at ho; cases ho
    rw [hd] at hd'; cases hd'⟩
  exact ⟨R'.chg cg, ⟨X.len, X.same, X.sameF, X.new, fun a o e f => (X.keep a o e f).trans fun o' e' => KeepO.refl (cg.keep a o' (fun q => by rw [q, h0] at e; cases e) e')⟩, fun v p V => V.chg cg⟩

theorem clos_ok {scope : Scope} {σ : Lo} {h : Heap} (H : ER env ρ σ S.length h) (ok : ScOk scope env) : closureFor scope env = pure (clos scope env) :=
  closureFor_is fun x hx hf => by
    obtain ⟨c, vo, e, _⟩ := H.cell x.1 (ok.free x hx hf)
    rw [e]; rfl

theorem EV.comp {iter tgt elt : Expr} {ifs : List Expr} {scope : Scope} {pos : Pos} {ps qs : List PV} {need : List PO → Prop} (hi : ITR prog w mg G k env ρ S iter tgt ps need S₁) (ok : ScOk scope env)
    (hρ : ∀ x p, ρc.lookup x = some p → (x, NameKind.free) ∈ scope.names ∧ ρ.lookup x = some p) (htn : ∀ x ∈ tgNames tgt, (x, NameKind.local) ∈ scope.names ∨ (x, NameKind.cell) ∈ scope.names)
    (L : CompR (CompStep prog w mg G k env scope ρc tgt ifs elt) need ps S₁ qs S₂) (hsz : ps.length ≤ sizeLine) (hs : ∀ x, foldedSetIterable iter env x = pure x := by intro _; rfl) :
    EV prog w mg G k env ρ S (.ListComp elt [⟨tgt, iter, ifs, 0⟩] scope pos) (.obj S₂.length) (S₂ ++ [.list qs]) := Lock.mk fun A σ s T Q E H => by
  rw [eval_ListComp]
  refine wpAny_comprehension_free (use := Option.none) rfl hs (clos_ok T.er ok) ok.kind (fun x hx hl => look_nodup ok.nodup (hl ▸ hx)) ?_
  refine comp_core (RR := fun acc C => compPost (model prog w) A E Option.none Q acc C) T T.own hi ok hρ htn L hsz fun D C σ' h' tk' R' X' hD hm hC hG h0 => ?_
  obtain ⟨mm, hmm⟩ := id hm
  refine ⟨mm, hmm, fun h'' hs'' => ?_⟩
  obtain ⟨R2, X2, _⟩ := letGo_end T.rel R' X' hm hC hG h0 hs''
  have V := VR.obj (σ := σ') (N := (S₂ ++ [PO.list qs]).length) (h := h'') S₂.length (by simp)
  rw [hD] at V
  exact H (.ref D) σ' h'' tk' R2 X2 V

theorem EX.assignComp {y : Str} {py spos : Pos} {iter tgt elt : Expr} {ifs : List Expr} {scope : Scope} {pos : Pos} {ps qs : List PV} {need : List PO → Prop} (hi : ITR prog w mg G k env ρ S iter tgt ps need S₁) (ok : ScOk scope env)
    (hρ : ∀ x p, ρc.lookup x = some p → (x, NameKind.free) ∈ scope.names ∧ ρ.lookup x = some p) (htn : ∀ x ∈ tgNames tgt, (x, NameKind.local) ∈ scope.names ∨ (x, NameKind.cell) ∈ scope.names)
    (L : CompR (CompStep prog w mg G k env scope ρc tgt ifs elt) need ps S₁ qs S₂) (hsz : ps.length ≤ sizeLine) (hy : env.kindOf y = some .local)
    (hsw : swapsWith (.ListComp elt [⟨tgt, iter, ifs, 0⟩] scope pos) (some (.Name y py)) spos.line env = pure true) (hs : ∀ x, foldedSetIterable iter env x = pure x := by intro _; rfl) :
    EX prog w mg G k env ρ S (.Assign [.Name y py] (.ListComp elt [⟨tgt, iter, ifs, 0⟩] scope pos) spos) (.next (upd ρ y (.obj S₂.length)) (S₂ ++ [.list qs])) := Lock.mk fun A σ s T O Q E H => by
  rw [exec_Assign_Name_used _ _ _ _ hsw]
  refine wpAny_bind (wpAny_standAt (wpAny_bind ?_))
  show wpAny _ A (do let _ ← comprehension (.ListComp elt [⟨tgt, iter, ifs, 0⟩] scope pos) scope env _ (newList []) false (eval iter env) (some (PySem.assign (.Name y py) env))) _ _ s
  refine wpAny_bind (wpAny_mono (wpAny_comprehension_free (use := some (PySem.assign (.Name y py) env)) (Q := fun _ s' => Q .next s') rfl hs (clos_ok T.er ok) ok.kind (fun x hx hl => look_nodup ok.nodup (hl ▸ hx)) ?_) (fun _ s' hq => wpAny_pure (wpAny_pure hq)) fun _ _ e => e)
  refine comp_core (RR := fun acc C => compPost (model prog w) A E (some (PySem.assign (.Name y py) env)) (fun _ s' => Q .next s') acc C) T T.own hi ok hρ htn L hsz fun D C σ' h' tk' R' X' hD hm hC hG h0 => ?_
  have V := VR.obj (σ := σ') (N := (S₂ ++ [PO.list qs]).length) (h := h') S₂.length (by simp)
  rw [hD] at V
  have T' := T.ext R' X'
  have nb : ¬ envB env C := fun hb => by obtain ⟨o, e⟩ := T.er.alive hb; rw [h0] at e; cases e
  show wpAny _ A (PySem.assign (.Name y py) env (.ref D)) _ _ _
  refine wpAny_assign_Name (store T' T'.own (.inl hy) V fun h₂ tk₂ R₂ X₂ E₂ => ?_)
  have hm₂ : ∃ m, h₂.Ns C m := by
    obtain ⟨m, hm⟩ := hm
    exact ⟨m, Heap.Ns.keepO hm fun o e => X₂.keep C o e hC fun q => nb q.env⟩
  obtain ⟨mm, hmm⟩ := id hm₂
  refine ⟨mm, hmm, fun h₃ hs₃ => ?_⟩
  have cg : Chg C G σ' (S₂ ++ [PO.list qs]).length h₂ h₃ := ⟨fun a o hn e => hs₃.extBut a o hn e, fun hF => by
    obtain ⟨o, e⟩ := T.rel.fb C ((X'.sameF C).mp hF)
    rw [h0] at e; (cases e), hC, hG, fun o e _ vs n hd => by
    obtain ⟨m, o', es, ep, ho, hd', _⟩ := hm₂
    rw [e] at ho; cases ho
    rw [hd] at hd'; cases hd'⟩
  have X02 : ExtX env σ S.length s.heap σ' (S₂ ++ [PO.list qs]).length h₂ := ExtX.trans R' T'.er X'.toX (X₂.weaken fun _ q => q.env)
  exact H σ' h₃ tk₂ (R₂.chg cg) ⟨X02.len, X02.same, X02.sameF, X02.new, fun a o e f nb' => (X02.keep a o e f nb').trans fun o' e' => KeepO.refl (cg.keep a o' (fun q => by rw [q, h0] at e; cases e) e')⟩ (E₂.chg cg nb)
end
set_option tactic.hygienic true
set_option tactic.hygienic false

section
variable (prog : Program) (w : World) (mg : Str → Option Value) (G : Heap)
/-- the truth of a value at hand -/
noncomputable def TR (k : Nat) (S : List PO) (p : PV) (b : Bool) : Prop :=
  Lock (∀ A σ s v, Gd mg G → Room k A → Stk G A σ S.length s.heap → Rel w.params G σ S s.heap → VR σ S.length s.heap v p → ∀ Q E, PostB w.params G σ S s b S Q → wpAny (model prog w) A (truthy v) Q E s)
end
section
variable {prog : Program} {w : World} {mg : Str → Option Value} {G : Heap} {k : Nat} {env : Env} {ρ ρ₁ ρ₂ : Vars} {S S₁ S₂ S' : List PO}

theorem TR.bool {b : Bool} : TR prog w mg G k S (.bool b) b := Lock.mk fun A σ s v _ _ _ R V Q E H => by
  (first | (obtain ⟨_, rfl⟩ := VR.inv V) | (obtain rfl := VR.inv V)); exact wpAny_truthy_bool (H σ s.heap s.toks R Ext.refl)
theorem TR.int {i : Int} : TR prog w mg G k S (.int i) (i != 0) := Lock.mk fun A σ s v _ _ _ R V Q E H => by
  (first | (obtain ⟨_, rfl⟩ := VR.inv V) | (obtain rfl := VR.inv V)); exact PyProof.Rows.truthy_int (H σ s.heap s.toks R Ext.refl)
theorem TR.str {x : Str} (hx : x.length ≤ sizeLine) : TR prog w mg G k S (.str x) ((x.length : Int) != 0) := Lock.mk fun A σ s v _ _ _ R V Q E H => by
  have hb : sizeLine < 2 ^ 63 := by decide
  (first | (obtain ⟨_, rfl⟩ := VR.inv V) | (obtain rfl := VR.inv V)); exact PySem.P.truthy_str (by omega) (H σ s.heap _ R Ext.refl)
theorem TR.list {n : Nat} {l : List PV} (hn : S[n]? = some (.list l)) (hl : l.length ≤ sizeLine) : TR prog w mg G k S (.obj n) (!l.isEmpty) := Lock.mk fun A σ s v _ _ _ R V Q E H => by
  (first | (obtain ⟨_, rfl⟩ := VR.inv V) | (obtain rfl := VR.inv V))
  obtain ⟨vs, m, ho, hv⟩ := R.objs n _ hn
  have hb : sizeLine < 2 ^ 63 := by decide
  refine wpAny_truthy_list (items := vs) ⟨_, ho, rfl, m, rfl⟩ (by have := hv.1; omega) ?_
  have : (!vs.isEmpty) = !l.isEmpty := by
    have e := hv.1
    cases l with
    | nil => have : vs = #[] := Array.eq_empty_of_size_eq_zero (by simpa using e)
             subst this; rfl
    | cons a r => rw [Array.isEmpty]; simp at e; simp [e]
  show Q (!vs.isEmpty) _
  rw [this]; exact H σ s.heap _ R Ext.refl

theorem EB.val {e : Expr} {p : PV} {b : Bool} (h1 : EV prog w mg G k env ρ S e p S₁) (h2 : TR prog w mg G k S₁ p b) (he : isTrue e env (eval e env) = (do let v ← eval e env; standAt e.pos; holding [v] (truthy v)) := by rfl) :
    EB prog w mg G k env ρ S e b S₁ := Lock.mk fun A σ s T Q E H => by
  refine isTrue_plain (h1.run A σ s T _ _ fun v σ₁ h₁ tk₁ R₁ X₁ V₁ => ?_) he
  have T₁ := T.ext R₁ X₁
  exact h2.run A σ₁ _ v T₁.gd T₁.room T₁.stk T₁.rel V₁ _ _ fun σ' h' tk' R' X' => H σ' h' tk' R' (Ext.trans R₁ X₁ X')
theorem EB.cmp {l r : Expr} {op : CmpOp} {pos : Pos} {p q : PV} {b : Bool} (h1 : EV prog w mg G k env ρ S l p S₁) (h2 : EV prog w mg G k env ρ S₁ r q S₂) (h3 : OP2 prog w mg G k S₂ p q (compareOp op) (.bool b) S')
    (hm : behindInMarks op r = false := by with_unfolding_all rfl) :
    EB prog w mg G k env ρ S (.Compare l [op] [r] pos) b S' := Lock.mk fun A σ s T Q E H => by
  refine wpAny_isTrue_Compare1 (h1.run A σ s T _ _ fun v σ₁ h₁ tk₁ R₁ X₁ V₁ => ?_) hm
  have T₁ := T.ext R₁ X₁
  refine h2.run A σ₁ _ T₁ _ _ fun u σ₂ h₂ tk₂ R₂ X₂ V₂ => ?_
  have T₂ := T₁.ext R₂ X₂
  refine h3.run A σ₂ _ _ _ T₂.gd T₂.room T₂.stk T₂.rel (V₁.ext R₁ X₂) V₂ _ _ fun c σ₃ h₃ tk₃ R₃ X₃ V₃ => ?_
  (first | (obtain ⟨_, rfl⟩ := VR.inv V₃) | (obtain rfl := VR.inv V₃))
  exact wpAny_truthy_bool (H σ₃ h₃ tk₃ R₃ (Ext.trans R₂ (Ext.trans R₁ X₁ X₂) X₃))
theorem EB.not {e : Expr} {pos : Pos} {b : Bool} (h1 : EB prog w mg G k env ρ S e b S₁) : EB prog w mg G k env ρ S (.UnaryOp .Not e pos) (!b) S₁ := Lock.mk fun A σ s T Q E H =>
  isTrue_not (h1.run A σ s T _ _ fun σ' h' tk' R' X' => H σ' h' tk' R' X')
theorem PostB.ofExt {P : Params} {σ σ₁ : Lo} {s : Shared} {h₁ : Heap} {tk : Nat} {b : Bool} {Q : Bool → Shared → Prop} (R₁ : Rel P G σ₁ S₁ h₁) (X : Ext σ S.length s.heap σ₁ S₁.length h₁) (H : PostB P G σ S s b S' Q) :
    PostB P G σ₁ S₁ { s with heap := h₁, toks := tk } b S' Q := fun σ' h' tk' R X' => H σ' h' tk' R (Ext.trans R₁ X X')
theorem EB.and {a b : Expr} {pos : Pos} {x y : Bool} (h1 : EB prog w mg G k env ρ S a x S₁) (h2 : x = true → EB prog w mg G k env ρ S₁ b y S') (h3 : x = false → y = false ∧ S' = S₁) :
    EB prog w mg G k env ρ S (.BoolOp .And [a, b] pos) y S' := Lock.mk fun A σ s T Q E H => by
  refine isTrue_and (h1.run A σ s T _ _ fun σ₁ h₁ tk₁ R₁ X₁ => ?_)
  cases x with
  | false =>
    obtain ⟨rfl, rfl⟩ := h3 rfl
    exact H σ₁ h₁ tk₁ R₁ X₁
  | true =>
    refine isTrue_and ((h2 rfl).run A σ₁ _ (T.ext R₁ X₁) _ _ fun σ₂ h₂ tk₂ R₂ X₂ => ?_)
    have := H σ₂ h₂ tk₂ R₂ (Ext.trans R₁ X₁ X₂)
    cases y with
    | false => exact this
    | true => exact isTrue_and_nil this
theorem EB.or {a b : Expr} {pos : Pos} {x y : Bool} (h1 : EB prog w mg G k env ρ S a x S₁) (h2 : x = false → EB prog w mg G k env ρ S₁ b y S') (h3 : x = true → y = true ∧ S' = S₁) :
    EB prog w mg G k env ρ S (.BoolOp .Or [a, b] pos) y S' := Lock.mk fun A σ s T Q E H => by
  refine isTrue_or (h1.run A σ s T _ _ fun σ₁ h₁ tk₁ R₁ X₁ => ?_)
  cases x with
  | true =>
    obtain ⟨rfl, rfl⟩ := h3 rfl
    exact H σ₁ h₁ tk₁ R₁ X₁
  | false =>
    refine isTrue_or ((h2 rfl).run A σ₁ _ (T.ext R₁ X₁) _ _ fun σ₂ h₂ tk₂ R₂ X₂ => ?_)
    have := H σ₂ h₂ tk₂ R₂ (Ext.trans R₁ X₁ X₂)
    cases y with
    | true => exact this
    | false => exact isTrue_or_nil this
theorem EV.ifexp {t a b : Expr} {pos : Pos} {x : Bool} {p : PV} (h1 : EB prog w mg G k env ρ S t x S₁) (h2 : x = true → EV prog w mg G k env ρ S₁ a p S') (h3 : x = false → EV prog w mg G k env ρ S₁ b p S') :
    EV prog w mg G k env ρ S (.IfExp t a b pos) p S' := Lock.mk fun A σ s T Q E H => by
  refine wpAny_IfExp (h1.run A σ s T _ _ fun σ₁ h₁ tk₁ R₁ X₁ => ?_)
  cases x with
  | true => exact (h2 rfl).run A σ₁ _ (T.ext R₁ X₁) _ _ (H.ofExt R₁ X₁)
  | false => exact (h3 rfl).run A σ₁ _ (T.ext R₁ X₁) _ _ (H.ofExt R₁ X₁)

/-! ints -/
theorem O.addI {a b : Int} : OP2 prog w mg G k S (.int a) (.int b) (binaryOp .Add) (.int (a + b)) S := Lock.mk fun A σ s v u _ _ _ R V U Q E H => by
  (first | (obtain ⟨_, rfl⟩ := VR.inv V) | (obtain rfl := VR.inv V)); (first | (obtain ⟨_, rfl⟩ := VR.inv U) | (obtain rfl := VR.inv U)); exact add_int (H _ σ s.heap _ R Ext.refl (.int _ _))
theorem O.subI {a b : Int} : OP2 prog w mg G k S (.int a) (.int b) (binaryOp .Sub) (.int (a - b)) S := Lock.mk fun A σ s v u _ _ _ R V U Q E H => by
  (first | (obtain ⟨_, rfl⟩ := VR.inv V) | (obtain rfl := VR.inv V)); (first | (obtain ⟨_, rfl⟩ := VR.inv U) | (obtain rfl := VR.inv U)); exact sub_int (H _ σ s.heap _ R Ext.refl (.int _ _))
theorem O.mulI {a b : Int} (hm : IntMulOk a b) : OP2 prog w mg G k S (.int a) (.int b) (binaryOp .Mult) (.int (a * b)) S := Lock.mk fun A σ s v u _ _ _ R V U Q E H => by
  (first | (obtain ⟨_, rfl⟩ := VR.inv V) | (obtain rfl := VR.inv V)); (first | (obtain ⟨_, rfl⟩ := VR.inv U) | (obtain rfl := VR.inv U)); exact mul_int (H _ σ s.heap _ R Ext.refl (.int _ _)) hm
theorem O.mulI2 {b : Int} : OP2 prog w mg G k S (.int 2) (.int b) (binaryOp .Mult) (.int (2 * b)) S := O.mulI (IntMulOk.of_left (by decide +kernel))
theorem O.modI {a b : Int} (hb : b ≠ 0) : OP2 prog w mg G k S (.int a) (.int b) (binaryOp .Mod) (.int (a.fmod b)) S := Lock.mk fun A σ s v u _ _ _ R V U Q E H => by
  (first | (obtain ⟨_, rfl⟩ := VR.inv V) | (obtain rfl := VR.inv V)); (first | (obtain ⟨_, rfl⟩ := VR.inv U) | (obtain rfl := VR.inv U)); exact mod_int hb (H _ σ s.heap _ R Ext.refl (.int _ _))
theorem O.fdivI {a b : Int} (hp : prog.given.tree = Option.none) (hb : b ≠ 0) : OP2 prog w mg G k S (.int a) (.int b) (binaryOp .FloorDiv) (.int (a.fdiv b)) S := Lock.mk fun A σ s v u g r K R V U Q E H => by
  (first | (obtain ⟨_, rfl⟩ := VR.inv V) | (obtain rfl := VR.inv V)); (first | (obtain ⟨_, rfl⟩ := VR.inv U) | (obtain rfl := VR.inv U))
  obtain ⟨e, l, hf, c1, c2, c3, c4⟩ := K.top
  exact floordiv_int hb (H _ σ s.heap _ R Ext.refl (.int _ _)) (.inr (PySem.PylongRoom.of (g.nolimit.keeps R.ground) (by have := r.depth; omega) (PySem.SeerAt.of (g.seer.keeps R.ground) hp hf c1 c2 c3 c4)))
theorem O.shrI {a b : Int} (hb : 0 ≤ b) : OP2 prog w mg G k S (.int a) (.int b) (binaryOp .RShift) (.int (a.fdiv (2 ^ b.toNat))) S := Lock.mk fun A σ s v u _ _ _ R V U Q E H => by
  (first | (obtain ⟨_, rfl⟩ := VR.inv V) | (obtain rfl := VR.inv V)); (first | (obtain ⟨_, rfl⟩ := VR.inv U) | (obtain rfl := VR.inv U)); exact rshift_int hb (H _ σ s.heap _ R Ext.refl (.int _ _))
theorem O.mulIB {a : Int} {b : Bool} : OP2 prog w mg G k S (.int a) (.bool b) (binaryOp .Mult) (.int (a * if b = true then (1 : Int) else 0)) S := Lock.mk fun A σ s v u _ _ _ R V U Q E H => by
  (first | (obtain ⟨_, rfl⟩ := VR.inv V) | (obtain rfl := VR.inv V)); (first | (obtain ⟨_, rfl⟩ := VR.inv U) | (obtain rfl := VR.inv U)); exact PySem.IntBool.mul_int_bool (H _ σ s.heap _ R Ext.refl (.int _ _))
theorem O.addBI {a : Bool} {b : Int} : OP2 prog w mg G k S (.bool a) (.int b) (binaryOp .Add) (.int ((if a = true then (1 : Int) else 0) + b)) S := Lock.mk fun A σ s v u _ _ _ R V U Q E H => by
  (first | (obtain ⟨_, rfl⟩ := VR.inv V) | (obtain rfl := VR.inv V)); (first | (obtain ⟨_, rfl⟩ := VR.inv U) | (obtain rfl := VR.inv U)); exact PySem.IntBool.add_bool_int (H _ σ s.heap _ R Ext.refl (.int _ _))
theorem O.eqI {a b : Int} : OP2 prog w mg G k S (.int a) (.int b) (compareOp .Eq) (.bool (a == b)) S := Lock.mk fun A σ s v u _ _ _ R V U Q E H => by
  (first | (obtain ⟨_, rfl⟩ := VR.inv V) | (obtain rfl := VR.inv V)); (first | (obtain ⟨_, rfl⟩ := VR.inv U) | (obtain rfl := VR.inv U)); exact eq_int (H _ σ s.heap s.toks R Ext.refl (.bool _))
theorem O.neI {a b : Int} : OP2 prog w mg G k S (.int a) (.int b) (compareOp .NotEq) (.bool (a != b)) S := Lock.mk fun A σ s v u _ _ _ R V U Q E H => by
  (first | (obtain ⟨_, rfl⟩ := VR.inv V) | (obtain rfl := VR.inv V)); (first | (obtain ⟨_, rfl⟩ := VR.inv U) | (obtain rfl := VR.inv U)); exact ne_int (H _ σ s.heap s.toks R Ext.refl (.bool _))
theorem O.ltI {a b : Int} : OP2 prog w mg G k S (.int a) (.int b) (compareOp .Lt) (.bool (decide (a < b))) S := Lock.mk fun A σ s v u _ _ _ R V U Q E H => by
  (first | (obtain ⟨_, rfl⟩ := VR.inv V) | (obtain rfl := VR.inv V)); (first | (obtain ⟨_, rfl⟩ := VR.inv U) | (obtain rfl := VR.inv U)); exact lt_int (H _ σ s.heap s.toks R Ext.refl (.bool _))
theorem O.leI {a b : Int} : OP2 prog w mg G k S (.int a) (.int b) (compareOp .LtE) (.bool (decide (a ≤ b))) S := Lock.mk fun A σ s v u _ _ _ R V U Q E H => by
  (first | (obtain ⟨_, rfl⟩ := VR.inv V) | (obtain rfl := VR.inv V)); (first | (obtain ⟨_, rfl⟩ := VR.inv U) | (obtain rfl := VR.inv U)); exact le_int (H _ σ s.heap s.toks R Ext.refl (.bool _))
theorem O.gtI {a b : Int} : OP2 prog w mg G k S (.int a) (.int b) (compareOp .Gt) (.bool (decide (b < a))) S := Lock.mk fun A σ s v u _ _ _ R V U Q E H => by
  (first | (obtain ⟨_, rfl⟩ := VR.inv V) | (obtain rfl := VR.inv V)); (first | (obtain ⟨_, rfl⟩ := VR.inv U) | (obtain rfl := VR.inv U)); exact gt_int (H _ σ s.heap s.toks R Ext.refl (.bool _))
theorem O.geI {a b : Int} : OP2 prog w mg G k S (.int a) (.int b) (compareOp .GtE) (.bool (decide (b ≤ a))) S := Lock.mk fun A σ s v u _ _ _ R V U Q E H => by
  (first | (obtain ⟨_, rfl⟩ := VR.inv V) | (obtain rfl := VR.inv V)); (first | (obtain ⟨_, rfl⟩ := VR.inv U) | (obtain rfl := VR.inv U)); exact ge_int (H _ σ s.heap s.toks R Ext.refl (.bool _))
/-! strings -/
theorem O.eqS {a b : Str} : OP2 prog w mg G k S (.str a) (.str b) (compareOp .Eq) (.bool (a == b)) S := Lock.mk fun A σ s v u _ _ _ R V U Q E H => by
  (first | (obtain ⟨_, rfl⟩ := VR.inv V) | (obtain rfl := VR.inv V)); (first | (obtain ⟨_, rfl⟩ := VR.inv U) | (obtain rfl := VR.inv U)); exact eq_str (H _ σ s.heap s.toks R Ext.refl (.bool _))
theorem O.neS {a b : Str} : OP2 prog w mg G k S (.str a) (.str b) (compareOp .NotEq) (.bool (a != b)) S := Lock.mk fun A σ s v u _ _ _ R V U Q E H => by
  (first | (obtain ⟨_, rfl⟩ := VR.inv V) | (obtain rfl := VR.inv V)); (first | (obtain ⟨_, rfl⟩ := VR.inv U) | (obtain rfl := VR.inv U)); exact ne_str (H _ σ s.heap s.toks R Ext.refl (.bool _))
theorem O.addS {a b : Str} (hs : a.length + b.length ≤ sizeLine) : OP2 prog w mg G k S (.str a) (.str b) (binaryOp .Add) (.str (a ++ b)) S := Lock.mk fun A σ s v u _ _ _ R V U Q E H => by
  (first | (obtain ⟨_, rfl⟩ := VR.inv V) | (obtain rfl := VR.inv V)); (first | (obtain ⟨_, rfl⟩ := VR.inv U) | (obtain rfl := VR.inv U)); exact add_str (fun _ _ => H _ σ s.heap _ R Ext.refl (.str _ _)) hs
theorem O.inS {a b : Str} : OP2 prog w mg G k S (.str a) (.str b) (compareOp .In) (.bool !(Builtin.Str.occurrences b a 0 b.length 1).isEmpty) S := Lock.mk fun A σ s v u _ _ _ R V U Q E H => by
  (first | (obtain ⟨_, rfl⟩ := VR.inv V) | (obtain rfl := VR.inv V)); (first | (obtain ⟨_, rfl⟩ := VR.inv U) | (obtain rfl := VR.inv U)); exact in_str (H _ σ s.heap s.toks R Ext.refl (.bool _))
end
set_option tactic.hygienic true

noncomputable def pick (l : List PV) (lo hi st : Option Int) : List PV := (sliceRange (sliceBounds lo hi st l.length).1 (sliceBounds lo hi st l.length).2.1 (sliceBounds lo hi st l.length).2.2).filterMap (l[·]?)

section
variable (prog : Program) (w : World) (mg : Str → Option Value) (G : Heap)
/-- an item taken by a key -/
noncomputable def SUB (k : Nat) (S : List PO) (p q r : PV) (S' : List PO) : Prop :=
  Lock (∀ A σ s v u, Gd mg G → Room k A → Stk G A σ S.length s.heap → Rel w.params G σ S s.heap → VR σ S.length s.heap v p → VR σ S.length s.heap u q →
    (∃ T id, s.TypeIs v T ∧ typeLookup (.type T) "__getitem__" = pure (some (.builtin id))) ∧ ∀ Q E, Post w.params G σ S s r S' Q → wpAny (model prog w) A (getItem v u) Q E s)
inductive EPart (k : Nat) (env : Env) (ρ : Vars) (S : List PO) : Option Expr → Option Int → List PO → Prop where
  | no : EPart k env ρ S Option.none Option.none S
  | some {e : Expr} {i : Int} {S' : List PO} (h : EV prog w mg G k env ρ S e (.int i) S') : EPart k env ρ S (Option.some e) (Option.some i) S'
end

section
variable {prog : Program} {w : World} {mg : Str → Option Value} {G : Heap} {k : Nat} {env : Env} {ρ ρ₁ ρ₂ : Vars} {S S₁ S₂ S₃ S' : List PO}

theorem EPart.run {e : Option Expr} {i : Option Int} {A : Around} {σ : Lo} {s : Shared} (h : EPart prog w mg G k env ρ S e i S') (T : Sit w.params mg G A k env ρ σ S s.heap) {Q : Value → Shared → Prop} {E : Value → Shared → Prop}
    (H : ∀ (o : Option (Int × Tok)) σ' h' tk', o.map (·.1) = i → Rel w.params G σ' S' h' → Ext σ S.length s.heap σ' S'.length h' → Q (partValue o) { s with heap := h', toks := tk' }) : wpAny (model prog w) A (evalPart e env) Q E s := by
  cases h with
  | no => exact wpAny_pure (H Option.none σ s.heap s.toks rfl T.rel Ext.refl)
  | some h =>
    refine h.run A σ s T _ _ fun v σ' h' tk' R X V => ?_
    (first | (obtain ⟨_, rfl⟩ := VR.inv V) | (obtain rfl := VR.inv V))
    exact H (Option.some (_, _)) σ' h' tk' rfl R X

theorem partIs (o : Option (Int × Tok)) : IsPart (partValue o) (o.map (·.1)) := by
  cases o with
  | none => exact .none
  | some p => exact .int _ _

theorem EV.sub {value slice : Expr} {pos : Pos} {p q r : PV} (h1 : EV prog w mg G k env ρ S value p S₁) (h2 : EV prog w mg G k env ρ S₁ slice q S₂) (h3 : SUB prog w mg G k S₂ p q r S')
    (hs : ∀ o i, subscripted slice false o i = operate [o, i] (getItem o i) := by intro _ _; with_unfolding_all rfl) : EV prog w mg G k env ρ S (.Subscript value slice pos) r S' := Lock.mk fun A σ s T Q E H => by
  refine Subscript_ (h1.run A σ s T _ _ fun v σ₁ h₁ tk₁ R₁ X₁ V₁ => ?_)
  have T₁ := T.ext R₁ X₁
  refine h2.run A σ₁ _ T₁ _ _ fun u σ₂ h₂ tk₂ R₂ X₂ V₂ => ?_
  have T₂ := T₁.ext R₂ X₂
  obtain ⟨⟨Ty, id, hT, hl⟩, hg⟩ := h3.run A σ₂ { s with heap := h₂, toks := tk₂ } v u T₂.gd T₂.room T₂.stk T₂.rel (V₁.ext R₁ X₂) V₂
  exact tail_any hT hl (hg _ _ (Post.ofExt (s := { s with heap := h₁, toks := tk₁ }) (h₁ := h₂) (tk := tk₂) R₂ X₂ (H.ofExt (h₁ := h₁) (tk := tk₁) R₁ X₁))) (hs v u)

theorem SUB.list {n : Nat} {l : List PV} {i : Int} {j : Nat} {p : PV} (hn : S[n]? = some (.list l)) (hlo : -(2 ^ 63) ≤ i) (hhi : i < 2 ^ 63) (hj : seqIndex? i l.length = some j) (hp : l[j]? = some p) : SUB prog w mg G k S (.obj n) (.int i) p S := Lock.mk fun A σ s v u _ _ _ R V U => by
  (first | (obtain ⟨_, rfl⟩ := VR.inv V) | (obtain rfl := VR.inv V)); (first | (obtain ⟨_, rfl⟩ := VR.inv U) | (obtain rfl := VR.inv U))
  obtain ⟨vs, m, ho, hv⟩ := R.objs n _ hn
  have hl : s.heap.IsList (σ.p n) vs := ⟨_, ho, rfl, m, rfl⟩
  have hjl : j < l.length := (List.getElem?_eq_some_iff.mp hp).1
  have hjv : j < vs.size := by rw [hv.1]; exact hjl
  have hx : vs[j]? = some vs[j] := by simp [hjv]
  have V := hv.2 j _ p hx hp
  refine ⟨⟨_, _, hl.typeIs, slot_list_getitem.lookup⟩, fun Q E H => ?_⟩
  unfold seqIndex? at hj
  by_cases h0 : i < 0
  · simp only [h0, if_true] at hj
    split at hj
    · rename_i hc
      cases hj
      simp at hc
      exact wpAny_getItem_list_neg hl h0 (by have := hv.1; omega) hlo (by rw [hv.1]; exact hx) (H _ σ s.heap s.toks R Ext.refl V)
    · cases hj
  · simp only [h0, if_false] at hj
    split at hj
    · cases hj
      exact wpAny_getItem_list hl (by omega) hhi hx (H _ σ s.heap s.toks R Ext.refl V)
    · cases hj
theorem SUB.tup {l : List PV} {i : Int} {j : Nat} {p : PV} (hlo : -(2 ^ 63) ≤ i) (hhi : i < 2 ^ 63) (hj : seqIndex? i l.length = some j) (hp : l[j]? = some p) : SUB prog w mg G k S (.tup l) (.int i) p S := Lock.mk fun A σ s v u _ _ _ R V U => by
  (first | (obtain ⟨_, rfl⟩ := VR.inv U) | (obtain rfl := VR.inv U))
  cases V with
  | tup hF ho hc hd hl hi =>
    rename_i a o vs n
    have ht : IsTup s.heap a vs := ⟨o, ho, hc, n, hd⟩
    have hjl : j < l.length := (List.getElem?_eq_some_iff.mp hp).1
    have hjv : j < vs.size := by rw [hl]; exact hjl
    have hx : vs[j]? = some vs[j] := by simp [hjv]
    exact ⟨⟨_, _, ht.typeIs, slot_tuple_getitem.lookup⟩, fun Q E H => getItem_tuple ht hlo hhi (by rw [hl]; exact hj) hx (H _ σ s.heap s.toks R Ext.refl (hi j _ p hx hp))⟩
theorem SUB.str {x : Str} {i : Int} {c : Nat} (hlo : -(2 ^ 63) ≤ i) (hhi : i < 2 ^ 63) (hc : (seqIndex? i x.length).bind (x.cps[·]?) = some c) : SUB prog w mg G k S (.str x) (.int i) (.str ⟨#[c]⟩) S := Lock.mk fun A σ s v u _ _ _ R V U => by
  (first | (obtain ⟨_, rfl⟩ := VR.inv V) | (obtain rfl := VR.inv V)); (first | (obtain ⟨_, rfl⟩ := VR.inv U) | (obtain rfl := VR.inv U))
  exact ⟨⟨_, _, typeIs_str _ _ _, slot_str_getitem.lookup⟩, fun Q E H => getItem_str (by simp; omega) hc (H _ σ s.heap _ R Ext.refl (.str _ _))⟩

theorem sliceMade_post {x : Str} {t : Tok} {o o' : Option (Int × Tok)} {Q : Value → Shared → Prop} {s : Shared} (hx : x.length ≤ sizeLine) (h : ∀ t' k, Q (.str (Txt.slice x (o.map (·.1)) (o'.map (·.1))) t') { s with toks := k }) :
    (sliceMade x t o o' Option.none).post Q s := by
  have h1 := Nat.le_trans (Txt.slice_le x (o.map (·.1)) (o'.map (·.1))) hx
  unfold Txt.slice at h1 h
  unfold sliceMade slicePicked
  simp only [Option.map_none, Option.getD_none]
  exact post_val_or_str ⟨h1, h⟩

theorem EV.sliceS {value : Expr} {l u : Option Expr} {p pos : Pos} {x : Str} {i j : Option Int} (h1 : EV prog w mg G k env ρ S value (.str x) S₁) (h2 : EPart prog w mg G k env ρ S₁ l i S₂) (h3 : EPart prog w mg G k env ρ S₂ u j S') (hx : x.length ≤ sizeLine) :
    EV prog w mg G k env ρ S (.Subscript value (.Slice l u Option.none p) pos) (.str (Txt.slice x i j)) S' := Lock.mk fun A σ s T Q E H => by
  refine Subscript_ (h1.run A σ s T _ _ fun v σ₁ h₁ tk₁ R₁ X₁ V₁ => ?_)
  (first | (obtain ⟨_, rfl⟩ := VR.inv V₁) | (obtain rfl := VR.inv V₁))
  rename_i t
  have T₁ := T.ext R₁ X₁
  refine wpAny_Slice (h2.run T₁ fun o σ₂ h₂ tk₂ ho R₂ X₂ => ?_)
  have T₂ := T₁.ext R₂ X₂
  refine h3.run T₂ fun o' σ₃ h₃ tk₃ ho' R₃ X₃ => ?_
  rw [evalPart_none]
  refine wpAny_pure ?_
  subst ho ho'
  refine tail_any (typeIs_str _ _ _) slot_str_getitem.lookup (wpAny_getItem_str_slice (l := o) (u := o') (st := Option.none) ⟨_, Heap.get?_push_size _ rfl, rfl, rfl⟩ rfl ?_) rfl
  have hk : ∀ a ob, h₃.get? a = some ob → (h₃.push { cls := .type "slice", data := .fields #[partValue o, partValue o', .none] }).get? a = some ob := fun a ob e => Heap.get?_push_of_some _ e
  have X : Ext σ S.length s.heap σ₃ S'.length h₃ := Ext.trans R₂ (Ext.trans R₁ X₁ X₂) X₃
  have X' : Ext σ S.length s.heap σ₃ S'.length (h₃.push { cls := .type "slice", data := .fields #[partValue o, partValue o', .none] }) := Ext.trans R₃ X (Ext.ofKeeps hk)
  exact sliceMade_post hx fun t' k => H (.str _ t') σ₃ _ k (R₃.keeps hk) X' (.str _ _)

theorem pick_len (l : List PV) (items : Array Value) (h : items.size = l.length) (lo hi st : Option Int) : (pick l lo hi st).length = (slicePick items lo hi st).size := by
  unfold pick slicePick
  rw [List.size_toArray, h]
  generalize sliceRange _ _ _ = r
  induction r with
  | nil => rfl
  | cons a r ih =>
    by_cases ha : a < l.length
    · have e1 : l[a]? = some l[a] := by simp [ha]
      have e2 : items[a]? = some (items[a]'(by omega)) := by simp [h, ha]
      rw [List.filterMap_cons, List.filterMap_cons]
      simp only [e1, e2, List.length_cons, ih]
    · have e1 : l[a]? = none := by simp; omega
      have e2 : items[a]? = none := by simp; omega
      rw [List.filterMap_cons, List.filterMap_cons]
      simp only [e1, e2, ih]
theorem VRs.pick {σ : Lo} {N : Nat} {h : Heap} {items : Array Value} {l : List PV} (V : VRs σ N h items l) (lo hi st : Option Int) : VRs σ N h (slicePick items lo hi st) (Mine.pick l lo hi st) := by
  refine ⟨(pick_len l items V.1 lo hi st).symm, ?_⟩
  unfold Mine.pick slicePick
  rw [V.1]
  generalize sliceRange _ _ _ = r
  have : VRs σ N h (r.filterMap (items[·]?)).toArray (r.filterMap (l[·]?)) := by
    induction r with
    | nil => exact VRs.nil
    | cons a r ih =>
      by_cases ha : a < l.length
      · have e1 : l[a]? = some l[a] := by simp [ha]
        have hb : a < items.size := by rw [V.1]; exact ha
        have e2 : items[a]? = some items[a] := by simp [hb]
        rw [List.filterMap_cons, List.filterMap_cons]
        simp only [e1, e2]
        exact VRs.cons (V.2 a _ _ e2 e1) ih
      · have e1 : l[a]? = none := by simp; omega
        have e2 : items[a]? = none := by simp [V.1]; omega
        rw [List.filterMap_cons, List.filterMap_cons]
        simp only [e1, e2, ih]
  exact this.2

/-- a new list -/
theorem newListAt {A : Around} {σ : Lo} {s : Shared} {vs : Array Value} {l : List PV} (R : Rel w.params G σ S s.heap) (V : VRs σ S.length s.heap vs l) {h' : Heap} (hh : h' = s.heap.push { cls := .type "list", data := .seq vs }) :
    Rel w.params G (σ.put S.length s.heap.objs.size) (S ++ [.list l]) h' ∧ Ext σ S.length s.heap (σ.put S.length s.heap.objs.size) (S ++ [PO.list l]).length h' ∧ VR (σ.put S.length s.heap.objs.size) (S ++ [PO.list l]).length h' (.ref s.heap.objs.size) (.obj S.length) := by
  have hk : ∀ a o, s.heap.get? a = some o → h'.get? a = some o := fun a o e => by rw [hh]; exact Heap.get?_push_of_some _ e
  have eD : h'.get? s.heap.objs.size = some { cls := .type "list", data := .seq vs } := by rw [hh]; exact Heap.get?_push_size _ rfl
  have fr : s.heap.get? s.heap.objs.size = none := by
    cases q : s.heap.get? s.heap.objs.size with
    | none => rfl
    | some o => exact absurd (Heap.lt_size q) (Nat.lt_irrefl _)
  have off : ∀ i, i < S.length → s.heap.objs.size ≠ σ.p i := fun i hi q => by
    obtain ⟨o, e⟩ := R.alive hi
    rw [← q, fr] at e; cases e
  have hG : G.get? s.heap.objs.size = none := by
    cases q : G.get? s.heap.objs.size with
    | none => rfl
    | some o => have := R.ground _ _ q; rw [fr] at this; cases this
  have R' := R.keeps hk
  have V' : VRs σ S.length h' vs l := V.ext R (Ext.ofKeeps hk)
  refine ⟨R'.addObj ⟨vs, 0, eD, V'⟩ off hG, ⟨by simp, fun i hi => by show (if i = S.length then _ else _) = _; rw [if_neg (Nat.ne_of_lt hi)], fun a => Iff.rfl, fun i h1 h2 => ?_, fun a o e _ => KeepO.refl (hk a o e)⟩, ?_⟩
  · rw [List.length_append, List.length_singleton] at h2
    have : i = S.length := by omega
    subst this
    show s.heap.get? (if S.length = S.length then _ else _) = none
    rw [if_pos rfl]; exact fr
  · have := VR.obj (σ := σ.put S.length s.heap.objs.size) (N := (S ++ [PO.list l]).length) (h := h') S.length (by simp)
    have e : (σ.put S.length s.heap.objs.size).p S.length = s.heap.objs.size := by show (if S.length = S.length then _ else _) = _; rw [if_pos rfl]
    rw [e] at this
    exact this

theorem EV.sliceL {value : Expr} {lo hi st : Option Expr} {p pos : Pos} {n : Nat} {l : List PV} {i j c : Option Int} (h1 : EV prog w mg G k env ρ S value (.obj n) S₁) (h2 : EPart prog w mg G k env ρ S₁ lo i S₂) (h3 : EPart prog w mg G k env ρ S₂ hi j S₃)
    (h4 : EPart prog w mg G k env ρ S₃ st c S') (hn : S'[n]? = some (.list l)) (hc : c ≠ some 0) (hl : l.length ≤ sizeLine)
    (hs : ∀ o i, ∃ ops, subscripted (.Slice lo hi st p) false o i = operate ops (getItem o i) := by intro _ _; exact ⟨_, by with_unfolding_all rfl⟩) :
    EV prog w mg G k env ρ S (.Subscript value (.Slice lo hi st p) pos) (.obj S'.length) (S' ++ [.list (pick l i j c)]) := Lock.mk fun A σ s T Q E H => by
  refine Subscript_ (h1.run A σ s T _ _ fun v σ₁ h₁ tk₁ R₁ X₁ V₁ => ?_)
  (first | (obtain ⟨_, rfl⟩ := VR.inv V₁) | (obtain rfl := VR.inv V₁))
  rename_i hnl
  have T₁ := T.ext R₁ X₁
  refine wpAny_Slice (h2.run T₁ fun o σ₂ h₂ tk₂ ho R₂ X₂ => ?_)
  have T₂ := T₁.ext R₂ X₂
  refine h3.run T₂ fun o' σ₃ h₃ tk₃ ho' R₃ X₃ => ?_
  have T₃ := T₂.ext R₃ X₃
  refine h4.run T₃ fun o'' σ₄ h₄ tk₄ ho'' R₄ X₄ => ?_
  subst ho ho' ho''
  have X : Ext σ S.length s.heap σ₄ S'.length h₄ := Ext.trans R₃ (Ext.trans R₂ (Ext.trans R₁ X₁ X₂) X₃) X₄
  have hk : ∀ a ob, h₄.get? a = some ob → (h₄.push { cls := .type "slice", data := .fields #[partValue o, partValue o', partValue o''] }).get? a = some ob := fun a ob e => Heap.get?_push_of_some _ e
  have en : σ₁.p n = σ₄.p n := by
    rw [X₄.same n (Nat.lt_of_lt_of_le hnl (Nat.le_trans X₂.len X₃.len)), X₃.same n (Nat.lt_of_lt_of_le hnl X₂.len), X₂.same n hnl]
  generalize hh5 : h₄.push { cls := .type "slice", data := .fields #[partValue o, partValue o', partValue o''] } = h₅ at hk
  have R₅ := R₄.keeps hk
  obtain ⟨vs, m, ho, hv⟩ := R₅.objs n _ hn
  rw [en]
  have hl' : h₅.IsList (σ₄.p n) vs := ⟨_, ho, rfl, m, rfl⟩
  obtain ⟨ops, hops⟩ := hs (.ref (σ₄.p n)) (.ref h₄.objs.size)
  refine tail_any (s := { s with heap := h₅, toks := tk₄ }) hl'.typeIs slot_list_getitem.lookup (wpAny_getItem_list_slice (s := { s with heap := h₅, toks := tk₄ }) hl' (by rw [← hh5]; exact Heap.IsSliceOf.new ..) (partIs o) (partIs o') (partIs o'') hc ?_ (by rw [hv.1]; exact hl)) hops
  obtain ⟨R₆, X₆, V₆⟩ := newListAt (w := w) (A := A) (s := { s with heap := h₅, toks := tk₄ }) (S := S') R₅ (hv.pick (o.map (·.1)) (o'.map (·.1)) (o''.map (·.1))) rfl
  exact H _ _ _ _ R₆ (Ext.trans R₅ (Ext.trans R₄ X (Ext.ofKeeps hk)) X₆) V₆
end
set_option tactic.hygienic false

section
variable {prog : Program} {w : World} {mg : Str → Option Value} {G : Heap} {k : Nat} {env : Env} {ρ ρ₁ ρ₂ : Vars} {S S₁ S₂ S₃ S' : List PO}

theorem EV.list {es : List Expr} {pos : Pos} {ps : List PV} (h1 : ELs prog w mg G k env ρ S pos es ps S₁) (hl : ps.length ≤ sizeLine) : EV prog w mg G k env ρ S (.List es pos) (.obj S₁.length) (S₁ ++ [.list ps]) := Lock.mk fun A σ s T Q E H => by
  refine wpAny_List (h1.run A σ s T _ _ fun vs σ₁ h₁ tk₁ R₁ X₁ V₁ => ⟨by have := V₁.1; simp at this; omega, ?_⟩)
  obtain ⟨R₂, X₂, V₂⟩ := newListAt (w := w) (A := A) (s := { s with heap := h₁, toks := tk₁ }) (S := S₁) R₁ V₁ rfl
  exact H _ _ _ _ R₂ (Ext.trans R₁ X₁ X₂) V₂
/-- a new tuple -/
theorem newTupAt {σ : Lo} {h : Heap} {vs : Array Value} {l : List PV} (R : Rel w.params G σ S h) (V : VRs σ S.length h vs l) :
    Rel w.params G σ S (h.push { cls := .type "tuple", data := .seq vs }) ∧ Ext σ S.length h σ S.length (h.push { cls := .type "tuple", data := .seq vs }) ∧ VR σ S.length (h.push { cls := .type "tuple", data := .seq vs }) (.ref h.objs.size) (.tup l) := by
  have hk : ∀ a o, h.get? a = some o → (h.push { cls := .type "tuple", data := .seq vs }).get? a = some o := fun a o e => Heap.get?_push_of_some _ e
  refine ⟨R.keeps hk, Ext.ofKeeps hk, .tup (fun hF => ?_) (Heap.get?_push_size _ rfl) rfl rfl V.1 (V.ext R (Ext.ofKeeps hk)).2⟩
  obtain ⟨o, e⟩ := R.fb _ hF
  exact Nat.lt_irrefl _ (Heap.lt_size e)
theorem EV.tup {es : List Expr} {x : Nat} {pos : Pos} {ps : List PV} (h1 : ELs prog w mg G k env ρ S pos es ps S₁) (hl : ps.length ≤ sizeLine) : EV prog w mg G k env ρ S (.Tuple es x pos) (.tup ps) S₁ := Lock.mk fun A σ s T Q E H => by
  refine wpAny_Tuple (h1.run A σ s T _ _ fun vs σ₁ h₁ tk₁ R₁ X₁ V₁ => ⟨by have := V₁.1; simp at this; omega, ?_⟩)
  obtain ⟨R₂, X₂, V₂⟩ := newTupAt R₁ V₁
  exact H _ _ _ tk₁ R₂ (Ext.trans R₁ X₁ X₂) V₂

/-- one object changes -/
theorem mutate {σ : Lo} {h h' : Heap} {n : Nat} {o o' : PO} (R : Rel w.params G σ S h) (hn : S[n]? = some o) (hs : ∀ a ob, a ≠ σ.p n → h.get? a = some ob → h'.get? a = some ob)
    (hO : (∀ v p, VR σ S.length h v p → VR σ S.length h' v p) → OR w.params σ S.length h' (σ.p n) o') : Rel w.params G σ (S.set n o') h' ∧ Ext σ S.length h σ (S.set n o').length h' ∧ (∀ v p, VR σ S.length h v p → VR σ S.length h' v p) := by
  have hlt : n < S.length := (List.getElem?_eq_some_iff.mp hn).1
  obtain ⟨ob, e, c⟩ := (R.objs n o hn).cls
  have mono : ∀ v p, VR σ S.length h v p → VR σ S.length h' v p := fun v p V => V.mono (Nat.le_refl _) (fun _ _ => rfl) (fun _ q => q) fun a oa ea ca => hs a oa (fun q => by
    rw [q, e] at ea; cases ea
    rw [ca] at c; simp at c) ea
  refine ⟨⟨fun b ob' e' => hs b ob' (fun q => by rw [q, R.fresh n hlt] at e'; cases e') (R.ground b ob' e'), fun i oi ei => ?_, fun i hi => R.fresh i (by simpa using hi), fun i j hi hj => R.inj i j (by simpa using hi) (by simpa using hj), fun a ha => ?_⟩,
    ⟨by simp, fun _ _ => rfl, fun _ => Iff.rfl, fun i h1 h2 => by simp at h2; omega, fun a oa ea f => KeepO.refl (hs a oa (f n hlt) ea)⟩, mono⟩
  · rw [List.length_set]
    by_cases hin : i = n
    · subst hin
      rw [List.getElem?_set_self hlt] at ei
      cases ei
      exact hO mono
    · rw [List.getElem?_set_ne (Ne.symm hin)] at ei
      have hi : i < S.length := (List.getElem?_eq_some_iff.mp ei).1
      have Q := R.objs i oi ei
      have hne : σ.p i ≠ σ.p n := fun q => hin (R.inj i n hi hlt q)
      cases oi with
      | list l =>
        obtain ⟨us, m, h1, h2, h3⟩ := Q
        exact ⟨us, m, hs _ _ hne h1, h2, fun i v p' a b => mono _ _ (h3 i v p' a b)⟩
      | dict l ep =>
        obtain ⟨es, m, h1, h2, h3⟩ := Q
        exact ⟨es, m, hs _ _ hne h1, h2, fun i e kv a b => ⟨⟨mono _ _ (h3 i e kv a b).1.1, mono _ _ (h3 i e kv a b).1.2⟩, (h3 i e kv a b).2⟩⟩
      | blank =>
        obtain ⟨o, h1, h2⟩ := Q
        exact ⟨o, hs _ _ hne h1, h2⟩
      | bound n id =>
        obtain ⟨v, h1, h2⟩ := Q
        exact ⟨v, hs _ _ hne h1, mono _ _ h2⟩
      | tab p =>
        obtain ⟨ha, v, h1, h2⟩ := Q
        exact ⟨ha, v, hs _ _ hne h1, h2⟩
  · by_cases hq : a = σ.p n
    · obtain ⟨ob', e'⟩ : ∃ ob', h'.get? (σ.p n) = some ob' := by
        obtain ⟨ob', e', _⟩ := (hO mono).cls
        exact ⟨ob', e'⟩
      exact ⟨ob', hq ▸ e'⟩
    · obtain ⟨oa, ea⟩ := R.fb a ha
      exact ⟨oa, hs a oa hq ea⟩

theorem VRs.erase {σ : Lo} {N : Nat} {h : Heap} {vs : Array Value} {l : List PV} (V : VRs σ N h vs l) (hne : l ≠ []) : VRs σ N h (vs.eraseIdxIfInBounds (vs.size - 1)) l.dropLast := by
  have hpos : 0 < vs.size := by rw [V.1]; exact List.length_pos_iff.mpr hne
  have e : vs.eraseIdxIfInBounds (vs.size - 1) = vs.pop := by
    rw [Array.eraseIdxIfInBounds, dif_pos (by omega)]
    apply Array.toList_inj.mp
    rw [Array.toList_eraseIdx, Array.toList_pop]
    have : vs.size - 1 = vs.toList.length - 1 := by simp
    rw [this, List.eraseIdx_length_sub_one]
  rw [e]
  refine ⟨by simp [V.1], fun i v p h1 h2 => ?_⟩
  rw [Array.getElem?_pop] at h1
  rw [List.getElem?_dropLast] at h2
  split at h1
  · split at h2
    · exact V.2 i v p h1 h2
    · cases h2
  · cases h1
theorem VRs.set {σ : Lo} {N : Nat} {h : Heap} {vs : Array Value} {l : List PV} (V : VRs σ N h vs l) {v : Value} {p : PV} (hv : VR σ N h v p) (j : Nat) : VRs σ N h (vs.setIfInBounds j v) (l.set j p) := by
  refine ⟨by simp [V.1], fun i u q h1 h2 => ?_⟩
  rw [Array.getElem?_setIfInBounds] at h1
  rw [List.getElem?_set] at h2
  by_cases hij : j = i
  · subst hij
    rw [if_pos rfl] at h1 h2
    split at h1
    · split at h2
      · cases h1; cases h2; exact hv
      · cases h2
    · cases h1
  · rw [if_neg hij] at h1 h2
    exact V.2 i u q h1 h2
theorem VRs.append {σ : Lo} {N : Nat} {h : Heap} {vs us : Array Value} {l m : List PV} (V : VRs σ N h vs l) (U : VRs σ N h us m) : VRs σ N h (vs ++ us) (l ++ m) := by
  refine ⟨by simp [V.1, U.1], fun i v p h1 h2 => ?_⟩
  rw [Array.getElem?_append] at h1
  rw [List.getElem?_append] at h2
  by_cases hi : i < vs.size
  · rw [if_pos hi] at h1
    rw [if_pos (by rw [← V.1]; exact hi)] at h2
    exact V.2 i v p h1 h2
  · rw [if_neg hi] at h1
    rw [if_neg (by rw [← V.1]; exact hi), ← V.1] at h2
    exact U.2 _ v p h1 h2

theorem O.addL {n m : Nat} {l r : List PV} (hn : S[n]? = some (.list l)) (hm : S[m]? = some (.list r)) (hs : l.length + r.length ≤ sizeLine) : OP2 prog w mg G k S (.obj n) (.obj m) (binaryOp .Add) (.obj S.length) (S ++ [.list (l ++ r)]) := Lock.mk fun A σ s v u _ _ _ R V U Q E H => by
  (first | (obtain ⟨_, rfl⟩ := VR.inv V) | (obtain rfl := VR.inv V)); (first | (obtain ⟨_, rfl⟩ := VR.inv U) | (obtain rfl := VR.inv U))
  obtain ⟨vs, c, ho, hv⟩ := R.objs n _ hn
  obtain ⟨us, d, ho', hu⟩ := R.objs m _ hm
  refine PySem.P.add_list (items := vs) (items2 := us) ho ho' ?_ (by rw [hv.1, hu.1]; exact hs)
  obtain ⟨R₂, X₂, V₂⟩ := newListAt (w := w) (A := A) (s := s) (S := S) R (hv.append hu) rfl
  exact H _ _ _ s.toks R₂ X₂ V₂

theorem OPL.lenL {n : Nat} {l : List PV} (hn : S[n]? = some (.list l)) (hs : l.length ≤ sizeLine) : OPL prog w mg G k S [.obj n] (fun vs => PySem.call (.builtin "len") vs) (.int l.length) S := Lock.mk fun A σ s vs _ _ _ R V Q E H => by
  obtain ⟨v, _, rfl, V, V'⟩ := V.uncons
  rw [V'.unnil]
  (first | (obtain ⟨_, rfl⟩ := VR.inv V) | (obtain rfl := VR.inv V))
  obtain ⟨us, c, ho, hu⟩ := R.objs n _ hn
  have hb : sizeLine < 2 ^ 63 := by decide
  refine len_list (items := us) ⟨_, ho, rfl, c, rfl⟩ (by rw [hu.1]; omega) ?_
  rw [hu.1]
  exact H _ σ s.heap _ R Ext.refl (.int _ _)
theorem OPL.lenS {x : Str} (hs : x.length ≤ sizeLine) : OPL prog w mg G k S [.str x] (fun vs => PySem.call (.builtin "len") vs) (.int x.length) S := Lock.mk fun A σ s vs _ _ _ R V Q E H => by
  obtain ⟨v, _, rfl, V, V'⟩ := V.uncons
  rw [V'.unnil]
  (first | (obtain ⟨_, rfl⟩ := VR.inv V) | (obtain rfl := VR.inv V))
  have hb : sizeLine < 2 ^ 63 := by decide
  exact PyProof.Rows.len_str (by omega) (H _ σ s.heap _ R Ext.refl (.int _ _))

/-! methods -/
noncomputable def MT (w : World) (G : Heap) (prog : Program) (S : List PO) (p : PV) (name : Str) (id : String) : Prop :=
  Lock (∀ A (σ : Lo) (s : Shared) v pl, Rel w.params G σ S s.heap → VR σ S.length s.heap v p → ∀ (Q : Value × List Value → Shared → Prop) E, Q (.builtin id, [v]) s → wpAny (model prog w) A (getMethod v name pl) Q E s)
theorem MT.list {n : Nat} {l : List PV} {name : Str} {id : String} (hn : S[n]? = some (.list l)) (slot : Slot "list" name id) (hty : typeOf (.builtin id) = pure (.type "method_descriptor")) : MT w G prog S (.obj n) name id := Lock.mk fun A σ s v pl R V Q E H => by
  (first | (obtain ⟨_, rfl⟩ := VR.inv V) | (obtain rfl := VR.inv V))
  obtain ⟨us, c, ho, hu⟩ := R.objs n _ hn
  exact getMethod_builtin ⟨_, ho, rfl⟩ PySem.F.plainAttrs_list slot hty (fun a e => by cases e; exact ⟨_, ho, rfl⟩) H
theorem MT.dict {n : Nat} {l : List (PV × PV)} {ep : Nat} {name : Str} {id : String} (hn : S[n]? = some (.dict l ep)) (slot : Slot "dict" name id) (hty : typeOf (.builtin id) = pure (.type "method_descriptor")) : MT w G prog S (.obj n) name id := Lock.mk fun A σ s v pl R V Q E H => by
  (first | (obtain ⟨_, rfl⟩ := VR.inv V) | (obtain rfl := VR.inv V))
  obtain ⟨us, c, ho, hu⟩ := R.objs n _ hn
  exact getMethod_builtin ⟨_, ho, rfl⟩ PySem.F.plainAttrs_dict slot hty (fun a e => by cases e; exact ⟨_, ho, rfl⟩) H
theorem MT.str {x : Str} {name : Str} {id : String} (slot : Slot "str" name id) (hty : typeOf (.builtin id) = pure (.type "method_descriptor")) : MT w G prog S (.str x) name id := Lock.mk fun A σ s v pl R V Q E H => by
  (first | (obtain ⟨_, rfl⟩ := VR.inv V) | (obtain rfl := VR.inv V))
  exact getMethod_builtin (typeIs_str _ _ _) PySem.F.plainAttrs_str slot hty (fun a e => by cases e) H

theorem EV.meth {o : Expr} {name : Str} {apos pos : Pos} {e : Expr} {es : List Expr} {p r : PV} {ps : List PV} {id : String} (h0 : EV prog w mg G k env ρ S o p S₁) (hm : MT w G prog S₁ p name id) (h1 : ELs prog w mg G k env ρ S₁ pos (e :: es) ps S₂)
    (h2 : OPL prog w mg G k S₂ (p :: ps) (fun vs => PySem.call (.builtin id) vs) r S') {pl : Sem Bool}
    (hev : eval (.Call (.Attribute o name apos) (e :: es) [] pos) env = (do
      let ov ← eval o env
      standAt apos.atName
      let (f, first) ← holding [ov] (getMethod ov name pl)
      callWith pos f first (backTo pos (starEach (e :: es) env)) []) := by rfl)
    (he : starEach (e :: es) env = (false, eval e env) :: starEach es env := by rfl) (hp : (backTo pos (starEach es env)).any (·.1) = false := by rfl) :
    EV prog w mg G k env ρ S (.Call (.Attribute o name apos) (e :: es) [] pos) r S' := Lock.mk fun A σ s T Q E H => by
  refine MethodCall_ (pl := pl) (h0.run A σ s T _ _ fun v σ₁ h₁ tk₁ R₁ X₁ V₁ => hm.run A σ₁ _ v pl R₁ V₁ _ _ ?_) hev
  have T₁ := T.ext R₁ X₁
  refine callWith_method1 (h1.run A σ₁ _ T₁ _ _ fun vs σ₂ h₂ tk₂ R₂ X₂ V₂ => ?_) he hp
  have T₂ := T₁.ext R₂ X₂
  exact h2.run A σ₂ _ (v :: vs) T₂.gd T₂.room T₂.stk T₂.rel (.cons (V₁.ext R₁ X₂) V₂) _ _ (Post.ofExt (s := { s with heap := h₁, toks := tk₁ }) (h₁ := h₂) (tk := tk₂) R₂ X₂ (H.ofExt (h₁ := h₁) (tk := tk₁) R₁ X₁))
theorem EV.meth0 {o : Expr} {name : Str} {apos pos : Pos} {p r : PV} {id : String} (h0 : EV prog w mg G k env ρ S o p S₁) (hm : MT w G prog S₁ p name id)
    (h2 : OPL prog w mg G k S₁ [p] (fun vs => PySem.call (.builtin id) vs) r S') {pl : Sem Bool}
    (hev : eval (.Call (.Attribute o name apos) [] [] pos) env = (do
      let ov ← eval o env
      standAt apos.atName
      let (f, first) ← holding [ov] (getMethod ov name pl)
      callWith pos f first (backTo pos (starEach [] env)) []) := by rfl) :
    EV prog w mg G k env ρ S (.Call (.Attribute o name apos) [] [] pos) r S' := Lock.mk fun A σ s T Q E H => by
  refine MethodCall_ (pl := pl) (h0.run A σ s T _ _ fun v σ₁ h₁ tk₁ R₁ X₁ V₁ => hm.run A σ₁ _ v pl R₁ V₁ _ _ ?_) hev
  have T₁ := T.ext R₁ X₁
  exact callWith_method0 (h2.run A σ₁ _ [v] T₁.gd T₁.room T₁.stk T₁.rel (.cons V₁ VRs.nil) _ _ (H.ofExt (h₁ := h₁) (tk := tk₁) R₁ X₁))

theorem OPL.append {n : Nat} {l : List PV} {p : PV} (hn : S[n]? = some (.list l)) (hs : l.length ≤ sizeLine) : OPL prog w mg G k S [.obj n, p] (fun vs => PySem.call (.builtin "list.append") vs) .none (S.set n (.list (l ++ [p]))) := Lock.mk fun A σ s vs _ _ _ R V0 Q E H => by
  obtain ⟨v, vs, rfl, V, V'⟩ := V0.uncons
  obtain ⟨u, vs, rfl, U, V'⟩ := V'.uncons
  rw [V'.unnil]
  (first | (obtain ⟨_, rfl⟩ := VR.inv V) | (obtain rfl := VR.inv V))
  obtain ⟨us, c, ho, hu⟩ := R.objs n _ hn
  show wpAny _ A (PySem.call (.builtin "list.append") [_, u]) Q E s
  refine wpAny_list_append_plain (items := us) ⟨c, ho⟩ (fun h' hl hs' => ?_) (by rw [hu.1]; exact hs)
  obtain ⟨R', X', mono⟩ := mutate (o' := .list (l ++ [p])) R hn (fun a ob ha e => hs'.extBut a ob ha e) fun mono => by
    obtain ⟨c', ho'⟩ := hl
    exact ⟨_, c', ho', VRs.snoc ⟨hu.1, fun i v p a b => mono _ _ (hu.2 i v p a b)⟩ (mono _ _ U)⟩
  exact H _ _ _ s.toks R' X' .none
theorem OPL.pop {n : Nat} {l : List PV} {p : PV} (hn : S[n]? = some (.list l)) (hp : l.getLast? = some p) (hs : l.length ≤ sizeLine) : OPL prog w mg G k S [.obj n] (fun vs => PySem.call (.builtin "list.pop") vs) p (S.set n (.list l.dropLast)) := Lock.mk fun A σ s vs _ _ _ R V0 Q E H => by
  obtain ⟨v, vs, rfl, V, V'⟩ := V0.uncons
  rw [V'.unnil]
  (first | (obtain ⟨_, rfl⟩ := VR.inv V) | (obtain rfl := VR.inv V))
  obtain ⟨us, c, ho, hu⟩ := R.objs n _ hn
  have hne : l ≠ [] := fun q => by rw [q] at hp; cases hp
  have hpos : 0 < us.size := by rw [hu.1]; exact List.length_pos_iff.mpr hne
  have hy : us[us.size - 1]? = some us[us.size - 1] := by simp
  have hp' : l[us.size - 1]? = some p := by rw [hu.1, ← List.getLast?_eq_getElem?]; exact hp
  show wpAny _ A (PySem.call (.builtin "list.pop") [_]) Q E s
  refine call_meets PySem.F.slot_list_pop ⟨_, ho, rfl⟩ PySem.F.entry_list_pop (PySem.F.args_list_pop_1 _) (PySem.MeetsSeq.list_pop_last _ us c _ hy (by rw [hu.1]; exact hs)) ⟨ho, ?_⟩
  have U := hu.2 _ _ _ hy hp'
  obtain ⟨R', X', mono⟩ := mutate (o' := .list l.dropLast) (h' := s.heap.update (σ.p n) (Obj.mapSeq fun xs => xs.eraseIdxIfInBounds (us.size - 1))) R hn (fun a ob ha e => (Heap.SameBut.update ..).extBut a ob ha e) fun mono =>
    ⟨_, _, PySem.IsL.update ho _, (VRs.erase ⟨hu.1, fun i v p a b => mono _ _ (hu.2 i v p a b)⟩ hne)⟩
  exact H _ _ _ s.toks R' X' (by rw [List.length_set]; exact mono _ _ U)

theorem EX.expr {e : Expr} {pos : Pos} {p : PV} (h1 : EV prog w mg G k env ρ S e p S₁) (hi : interactive env = false) (hs : swapsWith e Option.none pos.line env = pure false) : EX prog w mg G k env ρ S (.Expr e pos) (.next ρ S₁) := Lock.mk fun A σ s T O Q E H =>
  wpAny_Expr_any (h1.run A σ s T _ _ fun v σ₁ h₁ tk₁ R₁ X₁ V₁ => H σ₁ h₁ tk₁ R₁ X₁.toX (T.ext R₁ X₁).er) hi hs

theorem setItem_listX {A : Around} {E : Value → Shared → Prop} {s : Shared} {l : Addr} {items : Array Value} {n : Nat} {k : Int} {t : Tok} {v : Value} {Q : Unit → Shared → Prop} (hl : PySem.IsL s.heap l items n) (h0 : 0 ≤ k) (hfit : k < 2 ^ 63) (hn : k < items.size)
    (hQ : Q () { s with heap := s.heap.update l (Obj.mapSeq (·.setIfInBounds k.toNat v)) }) : wpAny (model prog w) A (setItem (.ref l) (.int k t) v) Q E s := by
  have hT : s.TypeIs (.ref l) "list" := ⟨_, hl, rfl⟩
  obtain ⟨o, ho, hd⟩ : ∃ o, s.heap.get? l = some o ∧ o.data = .seq items n := ⟨_, hl, rfl⟩
  clear hl
  unfold setItem
  try with_reducible refine wpAny_holding ?_
  first | refine wpAny_bind (wpAny_pure ?_) | skip
  refine wpAny_bind (wpAny_sequenceKey hT (by decide) ?_)
  refine wpAny_bind (wpAny_callSpecial?_slot (name := Str.ofString "__setitem__") hT slot_list_setitem (wpAny_call_entry slot_list_setitem hT entry_list_setitem ?_ (args_list_setitem _ _ _)))
  show wpAny _ _ (Builtin.List.listSubscript? (.int k t) >>= _) _ _ s
  refine wpAny_bind (wpAny_listSubscript_int (fitsIndex_of h0 hfit) ?_)
  clear hfit
  obtain ⟨j, rfl⟩ := Int.eq_ofNat_of_zero_le h0
  have hj : j < items.size := by omega
  have hx' : items[j]? = some items[j] := Array.getElem?_eq_getElem hj
  show wpAny _ _ ((seqItemAt l j >>= fun r => pure (r.map (j, ·))) >>= _) _ _ s
  refine wpAny_bind (wpAny_bind (wpAny_seqItemAt ho hd (wpAny_pure ?_)))
  rw [hx']
  show wpAny _ _ (setSeqItemAt l j v >>= _) _ _ s
  refine wpAny_bind (wpAny_setSeqItemAt ho hd ?_)
  first
    | exact wpAny_bind (wpAny_pure (wpAny_pure ⟨.none, rfl, wpAny_pure hQ⟩))
    | exact wpAny_pure ⟨.none, rfl, wpAny_pure hQ⟩

theorem EX.setL {o i value : Expr} {pos' pos : Pos} {p : PV} {n j : Nat} {l : List PV} (h1 : EV prog w mg G k env ρ S value p S₁) (h2 : EV prog w mg G k env ρ S₁ o (.obj n) S₂) (h3 : EV prog w mg G k env ρ S₂ i (.int j) S₃) (hn : S₃[n]? = some (.list l)) (hj : j < l.length) (hl : l.length ≤ sizeLine)
    (hs : swapsWith value (some (.Subscript o i pos')) pos.line env = pure false) : EX prog w mg G k env ρ S (.Assign [.Subscript o i pos'] value pos) (.next ρ (S₃.set n (.list (l.set j p)))) := Lock.mk fun A σ s T O Q E H => by
  refine wpAny_Assign_Subscript (h1.run A σ s T _ _ fun v σ₁ h₁ tk₁ R₁ X₁ V₁ => ?_) hs
  have T₁ := T.ext R₁ X₁
  refine h2.run A σ₁ _ T₁ _ _ fun ov σ₂ h₂ tk₂ R₂ X₂ V₂ => ?_
  have T₂ := T₁.ext R₂ X₂
  refine h3.run A σ₂ _ T₂ _ _ fun iv σ₃ h₃ tk₃ R₃ X₃ V₃ => ?_
  have T₃ := T₂.ext R₃ X₃
  have V₁' := (V₁.ext R₁ X₂).ext R₂ X₃
  have V₂' := V₂.ext R₂ X₃
  (first | (obtain ⟨_, rfl⟩ := VR.inv V₂') | (obtain rfl := VR.inv V₂'))
  (first | (obtain ⟨_, rfl⟩ := VR.inv V₃) | (obtain rfl := VR.inv V₃))
  obtain ⟨us, c, ho, hu⟩ := R₃.objs n _ hn
  have hb : sizeLine < 2 ^ 63 := by decide
  refine setItem_listX (s := { s with heap := h₃, toks := tk₃ }) (items := us) (n := c) ho (by omega) (by omega) (by have := hu.1; omega) ?_
  rw [Int.toNat_natCast]
  obtain ⟨R₄, X₄, mono⟩ := mutate (o' := .list (l.set j p)) (h' := h₃.update (σ₃.p n) (Obj.mapSeq fun xs => xs.setIfInBounds j v)) R₃ hn (fun a ob ha e => (Heap.SameBut.update ..).extBut a ob ha e) fun mono =>
    ⟨_, _, PySem.IsL.update ho _, (VRs.set ⟨hu.1, fun i v p a b => mono _ _ (hu.2 i v p a b)⟩ (mono _ _ V₁') j)⟩
  have X : Ext σ S.length s.heap σ₃ (S₃.set n (.list (l.set j p))).length (h₃.update (σ₃.p n) (Obj.mapSeq fun xs => xs.setIfInBounds j v)) := Ext.trans R₃ (Ext.trans R₂ (Ext.trans R₁ X₁ X₂) X₃) X₄
  exact H σ₃ _ tk₃ R₄ X.toX (T.ext R₄ X).er
end
set_option tactic.hygienic true
set_option tactic.hygienic false

/-- variables by place: names and what they hold -/
noncomputable def V : List Str → List (Option PV) → Vars
  | x :: xs, some p :: vs => (x, p) :: V xs vs
  | _ :: xs, none :: vs => V xs vs
  | _, _ => []
inductive At : List Str → List (Option PV) → Str → Option PV → Prop where
  | hd {x : Str} {xs : List Str} {p : Option PV} {vs : List (Option PV)} : At (x :: xs) (p :: vs) x p
  | tl {x y : Str} {xs : List Str} {p q : Option PV} {vs : List (Option PV)} (h : At xs vs y q) : At (x :: xs) (p :: vs) y q
inductive SetAt : List Str → List (Option PV) → Str → PV → List (Option PV) → Prop where
  | hd {x : Str} {xs : List Str} {p : PV} {o : Option PV} {vs : List (Option PV)} : SetAt (x :: xs) (o :: vs) x p (some p :: vs)
  | tl {x y : Str} {xs : List Str} {p : PV} {o : Option PV} {vs vs' : List (Option PV)} (h : SetAt xs vs y p vs') : SetAt (x :: xs) (o :: vs) y p (o :: vs')
structure Nm (xs : List Str) : Prop where
  nd : xs.Nodup
  ok : ∀ x ∈ xs, (x == ("__debug__" : Str)) = false ∧ (x == ("__classdict__" : Str)) = false

theorem At.mem {xs : List Str} {vs : List (Option PV)} {x : Str} {o : Option PV} (h : At xs vs x o) : x ∈ xs := by
  induction h with
  | hd => exact .head _
  | tl _ ih => exact .tail _ ih
theorem SetAt.mem {xs : List Str} {vs vs' : List (Option PV)} {x : Str} {p : PV} (h : SetAt xs vs x p vs') : x ∈ xs := by
  induction h with
  | hd => exact .head _
  | tl _ ih => exact .tail _ ih
theorem V.none : ∀ (xs : List Str) (vs : List (Option PV)) (x : Str), x ∉ xs → (V xs vs).lookup x = Option.none
  | [], _, _, _ => by simp [V]
  | _ :: _, [], _, _ => by simp [V]
  | y :: ys, some p :: vs, x, h => by
    have : (x == y) = false := beq_eq_false_iff_ne.mpr fun q => h (q ▸ .head _)
    rw [V, List.lookup_cons, this]
    exact V.none ys vs x fun q => h (.tail _ q)
  | y :: ys, Option.none :: vs, x, h => by
    rw [V]
    exact V.none ys vs x fun q => h (.tail _ q)
theorem V.look {xs : List Str} {vs : List (Option PV)} {x : Str} {o : Option PV} (h : At xs vs x o) (nd : xs.Nodup) : (V xs vs).lookup x = o := by
  induction h with
  | @hd x xs p vs =>
    cases p with
    | none => rw [V]; exact V.none _ _ _ (List.nodup_cons.mp nd).1
    | some p => rw [V, List.lookup_cons]; simp
  | @tl x y xs p q vs h ih =>
    have hxy : (y == x) = false := beq_eq_false_iff_ne.mpr fun e => (List.nodup_cons.mp nd).1 (e ▸ h.mem)
    cases p with
    | none => rw [V]; exact ih (List.nodup_cons.mp nd).2
    | some p => rw [V, List.lookup_cons, hxy]; exact ih (List.nodup_cons.mp nd).2
theorem V.set {xs : List Str} {vs vs' : List (Option PV)} {x : Str} {p : PV} (h : SetAt xs vs x p vs') (nd : xs.Nodup) : ∀ y, (V xs vs').lookup y = (upd (V xs vs) x p).lookup y := by
  intro y
  rw [lookup_upd]
  induction h with
  | @hd x xs p o vs =>
    have hn := (List.nodup_cons.mp nd).1
    rw [V, List.lookup_cons]
    by_cases hy : y = x
    · subst hy; simp
    · rw [if_neg hy]
      have : (y == x) = false := beq_eq_false_iff_ne.mpr hy
      simp only [this]
      cases o with
      | none => rw [V]
      | some q => rw [V, List.lookup_cons, this]
  | @tl z x xs p o vs vs' h ih =>
    have ih := ih (List.nodup_cons.mp nd).2
    have hxz : x ≠ z := fun e => (List.nodup_cons.mp nd).1 (e ▸ h.mem)
    cases o with
    | none => rw [V, V]; exact ih
    | some q =>
      rw [V, V, List.lookup_cons, List.lookup_cons, ih]
      by_cases hy : y = z
      · subst hy; simp [Ne.symm hxz]
      · have : (y == z) = false := beq_eq_false_iff_ne.mpr hy
        simp [this]
theorem V.zip : ∀ (xs ys : List Str) (ps : List PV), xs.length = ps.length → V (xs ++ ys) (ps.map some ++ ys.map fun _ => Option.none) = xs.zip ps
  | [], ys, [], _ => by
    simp only [List.nil_append, List.map_nil, List.zip_nil_right]
    induction ys with
    | nil => rfl
    | cons y ys ih => rw [List.map_cons, V]; exact ih
  | [], _, _ :: _, h => by cases h
  | _ :: _, _, [], h => by cases h
  | x :: xs, ys, p :: ps, h => by
    simp only [List.cons_append, List.map_cons, List.zip_cons_cons]
    rw [V, V.zip xs ys ps (by simpa using h)]

section
variable {prog : Program} {w : World} {mg : Str → Option Value} {G : Heap} {k : Nat} {env : Env} {ρ ρ' ρ₁ ρ₂ : Vars} {S S₁ S₂ S₃ S' : List PO} {xs : List Str} {vs vs' : List (Option PV)}

theorem ER.congr {σ : Lo} {N : Nat} {h : Heap} (H : ER env ρ σ N h) (e : ∀ y, ρ'.lookup y = ρ.lookup y) : ER env ρ' σ N h :=
  ⟨H.kind, H.gl, H.bi, H.off, let ⟨m, hm, hv⟩ := H.ns; ⟨m, hm, fun x p a b => hv x p (e x ▸ a) b⟩, fun x hx => let ⟨c, vo, a, b, d⟩ := H.cell x hx; ⟨c, vo, a, b, fun p hp => d p (e x ▸ hp)⟩, fun x p a => H.dom x p (e x ▸ a), H.cinj⟩

theorem EV.nm {x : Str} {pos : Pos} {p : PV} (hn : Nm xs) (h : At xs vs x (some p)) : EV prog w mg G k env (V xs vs) S (.Name x pos) p S :=
  EV.name (V.look h hn.nd) (hn.ok x h.mem).1 (hn.ok x h.mem).2
theorem EV.int0 {n : Nat} {pos : Pos} {ρ : Vars} : EV prog w mg G k env ρ S (.Constant (.int 0) n pos) (.int ((0 : Nat) : Int)) S := EV.int
theorem EX.asg {x : Str} {px pos : Pos} {e : Expr} {p : PV} (hn : Nm xs) (hk : ∀ x ∈ xs, env.kindOf x = some .local ∨ env.kindOf x = some .cell) (h1 : EV prog w mg G k env (V xs vs) S e p S₁) (h : SetAt xs vs x p vs') (hs : swapsWith e (some (.Name x px)) pos.line env = pure false) :
    EX prog w mg G k env (V xs vs) S (.Assign [.Name x px] e pos) (.next (V xs vs') S₁) := Lock.mk fun A σ s T O Q E H =>
  (EX.assign h1 (hk x h.mem) hs).run A σ s T O Q E fun σ' h' tk' R X E' => H σ' h' tk' R X (E'.congr (V.set h hn.nd))
theorem ASG.nm {x : Str} {pos : Pos} {p : PV} (hn : Nm xs) (hk : env.kindOf x = some .local ∨ env.kindOf x = some .cell) (h : SetAt xs vs x p vs') : ASG prog w mg G k env (.Name x pos) p (V xs vs) (V xs vs') S := Lock.mk fun A σ s v T O V' Q E H =>
  (ASG.name hk).run A σ s v T O V' Q E fun h' tk' R X E' => H h' tk' R X (E'.congr (V.set h hn.nd))
theorem EX.asgComp {y : Str} {py spos : Pos} {iter tgt elt : Expr} {ifs : List Expr} {scope : Scope} {pos : Pos} {ps qs : List PV} {need : List PO → Prop} {ρc : Vars} (hn : Nm xs) (hi : ITR prog w mg G k env (V xs vs) S iter tgt ps need S₁) (ok : ScOk scope env)
    (hρ : ∀ x p, ρc.lookup x = some p → (x, NameKind.free) ∈ scope.names ∧ (V xs vs).lookup x = some p) (htn : ∀ x ∈ tgNames tgt, (x, NameKind.local) ∈ scope.names ∨ (x, NameKind.cell) ∈ scope.names)
    (L : CompR (CompStep prog w mg G k env scope ρc tgt ifs elt) need ps S₁ qs S₂) (hsz : ps.length ≤ sizeLine) (hy : env.kindOf y = some .local)
    (hsw : swapsWith (.ListComp elt [⟨tgt, iter, ifs, 0⟩] scope pos) (some (.Name y py)) spos.line env = pure true) (h : SetAt xs vs y (.obj S₂.length) vs') (hs : ∀ x, foldedSetIterable iter env x = pure x := by intro _; rfl) :
    EX prog w mg G k env (V xs vs) S (.Assign [.Name y py] (.ListComp elt [⟨tgt, iter, ifs, 0⟩] scope pos) spos) (.next (V xs vs') (S₂ ++ [.list qs])) := Lock.mk fun A σ s T O Q E H =>
  (EX.assignComp hi ok hρ htn L hsz hy hsw hs).run A σ s T O Q E fun σ' h' tk' R X E' => H σ' h' tk' R X (E'.congr (V.set h hn.nd))
theorem EXs.congr {o : Out} {st : List Stmt} (e : ∀ y, ρ'.lookup y = ρ.lookup y) (H : EXs prog w mg G k env ρ' S st o) : EXs prog w mg G k env ρ S st o := Lock.mk fun A σ s T O Q E K =>
  H.run A σ s ⟨T.gd, T.room, T.stk, T.rel, T.er.congr e, T.own⟩ O Q E K

theorem EX.ifT {test : Expr} {body orelse : List Stmt} {pos : Pos} {b : Bool} {o : Out} (h1 : EB prog w mg G k env ρ S test b S₁) (hb : b = true) (h2 : EXs prog w mg G k env ρ S₁ body o) : EX prog w mg G k env ρ S (.If test body orelse pos) o :=
  EX.if_ h1 (fun _ => h2) fun h => by rw [hb] at h; cases h
theorem EX.ifF {test : Expr} {body orelse : List Stmt} {pos : Pos} {b : Bool} {o : Out} (h1 : EB prog w mg G k env ρ S test b S₁) (hb : b = false) (h2 : EXs prog w mg G k env ρ S₁ orelse o) : EX prog w mg G k env ρ S (.If test body orelse pos) o :=
  EX.if_ h1 (fun h => by rw [hb] at h; cases h) fun _ => h2

theorem EXs.asg {x : Str} {px pos : Pos} {e : Expr} {p : PV} {rest : List Stmt} {o : Out} (hn : Nm xs) (hk : ∀ x ∈ xs, env.kindOf x = some .local ∨ env.kindOf x = some .cell) (h1 : EV prog w mg G k env (V xs vs) S e p S₁) (h : SetAt xs vs x p vs')
    (hs : swapsWith e (some (.Name x px)) pos.line env = pure false) (h2 : EXs prog w mg G k env (V xs vs') S₁ rest o) : EXs prog w mg G k env (V xs vs) S (.Assign [.Name x px] e pos :: rest) o := EXs.cons (EX.asg hn hk h1 h hs) h2
theorem EXs.setL {oo i value : Expr} {pos' pos : Pos} {p : PV} {n j : Nat} {l : List PV} {rest : List Stmt} {o : Out} (h1 : EV prog w mg G k env ρ S value p S₁) (h2 : EV prog w mg G k env ρ S₁ oo (.obj n) S₂) (h3 : EV prog w mg G k env ρ S₂ i (.int j) S₃) (hn : S₃[n]? = some (.list l)) (hj : j < l.length) (hl : l.length ≤ sizeLine)
    (hs : swapsWith value (some (.Subscript oo i pos')) pos.line env = pure false) (h : EXs prog w mg G k env ρ (S₃.set n (.list (l.set j p))) rest o) : EXs prog w mg G k env ρ S (.Assign [.Subscript oo i pos'] value pos :: rest) o := EXs.cons (EX.setL h1 h2 h3 hn hj hl hs) h
theorem EXs.expr {e : Expr} {pos : Pos} {p : PV} {rest : List Stmt} {o : Out} (h1 : EV prog w mg G k env ρ S e p S₁) (hi : interactive env = false) (hs : swapsWith e Option.none pos.line env = pure false) (h : EXs prog w mg G k env ρ S₁ rest o) : EXs prog w mg G k env ρ S (.Expr e pos :: rest) o := EXs.cons (EX.expr h1 hi hs) h
theorem EXs.cont_ {pos : Pos} {rest : List Stmt} : EXs prog w mg G k env ρ S (.Continue pos :: rest) (.cont ρ S) := EXs.cont EX.continue_
theorem EXs.brk_ {pos : Pos} {rest : List Stmt} : EXs prog w mg G k env ρ S (.Break pos :: rest) (.brk ρ S) := EXs.brk EX.break_
theorem EXs.ret_ {e : Expr} {pos : Pos} {p : PV} {rest : List Stmt} (h : EV prog w mg G k env ρ S e p S₁) : EXs prog w mg G k env ρ S (.Return (some e) pos :: rest) (.ret p S₁) := EXs.stop (EX.ret h)

/-- what a comprehension takes along -/
inductive Sub (xs : List Str) (vs : List (Option PV)) (names : List (Str × NameKind)) : List Str → List (Option PV) → Prop where
  | nil : Sub xs vs names [] []
  | no {x : Str} {xc : List Str} {vc : List (Option PV)} (r : Sub xs vs names xc vc) : Sub xs vs names (x :: xc) (none :: vc)
  | take {x : Str} {p : PV} {xc : List Str} {vc : List (Option PV)} (h : At xs vs x (some p)) (m : (x, NameKind.free) ∈ names) (r : Sub xs vs names xc vc) : Sub xs vs names (x :: xc) (some p :: vc)
theorem Sub.use {names : List (Str × NameKind)} {xc : List Str} {vc : List (Option PV)} (H : Sub xs vs names xc vc) (nd : xs.Nodup) : ∀ x p, (V xc vc).lookup x = some p → (x, NameKind.free) ∈ names ∧ (V xs vs).lookup x = some p := by
  induction H with
  | nil => intro x p h; simp [V] at h
  | no r ih => intro x p h; rw [V] at h; exact ih x p h
  | @take y q xc vc h m r ih =>
    intro x p h'
    rw [V, List.lookup_cons] at h'
    by_cases hxy : (x == y) = true
    · simp only [hxy] at h'
      cases h'
      obtain rfl := beq_iff_eq.mp hxy
      exact ⟨m, V.look h nd⟩
    · simp only [hxy] at h'
      exact ih x p h'
theorem FN.go {f : Addr} {fd : FuncData} {body : List Stmt} {as ys : List Str} {ps : List PV} {r : PV} (D : DefAt G f fd body as) (hl : as.length = ps.length)
    (h : ∀ L, EXs prog w mg G k (fenv fd f L) (V (as ++ ys) (ps.map some ++ ys.map fun _ => none)) S body (.ret r S')) : OPL prog w mg G (k + 1) S ps (fun vs => PySem.call (.ref f) vs) r S' :=
  FN.intro D hl fun L => by rw [← V.zip as ys ps hl]; exact h L
theorem FN.goN {f : Addr} {fd : FuncData} {body : List Stmt} {as ys : List Str} {ps : List PV} (D : DefAt G f fd body as) (hl : as.length = ps.length)
    (h : ∀ L, ∃ ρ', EXs prog w mg G k (fenv fd f L) (V (as ++ ys) (ps.map some ++ ys.map fun _ => none)) S body (.next ρ' S')) : OPL prog w mg G (k + 1) S ps (fun vs => PySem.call (.ref f) vs) .none S' :=
  FN.introN D hl fun L => by rw [← V.zip as ys ps hl]; exact h L
end
set_option tactic.hygienic true
set_option tactic.hygienic false

noncomputable def ltP (c : Int) (x : Str) (d : Int) (y : Str) : Bool := if c == d then (if x == y then false else decide (x.cps.toList < y.cps.toList)) else decide (c < d)

theorem tuple_lt2 (l b : Addr) (c : Int) (t : Tok) (x : Str) (u : Tok) (c' : Int) (t' : Tok) (x' : Str) (u' : Tok) (n n2 : Nat) (dd dd2 : Option Addr) (sl sl2 : Array (Option Value)) :
    Meets (Builtin.«tuple.__lt__» ⟨[.ref l, .ref b], []⟩)
      (fun A R s => s.heap.get? l = some { cls := .type "tuple", dict := dd, data := .seq #[.int c t, .str x u] n, slots := sl } ∧ s.heap.get? b = some { cls := .type "tuple", dict := dd2, data := .seq #[.int c' t', .str x' u'] n2, slots := sl2 } ∧
        R (.ok (.ret (.bool (ltP c x c' x')))) s) :=
  .of_wp fun prog w A R s h => by
    obtain ⟨hp, g, d, tk, os⟩ := s; obtain ⟨hl, hb, h⟩ := h
    have f2 := AutoSeq1.sub_tuple_tuple
    have e1 : ∀ (A : Around) (E : Value → Shared → Prop) (s : Shared) (Q : Bool → Shared → Prop), Q (c == c') s → wpAny (model prog w) A (eqBool (.int c t) (.int c' t')) Q E s := fun _ _ _ _ h => wpAny_eqBool_int h
    have e2 : ∀ (A : Around) (E : Value → Shared → Prop) (s : Shared) (Q : Bool → Shared → Prop), Q (x == x') s → wpAny (model prog w) A (eqBool (.str x u) (.str x' u')) Q E s := fun _ _ _ _ h => eqBool_str h
    have r1 : ∀ (A : Around) (E : Value → Shared → Prop) (s : Shared) (Q : Value → Shared → Prop), Q (.bool (decide (c < c'))) s → wpAny (model prog w) A (richCompare .Lt (.int c t) (.int c' t')) Q E s := fun _ _ _ _ h => lt_int h
    have r2 : ∀ (A : Around) (E : Value → Shared → Prop) (s : Shared) (Q : Value → Shared → Prop), Q (.bool (decide (x.cps.toList < x'.cps.toList))) s → wpAny (model prog w) A (richCompare .Lt (.str x u) (.str x' u')) Q E s := fun _ _ _ _ h => lt_str h
    unfold ltP at h
    cases hc : c == c' with
    | false =>
      rw [hc] at h e1
      wp_walk using wpAny_loadPart' hl, wpAny_loadPart' hb, e1 _ _ _ _, r1 _ _ _ _
      exact ⟨_, rfl, h⟩
    | true =>
      rw [hc] at h e1
      cases hx : x == x' with
      | false =>
        rw [hx] at h e2
        wp_walk using wpAny_loadPart' hl, wpAny_loadPart' hb, e1 _ _ _ _, e2 _ _ _ _, r2 _ _ _ _
        exact ⟨_, rfl, h⟩
      | true =>
        rw [hx] at h e2
        wp_walk using wpAny_loadPart' hl, wpAny_loadPart' hb, e1 _ _ _ _, e2 _ _ _ _
        exact ⟨_, rfl, h⟩
set_option tactic.hygienic true
section
variable {prog : Program} {w : World} {mg : Str → Option Value} {G : Heap} {k : Nat} {env : Env} {ρ ρ' ρ₁ ρ₂ : Vars} {S S₁ S₂ S₃ S' : List PO}

theorem O.ltT {c d : Int} {x y : Str} : OP2 prog w mg G k S (.tup [.int c, .str x]) (.tup [.int d, .str y]) (compareOp .Lt) (.bool (ltP c x d y)) S := Lock.mk fun A σ s v u _ r _ R V U Q E H => by
  cases V with
  | tup hF ho hc hd hl hi =>
    cases U with
    | tup hF' ho' hc' hd' hl' hi' =>
      rename_i a o vs n b o' us m
      have shape : ∀ (vs : Array Value) (c : Int) (x : Str), vs.size = 2 → (∀ (i : Nat) (v : Value) (p : PV), vs[i]? = some v → [PV.int c, PV.str x][i]? = some p → VR σ S.length s.heap v p) → ∃ t u, vs = #[.int c t, .str x u] := fun vs c x hl hi => by
        obtain ⟨l⟩ := vs
        match l, hl with
        | [v0, v1], _ =>
          have h0 := hi 0 v0 _ (by simp) rfl
          have h1 := hi 1 v1 _ (by simp) rfl
          cases h0; cases h1
          exact ⟨_, _, rfl⟩
      obtain ⟨t, u, rfl⟩ := shape vs c x hl hi
      obtain ⟨t', u', rfl⟩ := shape us d y hl' hi'
      obtain ⟨cl, di, da, sl⟩ := o
      obtain ⟨cl', di', da', sl'⟩ := o'
      simp only at hc hd hc' hd'
      subst hc hd hc' hd'
      exact richCompare_meets_room (op := .Lt) ⟨_, ho, rfl⟩ ⟨_, ho', rfl⟩ PySem.F.slot_tuple_lt PySem.F.entry_tuple_lt (PySem.F.args_tuple_lt_2 _ _) (tuple_lt2 a b c t x u d t' y u' n m di di' sl sl')
        ⟨ho, ho', (fun e => nomatch e), H _ σ s.heap s.toks R Ext.refl (.bool _)⟩ (by have := r.units; omega)

theorem any_eq {σ : Lo} {N : Nat} {h : Heap} {us : Array Value} {l : List PV} (V : VRs σ N h us l) (e : Value → Bool) (f : PV → Bool) (hf : ∀ v p, VR σ N h v p → p ∈ l → e v = f p) : us.any e = l.any f := by
  obtain ⟨vs⟩ := us
  rw [List.any_toArray]
  induction l generalizing vs with
  | nil => rw [V.unnil]; rfl
  | cons p l ih =>
    obtain ⟨v, vs', rfl, a, b⟩ := V.uncons
    rw [List.any_cons, List.any_cons, hf v p a (.head _), ih (fun v q c m => hf v q c (.tail _ m)) vs' b]
noncomputable def isStrB (x : Str) : Value → Bool | .str y _ => y == x | _ => false
noncomputable def isIntB (x : Int) : Value → Bool | .int y _ => y == x | _ => false
theorem O.inStrs {x : Str} {n : Nat} {xs : List Str} (hn : S[n]? = some (.list (xs.map .str))) (neg : Bool) : OP2 prog w mg G k S (.str x) (.obj n) (compareOp (if neg then .NotIn else .In)) (.bool (if neg then !(xs.any (· == x)) else xs.any (· == x))) S := Lock.mk fun A σ s v u _ _ _ R V U Q E H => by
  (first | (obtain ⟨_, rfl⟩ := VR.inv U) | (obtain rfl := VR.inv U)); (first | (obtain ⟨_, rfl⟩ := VR.inv V) | (obtain rfl := VR.inv V)); rename_i t
  obtain ⟨us, c, ho, hu⟩ := R.objs n _ hn
  have hl : s.heap.IsList (σ.p n) us := ⟨_, ho, rfl, c, rfl⟩
  have key : us.any (isStrB x) = xs.any (· == x) := by
    rw [any_eq hu (isStrB x) (fun p => match p with | .str y => y == x | _ => false) (fun v p a m => by
      obtain ⟨y, _, rfl⟩ := List.mem_map.mp m
      cases a; rfl), List.any_map]
    rfl
  have he : ∀ y, y ∈ us → PySem.SeqAt.EqAt A.in1 s y (.str x t) (isStrB x y) := fun y hy => by
    obtain ⟨i, hi, rfl⟩ := Array.mem_iff_getElem.mp hy
    have hi' : i < (xs.map PV.str).length := by rw [← hu.1]; exact hi
    have := hu.2 i us[i] ((xs.map PV.str)[i]) (by simp [hi]) (by rw [List.getElem?_eq_getElem hi'])
    rw [List.getElem_map] at this
    generalize us[i] = z at this ⊢
    cases this with
    | str y t' => exact (PyProof.Rows.eqGives_str _ _ _ _).at _ _
  cases neg with
  | false =>
    refine PySem.SeqAt.in_listAt (isStrB x) hl he ?_
    rw [key]
    exact H _ σ s.heap s.toks R Ext.refl (.bool _)
  | true =>
    refine PySem.SeqAt.notIn_listAt (isStrB x) hl he ?_
    rw [key]
    exact H _ σ s.heap s.toks R Ext.refl (.bool _)
theorem O.inInts {x : Int} {n : Nat} {xs : List Int} (hn : S[n]? = some (.list (xs.map .int))) : OP2 prog w mg G k S (.int x) (.obj n) (compareOp .In) (.bool (xs.any (· == x))) S := Lock.mk fun A σ s v u _ _ _ R V U Q E H => by
  (first | (obtain ⟨_, rfl⟩ := VR.inv U) | (obtain rfl := VR.inv U)); (first | (obtain ⟨_, rfl⟩ := VR.inv V) | (obtain rfl := VR.inv V)); rename_i t
  obtain ⟨us, c, ho, hu⟩ := R.objs n _ hn
  have hl : s.heap.IsList (σ.p n) us := ⟨_, ho, rfl, c, rfl⟩
  have key : us.any (isIntB x) = xs.any (· == x) := by
    rw [any_eq hu (isIntB x) (fun p => match p with | .int y => y == x | _ => false) (fun v p a m => by
      obtain ⟨y, _, rfl⟩ := List.mem_map.mp m
      cases a; rfl), List.any_map]
    rfl
  have he : ∀ y, y ∈ us → PySem.SeqAt.EqAt A.in1 s y (.int x t) (isIntB x y) := fun y hy => by
    obtain ⟨i, hi, rfl⟩ := Array.mem_iff_getElem.mp hy
    have hi' : i < (xs.map PV.int).length := by rw [← hu.1]; exact hi
    have := hu.2 i us[i] ((xs.map PV.int)[i]) (by simp [hi]) (by rw [List.getElem?_eq_getElem hi'])
    rw [List.getElem_map] at this
    generalize us[i] = z at this ⊢
    cases this with
    | int y t' => exact (PySem.MeetsSeq.EqGives.int _ _ _ _).at _ _
  refine PySem.SeqAt.in_listAt (isIntB x) hl he ?_
  rw [key]
  exact H _ σ s.heap s.toks R Ext.refl (.bool _)

/-- what a value reads as -/
inductive RD (S : List PO) : PV → PyData → Prop where
  | none : RD S .none .none
  | bool (b : Bool) : RD S (.bool b) (.bool b)
  | int (i : Int) : RD S (.int i) (.int i)
  | str (x : Str) : RD S (.str x) (.str x)
  | tup {l : List PV} {ds : List PyData} (hl : l.length = ds.length) (h : ∀ (i : Nat) (p : PV) (d : PyData), l[i]? = some p → ds[i]? = some d → RD S p d) : RD S (.tup l) (.tuple ds)
  | list {n : Nat} {l : List PV} {ds : List PyData} (hn : S[n]? = some (.list l)) (hl : l.length = ds.length) (h : ∀ (i : Nat) (p : PV) (d : PyData), l[i]? = some p → ds[i]? = some d → RD S p d) : RD S (.obj n) (.list ds)
theorem RD.all {σ : Lo} {h : Heap} {us : Array Value} {l : List PV} {ds : List PyData} (V : VRs σ S.length h us l) (hl : l.length = ds.length) (f : ∀ (i : Nat) (p : PV) (d : PyData), l[i]? = some p → ds[i]? = some d → ∀ v, VR σ S.length h v p → ∃ as, Reads h v d as) : ∃ as, ReadsAll h us.toList ds as := by
  obtain ⟨vs⟩ := us
  show ∃ as, ReadsAll h vs ds as
  induction l generalizing vs ds with
  | nil =>
    rw [V.unnil]
    cases ds with
    | nil => exact ⟨_, .nil⟩
    | cons => simp at hl
  | cons p l ih =>
    obtain ⟨v, vs', rfl, a, b⟩ := V.uncons
    cases ds with
    | nil => simp at hl
    | cons d ds =>
      obtain ⟨as, ha⟩ := f 0 p d rfl rfl v a
      obtain ⟨bs, hb⟩ := ih (by simpa using hl) (fun i p d h1 h2 => f (i + 1) p d (by simpa using h1) (by simpa using h2)) vs' b
      exact ⟨_, .cons ha hb⟩
theorem RD.reads {σ : Lo} {h : Heap} (R : Rel w.params G σ S h) {p : PV} {d : PyData} (D : RD S p d) : ∀ v, VR σ S.length h v p → ∃ as, Reads h v d as := by
  induction D with
  | none => intro v V; (first | (obtain ⟨_, rfl⟩ := VR.inv V) | (obtain rfl := VR.inv V)); exact ⟨_, .none⟩
  | bool b => intro v V; (first | (obtain ⟨_, rfl⟩ := VR.inv V) | (obtain rfl := VR.inv V)); exact ⟨_, .bool _⟩
  | int i => intro v V; (first | (obtain ⟨_, rfl⟩ := VR.inv V) | (obtain rfl := VR.inv V)); exact ⟨_, .int _ _⟩
  | str x => intro v V; (first | (obtain ⟨_, rfl⟩ := VR.inv V) | (obtain rfl := VR.inv V)); exact ⟨_, .str _ _⟩
  | tup hl h ih =>
    intro v V
    cases V with
    | tup hF ho hc hd hl' hi =>
      obtain ⟨as, ha⟩ := RD.all ⟨hl', hi⟩ hl ih
      exact ⟨_, .tuple ho hc hd ha⟩
  | list hn hl h ih =>
    intro v V
    (first | (obtain ⟨_, rfl⟩ := VR.inv V) | (obtain rfl := VR.inv V))
    obtain ⟨us, c, ho, hu⟩ := R.objs _ _ hn
    obtain ⟨as, ha⟩ := RD.all hu hl ih
    exact ⟨_, .list ho rfl rfl ha⟩
theorem O.eqD {p q : PV} {d e : PyData} (hp : RD S p d) (hq : RD S q e) (sd : PySem.SeqAt.shaped d = true) (se : PySem.SeqAt.shaped e = true) : OP2 prog w mg G k S p q (compareOp .Eq) (.bool (PyData.eqv d e)) S := Lock.mk fun A σ s v u _ r _ R V U Q E H => by
  obtain ⟨as, ra⟩ := hp.reads R v V
  obtain ⟨bs, rb⟩ := hq.reads R u U
  exact PySem.SeqAt.compareEq_shaped ra rb sd se (by have := r.units; omega) (H _ σ s.heap s.toks R Ext.refl (.bool _))
theorem O.neD {p q : PV} {d e : PyData} (hp : RD S p d) (hq : RD S q e) (sd : PySem.SeqAt.shaped d = true) (se : PySem.SeqAt.shaped e = true) : OP2 prog w mg G k S p q (compareOp .NotEq) (.bool (!PyData.eqv d e)) S := Lock.mk fun A σ s v u _ r _ R V U Q E H => by
  obtain ⟨as, ra⟩ := hp.reads R v V
  obtain ⟨bs, rb⟩ := hq.reads R u U
  exact PySem.SeqAt.compareNe_shaped ra rb sd se (by have := r.units; omega) (H _ σ s.heap s.toks R Ext.refl (.bool _))
end
set_option tactic.hygienic false

noncomputable abbrev It := Int × Str
noncomputable abbrev enc (x : It) : PV := .tup [.int x.1, .str x.2]
noncomputable abbrev ltI (a b : It) : Bool := ltP a.1 a.2 b.1 b.2
noncomputable def sdn (x : It) (h : List It) (pos : Nat) : List It × Nat :=
  if hp : pos = 0 then (h, 0) else
    match h[(pos - 1) / 2]? with
    | some y => if ltI x y then sdn x (h.set pos y) ((pos - 1) / 2) else (h, pos)
    | none => (h, pos)
  termination_by pos
  decreasing_by omega

theorem sdn_zero (x : It) (h : List It) : sdn x h 0 = (h, 0) := by rw [sdn]; rfl
theorem sdn_go {x y : It} {h : List It} {pos : Nat} (h0 : pos ≠ 0) (hy : h[(pos - 1) / 2]? = some y) : sdn x h pos = if ltI x y then sdn x (h.set pos y) ((pos - 1) / 2) else (h, pos) := by
  rw [sdn, dif_neg h0, hy]
theorem sdn_len (x : It) (h : List It) (pos : Nat) : (sdn x h pos).1.length = h.length := by
  induction pos using Nat.strongRecOn generalizing h with
  | ind pos ih =>
    rw [sdn]
    split
    · rfl
    · split
      · split
        · rw [ih _ (by omega)]; simp
        · rfl
      · rfl
theorem sdn_le (x : It) (h : List It) (pos : Nat) : (sdn x h pos).2 ≤ pos := by
  induction pos using Nat.strongRecOn generalizing h with
  | ind pos ih =>
    rw [sdn]
    split
    · omega
    · split
      · split
        · exact Nat.le_trans (ih _ (by omega) _) (by omega)
        · exact Nat.le_refl _
      · exact Nat.le_refl _

theorem half_int {pos : Nat} (h : pos ≠ 0) : ((pos : Int) - 1).fdiv (2 ^ Int.toNat 1) = (((pos - 1) / 2 : Nat) : Int) := by
  have e : ((pos : Int) - 1) = ((pos - 1 : Nat) : Int) := by omega
  rw [e, show ((2 : Int) ^ Int.toNat 1) = ((2 : Nat) : Int) from rfl, Int.fdiv_eq_ediv_of_nonneg _ (by omega)]
  omega
theorem set_same {α : Type} {S : List α} {n : Nat} {o : α} (h : S[n]? = some o) : S.set n o = S := by
  obtain ⟨hl, e⟩ := List.getElem?_eq_some_iff.mp h
  rw [← e, List.set_getElem_self]
theorem seqIdx {n : Nat} {i : Int} (h0 : 0 ≤ i) (h1 : i < n) : seqIndex? i n = some i.toNat := by
  unfold seqIndex?
  have : ¬ i < 0 := by omega
  simp [this, h0, h1]

noncomputable def xsSD : List Str := ["heap", "startpos", "pos", "newitem", "parentpos", "parent"]
noncomputable abbrev xSD : List Str := ["heap", "startpos", "pos", "newitem", "parentpos", "parent"]
theorem nmSD : Nm xSD := ⟨by decide +kernel, by decide +kernel⟩

local macro_rules | `(tactic| array_get_dec) => do
  let nm : String → Lean.Ident := fun s => Lean.mkIdent ((s.splitOn ".").foldl Lean.Name.str `Mine)
  let xs ← ("EXs.nil EV.int EV.int0 EV.str EV.bool EV.none EPart.no ELs.nil O.subI O.addI O.mulI2 O.ltI O.leI O.gtI O.geI O.eqI O.neI O.eqS O.neS O.ltT O.inS O.isBB O.isNotBB O.isSO O.isOO O.isNotSO SetAt.hd SetAts.nil".splitOn " ").toArray.mapM fun s => `(tacticSeq| exact $(nm s))
  let ts ← ("EXs.asg EXs.asgT EXs.setL EXs.expr EXs.cont_ EXs.brk_ EXs.ret_ EV.bin EV.sliceS EV.sub EPart.some EV.neg EV.cmp EB.cmp EB.not ELs.cons SetAt.tl SetAts.cons EV.tup EV.list EV.len EV.callF EV.callF0 EV.meth EV.meth0".splitOn " ").toArray.mapM fun s => `(tacticSeq| apply $(nm s))
  `(tactic| first
    | with_reducible first
      | (show (_ : Prop); assumption)
      | (apply $(nm "EV.nm") (by assumption); (repeat (first | exact $(nm "At.hd") | apply $(nm "At.tl"))); done)
      $[| $xs]*
      | exact $(nm "O.shrI") (by decide) | exact $(nm "O.fdivI") (by assumption) (by decide) | exact $(nm "O.modI") (by decide)
      $[| $ts]*
      | exact $(nm "MT.list") (by assumption) PySem.F.slot_list_append PySem.F.type_list_append
      | exact $(nm "MT.list") (by assumption) PySem.F.slot_list_pop PySem.F.type_list_pop
    | exact rfl
    | exact Nat.le_of_ble_eq_true rfl
    | exact fun _ _ => rfl
    | decide
    | fail)
local macro_rules | `(tactic| sizeOf_list_dec) => `(tactic| ((try conv in (bodyOf _) => whnf); (try conv in (testOf _) => whnf)))

section
variable {prog : Program} {w : World} {mg : Str → Option Value} {G : Heap} {k : Nat}

noncomputable def sdW : Stmt := (bd 16).getD 1 default
theorem sd_loop {env : Env} (hk : ∀ x ∈ xSD, env.kindOf x = some .local ∨ env.kindOf x = some .cell) {n : Nat} {x : It} : ∀ (pos : Nat) (S : List PO) (l : List It) (o1 o2 : Option PV), S[n]? = some (.list (l.map enc)) → pos < l.length → l.length ≤ sizeLine →
    ∃ o1' o2', WLoop prog w mg G k env (testOf sdW) (bodyOf sdW) (V xSD [some (.obj n), some (.int 0), some (.int pos), some (enc x), o1, o2]) S
      (.next (V xSD [some (.obj n), some (.int 0), some (.int (sdn x l pos).2), some (enc x), o1', o2']) (S.set n (.list ((sdn x l pos).1.map enc)))) := by
  intro pos
  induction pos using Nat.strongRecOn with
  | ind pos ih =>
    intro S l o1 o2 hn hl hz
    have nm := nmSD
    have hb : sizeLine < 2 ^ 63 := by decide
    by_cases h0 : pos = 0
    · refine ⟨o1, o2, ?_⟩
      subst h0
      rw [sdn_zero, set_same hn]
      apply WLoop.stop
      have ht : EB prog w mg G k env (V xSD [some (.obj n), some (.int 0), some (.int (0 : Nat)), some (enc x), o1, o2]) S (testOf sdW) (decide ((0 : Int) < (0 : Nat))) S := by
        sizeOf_list_dec
        repeat' array_get_dec
      simpa using ht
    · have hq : (pos - 1) / 2 < l.length := by omega
      have ht : EB prog w mg G k env (V xSD [some (.obj n), some (.int 0), some (.int pos), some (enc x), o1, o2]) S (testOf sdW) (decide ((0 : Int) < pos)) S := by
        sizeOf_list_dec
        repeat' array_get_dec
      rw [decide_eq_true (by omega)] at ht
      obtain ⟨y, hy⟩ : ∃ y, l[(pos - 1) / 2]? = some y := ⟨_, List.getElem?_eq_getElem hq⟩
      rw [sdn_go h0 hy]
      have hs : SUB prog w mg G k S (.obj n) (.int (((pos : Int) - 1).fdiv (2 ^ Int.toNat 1))) (enc y) S := by
        rw [half_int h0]
        exact SUB.list hn (by omega) (by omega) (seqIdx (by omega) (by simp; omega)) (by rw [Int.toNat_natCast, List.getElem?_map, hy]; rfl)
      cases hlt : ltI x y with
      | false =>
        rw [if_neg (by simp)]
        rw [set_same hn]
        refine ⟨some (.int (((pos : Int) - 1).fdiv (2 ^ Int.toNat 1))), some (enc y), ?_⟩
        apply WLoop.brk ht
        sizeOf_list_dec
        repeat' array_get_dec
        apply EXs.cons
        · apply EX.ifF (b := ltI x y)
          · repeat' array_get_dec
          · exact hlt
          · repeat' array_get_dec
        · repeat' array_get_dec
      | true =>
        rw [if_pos rfl]
        obtain ⟨a, b, hw⟩ := ih ((pos - 1) / 2) (by omega) (S.set n (.list ((l.set pos y).map enc))) (l.set pos y) (some (.int (((pos - 1) / 2 : Nat) : Int))) (some (enc y)) (by rw [List.getElem?_set_self (List.getElem?_eq_some_iff.mp hn).1]) (by simp; omega) (by simp; exact hz)
        refine ⟨a, b, ?_⟩
        rw [List.set_set] at hw
        refine WLoop.cont ht ?_ hw
        have key : EXs prog w mg G k env (V xSD [some (.obj n), some (.int 0), some (.int pos), some (enc x), o1, o2]) S (bodyOf sdW) (.cont (V xSD [some (.obj n), some (.int 0), some (.int (((pos : Int) - 1).fdiv (2 ^ Int.toNat 1))), some (enc x), some (.int (((pos : Int) - 1).fdiv (2 ^ Int.toNat 1))), some (enc y)]) (S.set n (.list ((l.map enc).set pos (enc y))))) := by
          sizeOf_list_dec
          repeat' array_get_dec
          apply EXs.cont
          apply EX.ifT (b := ltI x y)
          · repeat' array_get_dec
          · exact hlt
          · repeat' array_get_dec
            · simpa using hl
            · simpa using hz
        rw [half_int h0, ← List.map_set] at key
        exact key
end
set_option tactic.hygienic true
set_option tactic.hygienic false
/-- what the top holds -/
structure Top (mg : Str → Option Value) (G : Heap) : Prop where
  fn : ∀ i ∈ [5, 6, 10, 12, 14, 15, 16, 17, 19, 20, 21, 22, 23, 24, 25, 26, 27, 28], ∃ f fd, mg (nameOf (nth i)) = some (.ref f) ∧ DefAt G f fd (bd i) (argsOf (nth i)) ∧ fd.scope = sc i
  bi : ∀ x ∈ (["len", "range", "min", "max", "str", "int", "sorted", "zip", "isinstance", "tuple", "object"] : List Str), mg x = none

section
variable {prog : Program} {w : World} {mg : Str → Option Value} {G : Heap} {k : Nat} {env : Env} {ρ : Vars} {S S₁ S₂ S' : List PO}
theorem DefAt.kp {f : Addr} {fd : FuncData} {body : List Stmt} {xs : List Str} (D : DefAt G f fd body xs) : Kp G (.ref f) := let ⟨_, e, d⟩ := D.at_; Kp.fn e d
theorem EV.callF {x : Str} {p pos : Pos} {e : Expr} {es : List Expr} {f : Addr} {ps : List PV} {r : PV} (hk : env.kindOf x = some .globalImplicit) (hm : mg x = some (.ref f)) (hK : Kp G (.ref f)) (h1 : ELs prog w mg G k env ρ S pos (e :: es) ps S₁)
    (h2 : OPL prog w mg G k S₁ ps (fun vs => PySem.call (.ref f) vs) r S') (hd : (x == ("__debug__" : Str)) = false := by decide)
    (he : starEach (e :: es) env = (false, eval e env) :: starEach es env := by rfl) (hp : (backTo pos (starEach es env)).any (·.1) = false := by rfl) :
    EV prog w mg G k env ρ S (.Call (.Name x p) (e :: es) [] pos) r S' := EV.callN (EV.glob hk hm hd) hK h1 h2 he hp
theorem EV.callF0 {x : Str} {p pos : Pos} {f : Addr} {r : PV} (hk : env.kindOf x = some .globalImplicit) (hm : mg x = some (.ref f)) (hK : Kp G (.ref f))
    (h2 : OPL prog w mg G k S [] (fun vs => PySem.call (.ref f) vs) r S') (hd : (x == ("__debug__" : Str)) = false := by decide) :
    EV prog w mg G k env ρ S (.Call (.Name x p) [] [] pos) r S' := EV.callN0 (EV.glob hk hm hd) hK h2
theorem EV.callB {x : Str} {p pos : Pos} {e : Expr} {es : List Expr} {b : Value} {ps : List PV} {r : PV} (T : Top mg G) (hk : env.kindOf x = some .globalImplicit) (hx : x ∈ (["len", "range", "min", "max", "str", "int", "sorted", "zip", "isinstance", "tuple", "object"] : List Str)) (hv : bootBuiltins x = some b) (hK : Kp G b) (h1 : ELs prog w mg G k env ρ S pos (e :: es) ps S₁)
    (h2 : OPL prog w mg G k S₁ ps (fun vs => PySem.call b vs) r S') (hn : x ≠ "__name__" := by decide) (hd : (x == ("__debug__" : Str)) = false := by decide)
    (he : starEach (e :: es) env = (false, eval e env) :: starEach es env := by rfl) (hp : (backTo pos (starEach es env)).any (·.1) = false := by rfl) :
    EV prog w mg G k env ρ S (.Call (.Name x p) (e :: es) [] pos) r S' := EV.callN (EV.builtin hk (T.bi x hx) hv hn hd) hK h1 h2 he hp
theorem EV.len {p pos : Pos} {e : Expr} {q r : PV} (T : Top mg G) (hk : env.kindOf "len" = some .globalImplicit) (h1 : EV prog w mg G k env ρ S e q S₁) (h2 : OPL prog w mg G k S₁ [q] (fun vs => PySem.call (.builtin "len") vs) r S')
    (he : starEach [e] env = (false, eval e env) :: starEach [] env := by rfl) :
    EV prog w mg G k env ρ S (.Call (.Name "len" p) [e] [] pos) r S' := EV.callB T hk (by decide +kernel) (by decide +kernel) Kp.builtin (ELs.cons h1 ELs.nil he) h2 (by decide +kernel) (by decide +kernel) he
end

noncomputable abbrev siftdown (l : List It) (x : It) (pos : Nat) : List It := (sdn x l pos).1.set (sdn x l pos).2 x

section
variable {prog : Program} {w : World} {mg : Str → Option Value} {G : Heap} {k : Nat}
theorem kinds (i : Nat) (xs : List Str) (h : (xs.all fun x => (sc i).names.lookup x == some .local || (sc i).names.lookup x == some .cell) = true) {env : Env} (he : env.scope = sc i) : ∀ x ∈ xs, env.kindOf x = some .local ∨ env.kindOf x = some .cell := by
  intro x hx
  have := List.all_eq_true.mp h x hx
  rw [Bool.or_eq_true, beq_iff_eq, beq_iff_eq] at this
  unfold Env.kindOf
  rw [he]; exact this

theorem siftdown_ok (T : Top mg G) : ∃ f, mg "_siftdown" = some (.ref f) ∧ Kp G (.ref f) ∧ ∀ (k : Nat) (S : List PO) (n pos : Nat) (l : List It) (x : It), S[n]? = some (.list (l.map enc)) → l[pos]? = some x → l.length ≤ sizeLine →
    OPL prog w mg G (k + 1) S [.obj n, .int 0, .int pos] (fun vs => PySem.call (.ref f) vs) .none (S.set n (.list ((siftdown l x pos).map enc))) := by
  obtain ⟨f, fd, hm, D, hs⟩ := T.fn 16 (by decide)
  refine ⟨f, hm, D.kp, fun k S n pos l x hn hx hz => ?_⟩
  refine FN.goN (as := ["heap", "startpos", "pos"]) (ys := ["newitem", "parentpos", "parent"]) D rfl fun L => ?_
  have hk := kinds 16 xSD (by decide +kernel) (env := fenv fd f L) hs
  generalize fenv fd f L = env at hk
  have nm := nmSD
  have hl : pos < l.length := (List.getElem?_eq_some_iff.mp hx).1
  have hb : sizeLine < 2 ^ 63 := by decide
  obtain ⟨a, b, W⟩ := sd_loop (prog := prog) (w := w) (mg := mg) (G := G) (k := k) hk (x := x) pos S l Option.none Option.none hn hl hz
  have hsub : SUB prog w mg G k S (.obj n) (.int pos) (enc x) S := SUB.list hn (by omega) (by omega) (seqIdx (by omega) (by simp; omega)) (by rw [Int.toNat_natCast, List.getElem?_map, hx]; rfl)
  refine Exists.intro ?ρ ?_
  rotate_left
  show EXs prog w mg G k env (V xSD [some (.obj n), some (.int 0), some (.int pos), Option.none, Option.none, Option.none]) S (bd 16) _
  conv in (bd 16) => whnf
  repeat' array_get_dec
  · refine EXs.cons (EX.while_ W) ?_
    have hlen := sdn_len x l pos
    have hle := sdn_le x l pos
    rw [show S.set n (.list ((siftdown l x pos).map enc)) = (S.set n (.list ((sdn x l pos).1.map enc))).set n (.list (((sdn x l pos).1.map enc).set (sdn x l pos).2 (enc x))) from by rw [List.set_set, List.map_set]]
    repeat' array_get_dec
    · rw [List.getElem?_set_self (List.getElem?_eq_some_iff.mp hn).1]
    · rw [List.length_map]; omega
    · rw [List.length_map]; omega

/-! heappush -/
noncomputable abbrev xPush : List Str := ["heap", "item"]
theorem nmPush : Nm xPush := ⟨by decide +kernel, by decide +kernel⟩
noncomputable abbrev push (l : List It) (x : It) : List It := siftdown (l ++ [x]) x l.length
theorem heappush_ok (T : Top mg G) : ∃ f, mg "heappush" = some (.ref f) ∧ Kp G (.ref f) ∧ ∀ (k : Nat) (S : List PO) (n : Nat) (l : List It) (x : It), S[n]? = some (.list (l.map enc)) → l.length + 1 ≤ sizeLine →
    OPL prog w mg G (k + 2) S [.obj n, enc x] (fun vs => PySem.call (.ref f) vs) .none (S.set n (.list ((push l x).map enc))) := by
  obtain ⟨f, fd, hm, D, hs⟩ := T.fn 14 (by decide)
  obtain ⟨fs, ms, Ks, sd⟩ := siftdown_ok (prog := prog) (w := w) T
  refine ⟨f, hm, D.kp, fun k S n l x hn hz => ?_⟩
  refine FN.goN (as := ["heap", "item"]) (ys := []) D rfl fun L => ?_
  have hk := kinds 14 xPush (by decide +kernel) (env := fenv fd f L) hs
  have hg : (fenv fd f L).kindOf "_siftdown" = some .globalImplicit := by unfold Env.kindOf; show fd.scope.names.lookup _ = _; rw [hs]; decide +kernel
  have hgl : (fenv fd f L).kindOf "len" = some .globalImplicit := by unfold Env.kindOf; show fd.scope.names.lookup _ = _; rw [hs]; decide +kernel
  have hi : interactive (fenv fd f L) = false := by unfold interactive; show (fd.scope.kind == _ && _) = _; rw [D.kind]; rfl
  generalize fenv fd f L = env at hk hg hgl hi
  have nm := nmPush
  refine Exists.intro ?ρ ?_
  rotate_left
  show EXs prog w mg G (k + 1) env (V xPush [some (.obj n), some (enc x)]) S (bd 14) _
  conv in (bd 14) => whnf
  have hn' : (S.set n (.list (l.map enc ++ [enc x])))[n]? = some (.list (l.map enc ++ [enc x])) := by rw [List.getElem?_set_self (List.getElem?_eq_some_iff.mp hn).1]
  have ha := OPL.append (prog := prog) (w := w) (mg := mg) (G := G) (k := k + 1) (p := enc x) hn (by simp; omega)
  have hl := OPL.lenL (prog := prog) (w := w) (mg := mg) (G := G) (k := k + 1) hn' (by simpa using hz)
  have hsd : OPL prog w mg G (k + 1) (S.set n (.list (l.map enc ++ [enc x]))) [.obj n, .int 0, .int (((l.map enc ++ [enc x]).length : Int) - 1)] (fun vs => PySem.call (.ref fs) vs) .none (S.set n (.list ((push l x).map enc))) := by
    have h := sd k (S.set n (.list ((l ++ [x]).map enc))) n l.length (l ++ [x]) x (by rw [List.getElem?_set_self (List.getElem?_eq_some_iff.mp hn).1]) (by simp) (by simp; exact hz)
    rw [List.set_set, List.map_append] at h
    have e : (((l.map enc ++ [enc x]).length : Int) - 1) = (l.length : Int) := by simp
    rw [e]; exact h
  repeat' array_get_dec

/-! siftup -/
/-- the smaller child moves up till there is none -/
noncomputable def sun (h : List It) (pos : Nat) : List It × Nat :=
  if hc : 2 * pos + 1 < h.length then
    let c := if 2 * pos + 2 < h.length ∧ ltI (h.getD (2 * pos + 1) default) (h.getD (2 * pos + 2) default) = false then 2 * pos + 2 else 2 * pos + 1
    sun (h.set pos (h.getD c default)) c
  else (h, pos)
  termination_by h.length - pos
  decreasing_by
    simp only [List.length_set]
    split <;> omega
noncomputable def chd (h : List It) (pos : Nat) : Nat := if 2 * pos + 2 < h.length ∧ ltI (h.getD (2 * pos + 1) default) (h.getD (2 * pos + 2) default) = false then 2 * pos + 2 else 2 * pos + 1
theorem sun_go {h : List It} {pos : Nat} (hc : 2 * pos + 1 < h.length) : sun h pos = sun (h.set pos (h.getD (chd h pos) default)) (chd h pos) := by
  rw [sun, dif_pos hc]; rfl
theorem sun_stop {h : List It} {pos : Nat} (hc : ¬ 2 * pos + 1 < h.length) : sun h pos = (h, pos) := by
  rw [sun, dif_neg hc]
theorem chd_lt {h : List It} {pos : Nat} (hc : 2 * pos + 1 < h.length) : chd h pos < h.length ∧ pos < chd h pos := by
  unfold chd; split <;> omega
theorem sun_len (h : List It) (pos : Nat) (hp : pos < h.length) : (sun h pos).1.length = h.length ∧ (sun h pos).2 < h.length := by
  induction m : h.length - pos using Nat.strongRecOn generalizing h pos with
  | ind m ih =>
    by_cases hc : 2 * pos + 1 < h.length
    · rw [sun_go hc]
      have hb := chd_lt hc
      have := ih (h.length - chd h pos) (by omega) (h.set pos (h.getD (chd h pos) default)) (chd h pos) (by simpa using hb.1) (by simp)
      simpa using this
    · rw [sun_stop hc]; exact ⟨rfl, hp⟩
end
set_option tactic.hygienic true
set_option tactic.hygienic false

noncomputable abbrev xSU : List Str := ["heap", "pos", "endpos", "startpos", "newitem", "childpos", "rightpos"]
theorem nmSU : Nm xSU := ⟨by decide +kernel, by decide +kernel⟩
noncomputable def suW : Stmt := (bd 17).getD 4 default

section
variable {prog : Program} {w : World} {mg : Str → Option Value} {G : Heap} {k : Nat} {S : List PO}
theorem SUB.item {n : Nat} {l : List It} {i : Nat} {x : It} (hn : S[n]? = some (.list (l.map enc))) (hx : l[i]? = some x) (hz : l.length ≤ sizeLine) : SUB prog w mg G k S (.obj n) (.int i) (enc x) S := by
  have hl : i < l.length := (List.getElem?_eq_some_iff.mp hx).1
  have hb : sizeLine < 2 ^ 63 := by decide
  exact SUB.list hn (by omega) (by omega) (seqIdx (by omega) (by simp; omega)) (by rw [Int.toNat_natCast, List.getElem?_map, hx]; rfl)
theorem SUB.item' {n : Nat} {l : List It} {i : Nat} {j : Int} {x : It} (hn : S[n]? = some (.list (l.map enc))) (hj : j = i) (hx : l[i]? = some x) (hz : l.length ≤ sizeLine) : SUB prog w mg G k S (.obj n) (.int j) (enc x) S := by
  rw [hj]; exact SUB.item hn hx hz

theorem su_loop {env : Env} (hk : ∀ x ∈ xSU, env.kindOf x = some .local ∨ env.kindOf x = some .cell) {n : Nat} {x : It} : ∀ (m pos : Nat) (S : List PO) (l : List It) (o : Option PV), m = l.length - pos → S[n]? = some (.list (l.map enc)) → pos < l.length → l.length ≤ sizeLine →
    ∃ o', WLoop prog w mg G k env (testOf suW) (bodyOf suW) (V xSU [some (.obj n), some (.int pos), some (.int l.length), some (.int 0), some (enc x), some (.int (2 * (pos : Int) + 1)), o]) S
      (.next (V xSU [some (.obj n), some (.int (sun l pos).2), some (.int l.length), some (.int 0), some (enc x), some (.int (2 * ((sun l pos).2 : Int) + 1)), o']) (S.set n (.list ((sun l pos).1.map enc)))) := by
  intro m
  induction m using Nat.strongRecOn with
  | ind m ih =>
    intro pos S l o hm hn hl hz
    have nm := nmSU
    have hb : sizeLine < 2 ^ 63 := by decide
    have ht : EB prog w mg G k env (V xSU [some (.obj n), some (.int pos), some (.int l.length), some (.int 0), some (enc x), some (.int (2 * (pos : Int) + 1)), o]) S (testOf suW) (decide (2 * (pos : Int) + 1 < l.length)) S := by
      sizeOf_list_dec
      repeat' array_get_dec
    by_cases hc : 2 * pos + 1 < l.length
    · rw [decide_eq_true (by omega)] at ht
      obtain ⟨y, hy⟩ : ∃ y, l[2 * pos + 1]? = some y := ⟨_, List.getElem?_eq_getElem hc⟩
      have hcd := chd_lt hc
      obtain ⟨z, hz1⟩ : ∃ z, l[chd l pos]? = some z := ⟨_, List.getElem?_eq_getElem hcd.1⟩
      have hzd : l.getD (chd l pos) default = z := by rw [List.getD_eq_getElem?_getD, hz1]; rfl
      rw [sun_go hc, hzd]
      have hsy : SUB prog w mg G k S (.obj n) (.int (2 * (pos : Int) + 1)) (enc y) S := SUB.item' hn (by omega) hy hz
      obtain ⟨o', hw⟩ := ih (l.length - chd l pos) (by omega) (chd l pos) (S.set n (.list ((l.set pos z).map enc))) (l.set pos z) (some (.int (2 * (pos : Int) + 1 + 1))) (by simp) (by rw [List.getElem?_set_self (List.getElem?_eq_some_iff.mp hn).1]) (by simpa using hcd.1) (by simpa using hz)
      refine ⟨o', WLoop.next ht ?_ (by rw [List.set_set, List.length_set] at hw; exact hw)⟩
      rw [List.map_set]
      have hsz : SUB prog w mg G k S (.obj n) (.int (chd l pos)) (enc z) S := SUB.item hn hz1 hz
      have hr : EB prog w mg G k env (V xSU [some (.obj n), some (.int pos), some (.int l.length), some (.int 0), some (enc x), some (.int (2 * (pos : Int) + 1)), some (.int (2 * (pos : Int) + 1 + 1))]) S (testOf ((bodyOf suW).getD 1 default)) (decide (chd l pos = 2 * pos + 2)) S := by
        conv in (testOf _) => whnf
        by_cases hR : 2 * pos + 2 < l.length
        · obtain ⟨y2, hy2⟩ : ∃ y2, l[2 * pos + 2]? = some y2 := ⟨_, List.getElem?_eq_getElem hR⟩
          have hs2 : SUB prog w mg G k S (.obj n) (.int (2 * (pos : Int) + 1 + 1)) (enc y2) S := SUB.item' hn (by omega) hy2 hz
          have ec : decide (chd l pos = 2 * pos + 2) = !ltI y y2 := by
            have e1 : l.getD (2 * pos + 1) default = y := by rw [List.getD_eq_getElem?_getD, hy]; rfl
            have e2 : l.getD (2 * pos + 2) default = y2 := by rw [List.getD_eq_getElem?_getD, hy2]; rfl
            unfold chd
            rw [e1, e2]
            cases ltI y y2 <;> simp [hR]
          rw [ec]
          refine EB.and (x := decide (2 * (pos : Int) + 1 + 1 < l.length)) (S₁ := S) ?_ (fun _ => ?_) (fun h => absurd (of_decide_eq_false h) (by omega))
          · repeat' array_get_dec
          · repeat' array_get_dec
        · have ec : decide (chd l pos = 2 * pos + 2) = false := by
            unfold chd
            simp [hR]
          rw [ec]
          refine EB.and (x := decide (2 * (pos : Int) + 1 + 1 < l.length)) (S₁ := S) ?_ (fun h => absurd (of_decide_eq_true h) (by omega)) (fun _ => ⟨rfl, rfl⟩)
          repeat' array_get_dec
      have hi : EX prog w mg G k env (V xSU [some (.obj n), some (.int pos), some (.int l.length), some (.int 0), some (enc x), some (.int (2 * (pos : Int) + 1)), some (.int (2 * (pos : Int) + 1 + 1))]) S ((bodyOf suW).getD 1 default)
          (.next (V xSU [some (.obj n), some (.int pos), some (.int l.length), some (.int 0), some (enc x), some (.int (chd l pos)), some (.int (2 * (pos : Int) + 1 + 1))]) S) := by
        by_cases he : chd l pos = 2 * pos + 2
        · apply EX.ifT hr (by simpa using he)
          have e : ((chd l pos : Nat) : Int) = 2 * (pos : Int) + 1 + 1 := by omega
          rw [e]
          repeat' array_get_dec
        · apply EX.ifF hr (by simpa using he)
          have e : ((chd l pos : Nat) : Int) = 2 * (pos : Int) + 1 := by
            have : chd l pos = 2 * pos + 1 := by
              unfold chd at he ⊢
              split
              · rename_i h; rw [if_pos h] at he; exact absurd rfl he
              · rfl
            omega
          rw [e]
          repeat' array_get_dec
      conv at hi in (List.getD _ _ _) => whnf
      sizeOf_list_dec
      repeat' array_get_dec
      refine EXs.cons hi ?_
      repeat' array_get_dec
      · rw [List.length_map]; exact hl
      · rw [List.length_map]; exact hz
    · rw [decide_eq_false (by omega)] at ht
      rw [sun_stop hc, set_same hn]
      exact ⟨o, WLoop.stop ht⟩

theorem siftup_ok (T : Top mg G) : ∃ f, mg "_siftup" = some (.ref f) ∧ Kp G (.ref f) ∧ ∀ (k : Nat) (S : List PO) (n : Nat) (l : List It) (x : It), S[n]? = some (.list (l.map enc)) → l[0]? = some x → l.length ≤ sizeLine →
    OPL prog w mg G (k + 2) S [.obj n, .int 0] (fun vs => PySem.call (.ref f) vs) .none (S.set n (.list ((siftdown ((sun l 0).1.set (sun l 0).2 x) x (sun l 0).2).map enc))) := by
  obtain ⟨f, fd, hm, D, hs⟩ := T.fn 17 (by decide)
  obtain ⟨fs, ms, Ks, sd⟩ := siftdown_ok (prog := prog) (w := w) T
  refine ⟨f, hm, D.kp, fun k S n l x hn hx hz => ?_⟩
  refine FN.goN (as := ["heap", "pos"]) (ys := ["endpos", "startpos", "newitem", "childpos", "rightpos"]) D rfl fun L => ?_
  have hk := kinds 17 xSU (by decide +kernel) (env := fenv fd f L) hs
  have hg : (fenv fd f L).kindOf "_siftdown" = some .globalImplicit := by unfold Env.kindOf; show fd.scope.names.lookup _ = _; rw [hs]; decide +kernel
  have hgl : (fenv fd f L).kindOf "len" = some .globalImplicit := by unfold Env.kindOf; show fd.scope.names.lookup _ = _; rw [hs]; decide +kernel
  have hi : interactive (fenv fd f L) = false := by unfold interactive; show (fd.scope.kind == _ && _) = _; rw [D.kind]; rfl
  generalize fenv fd f L = env at hk hg hgl hi
  have nm := nmSU
  have hl : 0 < l.length := (List.getElem?_eq_some_iff.mp hx).1
  obtain ⟨hsl, hsp⟩ := sun_len l 0 hl
  obtain ⟨o', W⟩ := su_loop (prog := prog) (w := w) (mg := mg) (G := G) (k := k + 1) hk (x := x) _ 0 S l Option.none rfl hn hl hz
  have hlen := OPL.lenL (prog := prog) (w := w) (mg := mg) (G := G) (k := k + 1) hn (by simpa using hz)
  rw [List.length_map] at hlen
  have hsub : SUB prog w mg G (k + 1) S (.obj n) (.int 0) (enc x) S := SUB.item (i := 0) hn hx hz
  have h1 : (S.set n (.list ((sun l 0).1.map enc)))[n]? = some (.list ((sun l 0).1.map enc)) := by rw [List.getElem?_set_self (List.getElem?_eq_some_iff.mp hn).1]
  have hsd := sd k (S.set n (.list (((sun l 0).1.set (sun l 0).2 x).map enc))) n (sun l 0).2 ((sun l 0).1.set (sun l 0).2 x) x (by rw [List.getElem?_set_self (List.getElem?_eq_some_iff.mp hn).1]) (by rw [List.getElem?_set_self (by omega)]) (by simp; omega)
  rw [List.set_set] at hsd
  have e2 : (S.set n (.list ((sun l 0).1.map enc))).set n (.list (((sun l 0).1.map enc).set (sun l 0).2 (enc x))) = S.set n (.list (((sun l 0).1.set (sun l 0).2 x).map enc)) := by rw [List.set_set, List.map_set]
  refine Exists.intro ?ρ ?_
  rotate_left
  show EXs prog w mg G (k + 1) env (V xSU [some (.obj n), some (.int 0), Option.none, Option.none, Option.none, Option.none, Option.none]) S (bd 17) _
  conv in (bd 17) => whnf
  rw [← e2] at hsd
  repeat' array_get_dec
  refine EXs.cons (EX.while_ W) ?_
  repeat' array_get_dec
  · rw [List.length_map]; omega
  · rw [List.length_map]; omega

/-! heappop -/
/-- what is left, and what came off -/
noncomputable def popped (l : List It) : List It :=
  match l.getLast? with
  | none => []
  | some z => match l.dropLast with
    | [] => []
    | _ :: r => siftdown ((sun (z :: r) 0).1.set (sun (z :: r) 0).2 z) z (sun (z :: r) 0).2
noncomputable abbrev xPop : List Str := ["heap", "lastelt", "returnitem"]
theorem nmPop : Nm xPop := ⟨by decide +kernel, by decide +kernel⟩
theorem heappop_ok (T : Top mg G) : ∃ f, mg "heappop" = some (.ref f) ∧ Kp G (.ref f) ∧ ∀ (k : Nat) (S : List PO) (n : Nat) (l : List It) (x : It), S[n]? = some (.list (l.map enc)) → l.head? = some x → l.length ≤ sizeLine →
    OPL prog w mg G (k + 3) S [.obj n] (fun vs => PySem.call (.ref f) vs) (enc x) (S.set n (.list ((popped l).map enc))) := by
  obtain ⟨f, fd, hm, D, hs⟩ := T.fn 15 (by decide)
  obtain ⟨fs, ms, Ks, sd⟩ := siftup_ok (prog := prog) (w := w) T
  refine ⟨f, hm, D.kp, fun k S n l x hn hx hz => ?_⟩
  refine FN.go (as := ["heap"]) (ys := ["lastelt", "returnitem"]) D rfl fun L => ?_
  have hk := kinds 15 xPop (by decide +kernel) (env := fenv fd f L) hs
  have hg : (fenv fd f L).kindOf "_siftup" = some .globalImplicit := by unfold Env.kindOf; show fd.scope.names.lookup _ = _; rw [hs]; decide +kernel
  have hi : interactive (fenv fd f L) = false := by unfold interactive; show (fd.scope.kind == _ && _) = _; rw [D.kind]; rfl
  generalize fenv fd f L = env at hk hg hi
  have nm := nmPop
  obtain ⟨a, r, rfl⟩ : ∃ a r, l = a :: r := by
    cases l with
    | nil => cases hx
    | cons a r => exact ⟨a, r, rfl⟩
  cases hx
  obtain ⟨z, hz'⟩ : ∃ z, (x :: r).getLast? = some z := ⟨_, List.getLast?_eq_some_getLast (by simp)⟩
  have hp := OPL.pop (prog := prog) (w := w) (mg := mg) (G := G) (k := k + 2) (p := enc z) hn (by rw [List.getLast?_map, hz']; rfl) (by rw [List.length_map]; exact hz)
  rw [← List.map_dropLast] at hp
  show EXs prog w mg G (k + 2) env (V xPop [some (.obj n), Option.none, Option.none]) S (bd 15) _
  conv in (bd 15) => whnf
  have h1 : (S.set n (.list ((x :: r).dropLast.map enc)))[n]? = some (.list ((x :: r).dropLast.map enc)) := by rw [List.getElem?_set_self (List.getElem?_eq_some_iff.mp hn).1]
  cases r with
  | nil =>
    have e : popped [x] = [] := rfl
    rw [e]
    have hzx : z = x := by simpa using hz'.symm
    subst hzx
    simp only [List.dropLast_singleton] at h1 hp
    have hb : EB prog w mg G (k + 2) env (V xPop [some (.obj n), some (enc z), Option.none]) (S.set n (.list (([] : List It).map enc))) (testOf ((bd 15).getD 1 default)) false (S.set n (.list (([] : List It).map enc))) := by
      conv in (testOf _) => whnf
      apply EB.val
      · repeat' array_get_dec
      · exact TR.list h1 (by simp)
      · rfl
    conv at hb in (testOf _) => whnf
    repeat' array_get_dec
    refine EXs.cons (EX.ifF hb rfl EXs.nil) ?_
    repeat' array_get_dec
  | cons y r =>
    have e : popped (x :: y :: r) = siftdown ((sun (z :: (y :: r).dropLast) 0).1.set (sun (z :: (y :: r).dropLast) 0).2 z) z (sun (z :: (y :: r).dropLast) 0).2 := by
      unfold popped
      rw [hz']
      rfl
    rw [e]
    have hb : EB prog w mg G (k + 2) env (V xPop [some (.obj n), some (enc z), Option.none]) (S.set n (.list ((x :: y :: r).dropLast.map enc))) (testOf ((bd 15).getD 1 default)) true (S.set n (.list ((x :: y :: r).dropLast.map enc))) := by
      conv in (testOf _) => whnf
      apply EB.val
      · repeat' array_get_dec
      · exact TR.list h1 (by simp at hz ⊢; omega)
      · rfl
    conv at hb in (testOf _) => whnf
    rw [List.dropLast_cons_cons] at h1 hp hb
    repeat' array_get_dec
    apply EXs.stop
    apply EX.ifT hb rfl
    have hlen : (z :: (y :: r).dropLast).length ≤ sizeLine := by simp at hz ⊢; omega
    have hs0 : SUB prog w mg G (k + 2) (S.set n (.list ((x :: (y :: r).dropLast).map enc))) (.obj n) (.int 0) (enc x) (S.set n (.list ((x :: (y :: r).dropLast).map enc))) := SUB.item (i := 0) h1 rfl (by simpa using hlen)
    have hcall := sd k (S.set n (.list ((z :: (y :: r).dropLast).map enc))) n (z :: (y :: r).dropLast) z (by rw [List.getElem?_set_self (List.getElem?_eq_some_iff.mp hn).1]) rfl hlen
    rw [List.set_set] at hcall
    have e2 : (S.set n (.list ((x :: (y :: r).dropLast).map enc))).set n (.list (((x :: (y :: r).dropLast).map enc).set 0 (enc z))) = S.set n (.list ((z :: (y :: r).dropLast).map enc)) := by rw [List.set_set]; rfl
    rw [← e2] at hcall
    repeat' array_get_dec
    all_goals first | (simp; done) | (rw [List.length_map]; simpa using hlen) | (simp at hlen ⊢; omega)
end
set_option tactic.hygienic true
set_option tactic.hygienic false
section
variable {prog : Program} {w : World} {mg : Str → Option Value} {G : Heap} {k : Nat} {env : Env} {ρ : Vars} {S S₁ S₂ S' : List PO}

theorem callRaw {id : Str} {p pos : Pos} {e : Expr} {es : List Expr} {f : Value} {ps : List PV} {A : Around} {σ : Lo} {s : Shared} (T : Sit w.params mg G A k env ρ σ S s.heap) (h0 : EV prog w mg G k env ρ S (.Name id p) (.fn f) S) (hk : Kp G f) (h1 : ELs prog w mg G k env ρ S pos (e :: es) ps S₁)
    (he : starEach (e :: es) env = (false, eval e env) :: starEach es env) (hp : (backTo pos (starEach es env)).any (·.1) = false) {Q : Value → Shared → Prop} {E : Value → Shared → Prop}
    (H : ∀ vs σ' h' tk', Rel w.params G σ' S₁ h' → Ext σ S.length s.heap σ' S₁.length h' → VRs σ' S₁.length h' vs.toArray ps → wpAny (model prog w) A (PySem.call f vs) Q E { s with heap := h', toks := tk' }) :
    wpAny (model prog w) A (eval (.Call (.Name id p) (e :: es) [] pos) env) Q E s := by
  refine wpAny_Call_Name_kw (h0.run A σ s T _ _ fun v σ₁ h₁ tk₁ R₁ X₁ V₁ => ?_)
  (first | (obtain ⟨_, rfl⟩ := VR.inv V₁) | (obtain rfl := VR.inv V₁))
  have T₁ := T.ext R₁ X₁
  refine callWith_any hk (h1.run A σ₁ _ T₁ _ _ fun vs σ₂ h₂ tk₂ R₂ X₂ V₂ => ⟨R₂.ground, ?_⟩) he hp
  exact H vs σ₂ h₂ tk₂ R₂ (Ext.trans R₁ X₁ X₂) V₂

noncomputable def rangeL (a : Int) (n : Nat) : List PV := (List.range n).map fun (i : Nat) => PV.int (a + (i : Int))
theorem rangeL_len (a : Int) (n : Nat) : (rangeL a n).length = n := by unfold rangeL; simp
theorem src_range {A : Around} {I : Addr} {tgt : Expr} {a : Int} {n : Nat} (hh : A.handled = none) : Src prog w G A [I] (.ref I) tgt (rangeL a n) (fun _ => True)
    (fun σ h i => IsRangeIter h I (a + (i : Int)) ((n : Int) - (i : Int)) 1 ∧ G.get? I = none ∧ σ.F I) where
  next := fun σ S s i p R hS hJ hp K E H => by
    obtain ⟨hit, hg, hF⟩ := hJ
    have hi : i < n := by have := (List.getElem?_eq_some_iff.mp hp).1; rw [rangeL_len] at this; exact this
    have hpv : p = .int (a + (i : Int)) := by
      unfold rangeL at hp
      rw [List.getElem?_map, List.getElem?_range hi] at hp
      exact (Option.some.inj hp).symm
    subst hpv
    refine wpAny_pyNext_range_item hit (by omega) fun h' hit' hs => ?_
    have q : Quiet [I] s.heap h' := fun a o hn e => hs.extBut a o (fun h => hn (by simp [h])) e
    have al : ∀ a ∈ [I], ∃ o, h'.get? a = some o := fun a ha => by
      obtain rfl := List.mem_singleton.mp ha
      exact ⟨_, hit'⟩
    refine ⟨_, rfl, ?_⟩
    refine letGo_plain (s := { s with heap := h', toks := s.toks + 1 }) hit' rfl (by decide) (H _ h' _ (.int _ _) q al ⟨?_, hg, hF⟩)
    have e1 : a + ((i + 1 : Nat) : Int) = a + (i : Int) + 1 := by omega
    have e2 : (n : Int) - ((i + 1 : Nat) : Int) = (n : Int) - (i : Int) - 1 := by omega
    show IsRangeIter h' I (a + ((i + 1 : Nat) : Int)) ((n : Int) - ((i + 1 : Nat) : Int)) 1
    rw [e1, e2]; exact hit'
  stop := fun σ S s R hS hJ K E H => by
    obtain ⟨hit, hg, hF⟩ := hJ
    rw [rangeL_len] at hit
    exact wpAny_pyNext_range_end hh hit (by omega) fun h' he => ⟨rfl, H h' s.toks fun a o hn e => he a o (fun h => hn (by simp [h])) e⟩
  keep := fun σ S σ' h h' i R hS hs hF' hk hJ => by
    obtain ⟨e, hg, hF⟩ := hJ
    refine ⟨(hk I _ (fun j hj q => ?_) (by simp) e).same (by simp), hg, hF' _ hF⟩
    obtain ⟨ob, e', hc⟩ := (R.objs j S[j] (by simp [hj])).cls
    rw [← q, e] at e'; cases e'
    rcases hc with hc | hc | hc | hc | hc <;> simp at hc
  self := fun σ S s i R hJ Q E H => wpAny_pyIter_rangeiter hJ.1 H
  prv := fun σ S h i R hJ a ha => by
    obtain rfl := List.mem_singleton.mp ha
    obtain ⟨e, hg, hF⟩ := hJ
    exact ⟨hg, hF, _, e, by simp, by simp, by simp, by simp, by simp, by simp⟩

theorem frOf {P : Params} {σ : Lo} {h : Heap} (R : Rel P G σ S h) {a : Addr} (ha : h.objs.size ≤ a) : h.get? a = none ∧ G.get? a = none := by
  have h1 : h.get? a = none := by
    cases q : h.get? a with
    | none => rfl
    | some o => exact absurd (Heap.lt_size q) (Nat.not_lt.mpr ha)
  refine ⟨h1, ?_⟩
  cases q : G.get? a with
  | none => rfl
  | some o => have := R.ground _ _ q; rw [h1] at this; cases this
theorem oldFr {P : Params} {σ σ' : Lo} {h h' : Heap} (R' : Rel P G σ' S' h') (X : Ext σ S.length h σ' S'.length h') {a : Addr} (ha : h'.get? a = none) : h.get? a = none := by
  cases q : h.get? a with
  | none => rfl
  | some o => obtain ⟨o', e⟩ := X.old R' q; rw [ha] at e; cases e

theorem range_fin {A : Around} {σ σ₁ : Lo} {s : Shared} {h₁ : Heap} {tk : Nat} {tgt : Expr} {a b : Int} {Q : Value → Shared → Prop} (T : Sit w.params mg G A k env ρ σ S s.heap) (R₁ : Rel w.params G σ₁ S₁ h₁) (X₁ : Ext σ S.length s.heap σ₁ S₁.length h₁) (ob : Obj)
    (H : ∀ it wr J σ' h' tk', Src prog w G A wr it tgt (rangeL a (b - a).toNat) (fun _ => True) J → (∀ a ∈ wr, s.heap.get? a = none) → J (σ'.add wr) h' 0 → True → Rel w.params G (σ'.add wr) S₁ h' → Ext σ S.length s.heap σ' S₁.length h' → Q it { s with heap := h', toks := tk' }) :
    Q (.ref (h₁.push ob).objs.size) { s with heap := (h₁.push ob).push { cls := .type "range_iterator", data := .fields #[rawInt a, rawInt (Builtin.Range.rangeSize a b 1), rawInt 1] }, toks := tk } := by
  have sz : (h₁.push ob).objs.size = h₁.objs.size + 1 := Heap.size_push ..
  have hk : ∀ a' o, h₁.get? a' = some o → ((h₁.push ob).push { cls := .type "range_iterator", data := .fields #[rawInt a, rawInt (Builtin.Range.rangeSize a b 1), rawInt 1] }).get? a' = some o := fun a' o e => Heap.get?_push_of_some _ (Heap.get?_push_of_some _ e)
  obtain ⟨f1, f2⟩ := frOf R₁ (a := (h₁.push ob).objs.size) (by omega)
  have eI : IsRangeIter ((h₁.push ob).push { cls := .type "range_iterator", data := .fields #[rawInt a, rawInt (Builtin.Range.rangeSize a b 1), rawInt 1] }) (h₁.push ob).objs.size (a + ((0 : Nat) : Int)) (((b - a).toNat : Int) - ((0 : Nat) : Int)) 1 := by
    have e1 : a + ((0 : Nat) : Int) = a := by omega
    have e2 : ((b - a).toNat : Int) - ((0 : Nat) : Int) = Builtin.Range.rangeSize a b 1 := by rw [rangeSize_one]; split <;> omega
    rw [e1, e2]
    exact Heap.get?_push_size _ rfl
  refine H _ [(h₁.push ob).objs.size] _ σ₁ _ tk (src_range T.room.hh) (fun a' ha => ?_) ⟨eI, f2, .inr (by simp)⟩ trivial (R₁.addF (fun a' ha => by rw [List.mem_singleton.mp ha]; exact f1) hk (fun a' ha => by rw [List.mem_singleton.mp ha]; exact ⟨_, eI⟩))
    ⟨X₁.len, X₁.same, X₁.sameF, X₁.new, fun a' o e f => (X₁.keep a' o e f).trans fun o' e' => KeepO.refl (hk _ _ e')⟩
  rw [List.mem_singleton.mp ha]
  exact oldFr R₁ X₁ f1

theorem ITR.range2 {id : Str} {p pos : Pos} {e1 e2 tgt : Expr} {a b : Int} (h0 : EV prog w mg G k env ρ S (.Name id p) (.fn (.type "range")) S) (h1 : ELs prog w mg G k env ρ S pos [e1, e2] [.int a, .int b] S₁) (ha : -(2 ^ 62) ≤ a) (ha' : a < 2 ^ 62) (hb : -(2 ^ 62) ≤ b) (hb' : b < 2 ^ 62)
    (he : starEach [e1, e2] env = (false, eval e1 env) :: starEach [e2] env := by rfl) (hp : (backTo pos (starEach [e2] env)).any (·.1) = false := by rfl) :
    ITR prog w mg G k env ρ S (.Call (.Name id p) [e1, e2] [] pos) tgt (rangeL a (b - a).toNat) (fun _ => True) S₁ := Lock.mk fun A σ s T Q E H => by
  refine callRaw T h0 Kp.type h1 he hp fun vs σ₁ h₁ tk₁ R₁ X₁ V₁ => ?_
  obtain ⟨v1, vs, rfl, U1, V₁⟩ := V₁.uncons
  obtain ⟨v2, vs, rfl, U2, V₁⟩ := V₁.uncons
  rw [V₁.unnil]
  (first | (obtain ⟨_, rfl⟩ := VR.inv U1) | (obtain rfl := VR.inv U1)); (first | (obtain ⟨_, rfl⟩ := VR.inv U2) | (obtain rfl := VR.inv U2))
  refine call_range_2 ?_
  refine wpAny_pyIter_range (Heap.get?_push_size _ rfl) (small_one ha ha' hb hb') ?_
  exact range_fin T R₁ X₁ _ H
theorem ITR.range1 {id : Str} {p pos : Pos} {e1 tgt : Expr} {b : Int} (h0 : EV prog w mg G k env ρ S (.Name id p) (.fn (.type "range")) S) (h1 : ELs prog w mg G k env ρ S pos [e1] [.int b] S₁) (hb : -(2 ^ 62) ≤ b) (hb' : b < 2 ^ 62)
    (he : starEach [e1] env = (false, eval e1 env) :: starEach [] env := by rfl) (hp : (backTo pos (starEach [] env)).any (·.1) = false := by rfl) :
    ITR prog w mg G k env ρ S (.Call (.Name id p) [e1] [] pos) tgt (rangeL 0 b.toNat) (fun _ => True) S₁ := Lock.mk fun A σ s T Q E H => by
  refine callRaw T h0 Kp.type h1 he hp fun vs σ₁ h₁ tk₁ R₁ X₁ V₁ => ?_
  obtain ⟨v1, vs, rfl, U1, V₁⟩ := V₁.uncons
  rw [V₁.unnil]
  (first | (obtain ⟨_, rfl⟩ := VR.inv U1) | (obtain rfl := VR.inv U1))
  refine call_range_1 ?_
  refine wpAny_pyIter_range (Heap.get?_push_size _ rfl) (small_one (by decide) (by decide) hb hb') ?_
  have e : (b - 0).toNat = b.toNat := by rw [Int.sub_zero]
  rw [← e] at H
  exact range_fin T R₁ X₁ _ H

theorem CompR.pure {step : PV → List PO → Option PV → List PO → Prop} {need : List PO → Prop} {S : List PO} (f : PV → Option PV) (hn : need S) : ∀ (ps : List PV), (∀ p ∈ ps, step p S (f p) S) → CompR step need ps S (ps.filterMap f) S
  | [], _ => .nil
  | p :: ps, h => by
    have h1 := h p (.head _)
    have ih := CompR.pure f hn ps fun q hq => h q (.tail _ hq)
    cases hf : f p with
    | none => rw [List.filterMap_cons, hf]; exact .skip (hf ▸ h1) hn ih
    | some q => rw [List.filterMap_cons, hf]; exact .take (hf ▸ h1) hn ih
theorem V.fresh {xs : List Str} {vs vs' : List (Option PV)} {x : Str} {p : PV} (h : SetAt xs vs x p vs') (h0 : At xs vs x Option.none) (nd : xs.Nodup) : ∀ y q, (V xs vs).lookup y = some q → (V xs vs').lookup y = some q := by
  intro y q hy
  rw [V.set h nd, lookup_upd]
  by_cases e : y = x
  · subst e; rw [V.look h0 nd] at hy; cases hy
  · rw [if_neg e]; exact hy
theorem kindC {scope : Scope} {x : Str} {C : Addr} (nd : (scope.names.map (·.1)).Nodup) (h : (x, NameKind.local) ∈ scope.names) : (cenvOf scope env C).kindOf x = some .local := by
  have e : (cenvOf scope env C).kindOf x = (relabel scope env).names.lookup x := rfl
  rw [e, relabel_look, look_nodup nd h]; rfl
theorem kindG {scope : Scope} {x : Str} {C : Addr} (nd : (scope.names.map (·.1)).Nodup) (h : (x, NameKind.globalImplicit) ∈ scope.names) : (cenvOf scope env C).kindOf x = some .globalImplicit := by
  have e : (cenvOf scope env C).kindOf x = (relabel scope env).names.lookup x := rfl
  rw [e, relabel_look, look_nodup nd h]; rfl
theorem ScOk.mk' {scope : Scope} (i : Nat) (he : env.scope = sc i) (kind : scope.kind = .function) (nodup : (scope.names.map (·.1)).Nodup) (free : (scope.names.all fun x => x.2 != .free || ((sc i).names.lookup x.1 == some .cell || (sc i).names.lookup x.1 == some .free)) = true) : ScOk scope env :=
  ⟨kind, nodup, fun x hx hf => by
    have := List.all_eq_true.mp free x hx
    rw [hf] at this
    unfold Env.kindOf
    rw [he]
    simpa using this⟩
theorem EX.ret2 {e : Expr} {pos : Pos} {p : PV} {rest : List Stmt} (h : EV prog w mg G k env ρ S e p S₁) : EXs prog w mg G k env ρ S (.Return (some e) pos :: rest) (.ret p S₁) := EXs.ret_ h
end
set_option tactic.hygienic true
mutual
noncomputable def pd : PV → PyData
  | .none => .none
  | .bool b => .bool b
  | .int i => .int i
  | .str s => .str s
  | .tup l => .tuple (pdL l)
  | .obj _ => .none
  | .fn _ => .none
noncomputable def pdL : List PV → List PyData
  | [] => []
  | p :: ps => pd p :: pdL ps
end
mutual
noncomputable def flatB : PV → Bool
  | .none => true
  | .bool _ => true
  | .int _ => true
  | .str _ => true
  | .tup l => flatL l
  | .obj _ => false
  | .fn _ => false
noncomputable def flatL : List PV → Bool
  | [] => true
  | p :: ps => flatB p && flatL ps
end
theorem pdL_map : ∀ l : List PV, pdL l = l.map pd
  | [] => by simp [pdL]
  | p :: ps => by simp [pdL, pdL_map ps]
mutual
theorem RD.flat {S : List PO} : ∀ p : PV, flatB p = true → RD S p (pd p)
  | .none, _ => by rw [pd]; exact .none
  | .bool b, _ => by rw [pd]; exact .bool b
  | .int i, _ => by rw [pd]; exact .int i
  | .str s, _ => by rw [pd]; exact .str s
  | .tup l, h => by
    rw [flatB] at h
    rw [pd]
    exact .tup (by rw [pdL_map]; simp) (RD.flatL l h)
  | .obj _, h => by simp [flatB] at h
  | .fn _, h => by simp [flatB] at h
theorem RD.flatL {S : List PO} : ∀ l : List PV, flatL l = true → ∀ (i : Nat) (p : PV) (d : PyData), l[i]? = some p → (pdL l)[i]? = some d → RD S p d
  | [], _, i, p, d, h, _ => by simp at h
  | q :: qs, h, 0, p, d, h1, h2 => by
    rw [Mine.flatL, Bool.and_eq_true] at h
    rw [pdL] at h2
    simp at h1 h2
    subst h1 h2
    exact RD.flat q h.1
  | q :: qs, h, i + 1, p, d, h1, h2 => by
    rw [Mine.flatL, Bool.and_eq_true] at h
    rw [pdL] at h2
    exact RD.flatL qs h.2 i p d (by simpa using h1) (by simpa using h2)
end
theorem flatL_of : ∀ l : List PV, (∀ p ∈ l, flatB p = true) → flatL l = true
  | [], _ => by simp [flatL]
  | p :: ps, h => by rw [flatL, h p (.head _), flatL_of ps fun q hq => h q (.tail _ hq)]; rfl
theorem RD.listFlat {S : List PO} {n : Nat} {l : List PV} (hn : S[n]? = some (.list l)) (h : ∀ p ∈ l, flatB p = true) : RD S (.obj n) (.list (pdL l)) :=
  .list hn (by rw [pdL_map]; simp) (RD.flatL l (flatL_of l h))
noncomputable def okP (p : PV) : Bool := flatB p && (pd p).canLay0 && decide ((pd p).depth ≤ 8)
theorem okL : ∀ l : List PV, (∀ p ∈ l, okP p = true) → PyData.canLayAll0 (pdL l) = true ∧ PyData.depthAll (pdL l) ≤ 8
  | [], _ => by simp [pdL, PyData.canLayAll0, PyData.depthAll]
  | p :: ps, h => by
    have h1 := h p (.head _)
    have ih := okL ps fun q hq => h q (.tail _ hq)
    unfold okP at h1
    rw [Bool.and_eq_true, Bool.and_eq_true, decide_eq_true_eq] at h1
    rw [pdL]
    refine ⟨by rw [PyData.canLayAll0, h1.1.2, ih.1]; rfl, ?_⟩
    rw [PyData.depthAll]
    omega
theorem shapedL {l : List PV} (h : ∀ p ∈ l, okP p = true) : PySem.SeqAt.shaped (.list (pdL l)) = true := by
  obtain ⟨h1, h2⟩ := okL l h
  unfold PySem.SeqAt.shaped
  rw [Bool.and_eq_true, decide_eq_true_eq]
  refine ⟨by rw [PyData.canLay0]; exact h1, ?_⟩
  rw [PyData.depth]; omega
theorem flatOf {p : PV} (h : okP p = true) : flatB p = true := by
  unfold okP at h
  rw [Bool.and_eq_true, Bool.and_eq_true] at h
  exact h.1.1
section
variable {prog : Program} {w : World} {mg : Str → Option Value} {G : Heap} {k : Nat} {S : List PO}
/-- two lists that hold the same -/
theorem O.eqSame {n m : Nat} {l : List PV} (hn : S[n]? = some (.list l)) (hm : S[m]? = some (.list l)) (h : ∀ p ∈ l, okP p = true) : OP2 prog w mg G k S (.obj n) (.obj m) (compareOp .Eq) (.bool true) S := by
  have hf := fun p hp => flatOf (h p hp)
  have := O.eqD (prog := prog) (w := w) (mg := mg) (G := G) (k := k) (RD.listFlat hn hf) (RD.listFlat hm hf) (shapedL h) (shapedL h)
  rw [PySem.SeqAt.eqv_refl _ (PySem.SeqAt.canLay_of_shaped (shapedL h))] at this
  exact this
theorem O.neSame {n m : Nat} {l : List PV} (hn : S[n]? = some (.list l)) (hm : S[m]? = some (.list l)) (h : ∀ p ∈ l, okP p = true) : OP2 prog w mg G k S (.obj n) (.obj m) (compareOp .NotEq) (.bool false) S := by
  have hf := fun p hp => flatOf (h p hp)
  have := O.neD (prog := prog) (w := w) (mg := mg) (G := G) (k := k) (RD.listFlat hn hf) (RD.listFlat hm hf) (shapedL h) (shapedL h)
  rw [PySem.SeqAt.eqv_refl _ (PySem.SeqAt.canLay_of_shaped (shapedL h))] at this
  exact this
theorem eqv_nil (l : List PV) : PyData.eqv (.list (pdL l)) (.list (pdL [])) = l.isEmpty := by
  cases l <;> simp [pdL, PyData.eqv, PyData.eqvAll]
theorem O.eqNil {n m : Nat} {l : List PV} (hn : S[n]? = some (.list l)) (hm : S[m]? = some (.list [])) (h : ∀ p ∈ l, okP p = true) : OP2 prog w mg G k S (.obj n) (.obj m) (compareOp .Eq) (.bool l.isEmpty) S := by
  rw [← eqv_nil]
  exact O.eqD (RD.listFlat hn fun p hp => flatOf (h p hp)) (RD.listFlat hm fun p hp => nomatch hp) (shapedL h) (shapedL fun p hp => nomatch hp)
theorem O.neNil {n m : Nat} {l : List PV} (hn : S[n]? = some (.list l)) (hm : S[m]? = some (.list [])) (h : ∀ p ∈ l, okP p = true) : OP2 prog w mg G k S (.obj n) (.obj m) (compareOp .NotEq) (.bool !l.isEmpty) S := by
  rw [← eqv_nil]
  exact O.neD (RD.listFlat hn fun p hp => flatOf (h p hp)) (RD.listFlat hm fun p hp => nomatch hp) (shapedL h) (shapedL fun p hp => nomatch hp)
end
set_option tactic.hygienic false

noncomputable def retOf : List Stmt → Expr | [.Return (some e) _] => e | _ => .Constant .none 0 ⟨0,0,0,0⟩
noncomputable def leftOf : Expr → Expr | .Compare l _ _ _ => l | e => e
noncomputable def genOf : Expr → Comprehension | .ListComp _ (g :: _) _ _ => g | _ => ⟨.Constant .none 0 ⟨0,0,0,0⟩, .Constant .none 0 ⟨0,0,0,0⟩, [], 0⟩
noncomputable def eltOf : Expr → Expr | .ListComp e _ _ _ => e | e => e
noncomputable def cscOf : Expr → Scope | .ListComp _ _ s _ => s | _ => default

noncomputable def badAt (l : List It) (i : Nat) : Bool := ltI (l.getD i default) (l.getD ((i - 1) / 2) default)
noncomputable def hbadF (l : List It) : PV → Option PV | .int i => if badAt l i.toNat then some (.int i) else none | _ => none
noncomputable def hbad (l : List It) : List PV := (rangeL 1 ((l.length : Int) - 1).toNat).filterMap (hbadF l)
noncomputable def heapedB (l : List It) : Bool := (hbad l).isEmpty
noncomputable abbrev xHd : List Str := ["heap"]
theorem nmHd : Nm xHd := ⟨by decide +kernel, by decide +kernel⟩
noncomputable abbrev xHc : List Str := ["k", "heap"]
theorem nmHc : Nm xHc := ⟨by decide +kernel, by decide +kernel⟩
noncomputable def hdC : Expr := leftOf (retOf (bd 23))

section
variable {prog : Program} {w : World} {mg : Str → Option Value} {G : Heap} {k : Nat} {S : List PO}
theorem heaped_comp (hp : prog.given.tree = none) {env : Env} {n : Nat} {l : List It} (hn : S[n]? = some (.list (l.map enc))) (hz : l.length ≤ sizeLine) : 
    CompR (CompStep prog w mg G k env (cscOf hdC) (V xHc [Option.none, some (.obj n)]) (genOf hdC).target (genOf hdC).ifs (eltOf hdC)) (fun _ => True) (rangeL 1 ((l.length : Int) - 1).toNat) S (hbad l) S := by
  refine CompR.pure (hbadF l) trivial _ fun p hp' => ?_
  have nm := nmHc
  have nd : ((cscOf hdC).names.map (·.1)).Nodup := by decide +kernel
  have hkl : (Str.ofString "k", NameKind.local) ∈ (cscOf hdC).names := by decide +kernel
  obtain ⟨i, hi, rfl⟩ := List.mem_map.mp hp'
  rw [List.mem_range] at hi
  have hb : sizeLine < 2 ^ 63 := by decide
  obtain ⟨x, hx⟩ : ∃ x, l[i + 1]? = some x := ⟨_, List.getElem?_eq_getElem (by omega)⟩
  obtain ⟨y, hy⟩ : ∃ y, l[i / 2]? = some y := ⟨_, List.getElem?_eq_getElem (by omega)⟩
  have s1 : SUB prog w mg G k S (.obj n) (.int (1 + (i : Int))) (enc x) S := SUB.item' hn (by omega) hx hz
  have s2 : SUB prog w mg G k S (.obj n) (.int (((1 + (i : Int)) - 1).fdiv 2)) (enc y) S := SUB.item' hn (by
    have e : (1 + (i : Int)) - 1 = (i : Int) := by omega
    rw [e, Int.fdiv_eq_ediv_of_nonneg _ (by omega)]; omega) hy hz
  have e : hbadF l (.int (1 + (i : Int))) = if ltI x y then some (.int (1 + (i : Int))) else Option.none := by
    have e0 : (1 + (i : Int)).toNat = i + 1 := by omega
    have e1 : l.getD (i + 1) default = x := by rw [List.getD_eq_getElem?_getD, hx]; rfl
    have e2 : l.getD (i / 2) default = y := by rw [List.getD_eq_getElem?_getD, hy]; rfl
    show (if badAt l (1 + (i : Int)).toNat then some (PV.int (1 + (i : Int))) else Option.none) = _
    unfold badAt
    rw [e0, e1, Nat.add_sub_cancel, e2]
  rw [e]
  have ha : ∀ C, ASG prog w mg G k (cenvOf (cscOf hdC) env C) (genOf hdC).target (.int (1 + (i : Int))) (V xHc [Option.none, some (.obj n)]) (V xHc [some (.int (1 + (i : Int))), some (.obj n)]) S := fun C =>
    ASG.nm nm (.inl (kindC nd hkl)) .hd
  have ht : ∀ C, EIfs prog w mg G k (cenvOf (cscOf hdC) env C) (V xHc [some (.int (1 + (i : Int))), some (.obj n)]) S (genOf hdC).ifs (ltI x y) S := fun C => by
    generalize cenvOf (cscOf hdC) env C = ce
    conv in (Comprehension.ifs _) => whnf
    apply EIfs.one
    repeat' array_get_dec
  have he : ∀ C, EV prog w mg G k (cenvOf (cscOf hdC) env C) (V xHc [some (.int (1 + (i : Int))), some (.obj n)]) S (eltOf hdC) (.int (1 + (i : Int))) S := fun C => by
    generalize cenvOf (cscOf hdC) env C = ce
    conv in (eltOf _) => whnf
    repeat' array_get_dec
  have hw := V.fresh (xs := xHc) (vs := [Option.none, some (.obj n)]) (x := "k") (p := .int (1 + (i : Int))) (vs' := [some (.int (1 + (i : Int))), some (.obj n)]) .hd .hd nm.nd
  cases hl : ltI x y with
  | true => rw [hl] at ht; exact .take _ S hw fun C => ⟨ha C, ht C, he C⟩
  | false => rw [hl] at ht; exact .skip _ hw fun C => ⟨ha C, ht C⟩

theorem heaped_ok (hp : prog.given.tree = none) (T : Top mg G) : ∃ f, mg "_law_heaped" = some (.ref f) ∧ Kp G (.ref f) ∧ ∀ (k : Nat) (S : List PO) (n : Nat) (l : List It), S[n]? = some (.list (l.map enc)) → l.length ≤ sizeLine →
    OPL prog w mg G (k + 1) S [.obj n] (fun vs => PySem.call (.ref f) vs) (.bool (heapedB l)) (S ++ [.list (hbad l)] ++ [.list []]) := by
  obtain ⟨f, fd, hm, D, hs⟩ := T.fn 23 (by decide)
  refine ⟨f, hm, D.kp, fun k S n l hn hz => ?_⟩
  refine FN.go (as := ["heap"]) (ys := []) D rfl fun L => ?_
  have hk := kinds 23 xHd (by decide +kernel) (env := fenv fd f L) hs
  have hgl : (fenv fd f L).kindOf "len" = some .globalImplicit := by unfold Env.kindOf; show fd.scope.names.lookup _ = _; rw [hs]; decide +kernel
  have hgr : (fenv fd f L).kindOf "range" = some .globalImplicit := by unfold Env.kindOf; show fd.scope.names.lookup _ = _; rw [hs]; decide +kernel
  have hs' : (fenv fd f L).scope = sc 23 := hs
  generalize fenv fd f L = env at hk hgl hgr hs'
  have nm := nmHd
  have hlen := OPL.lenL (prog := prog) (w := w) (mg := mg) (G := G) (k := k) hn (by simpa using hz)
  rw [List.length_map] at hlen
  have hb : sizeLine < 2 ^ 62 := by decide
  have hC := heaped_comp (prog := prog) (w := w) (mg := mg) (G := G) (k := k) hp (env := env) hn hz
  show EXs prog w mg G k env (V xHd [some (.obj n)]) S (bd 23) _
  conv in (bd 23) => whnf
  apply EXs.ret_
  apply EV.cmp
  · refine EV.comp (S₁ := S) ?_ ?_ ?_ ?_ hC ?_ ?_
    · apply ITR.range2
      · exact EV.builtin hgr (T.bi _ (by decide +kernel)) (by decide +kernel) (by decide +kernel) (by decide +kernel)
      · repeat' array_get_dec
      · decide
      · decide
      · omega
      · omega
      · rfl
      · rfl
    · exact ScOk.mk' 23 hs' rfl (by decide +kernel) (by decide +kernel)
    · exact (Sub.no (Sub.take .hd (by decide +kernel) Sub.nil)).use nm.nd
    · decide +kernel
    · rw [rangeL_len]; omega
    · intro _; rfl
  · apply EV.list
    · exact ELs.nil
    · decide
  · unfold heapedB
    refine O.eqNil (n := S.length) (m := (S ++ [PO.list (hbad l)]).length) ?_ ?_ ?_
    · rw [List.getElem?_append_left (by simp)]; simp
    · simp
    · intro p hp'
      obtain ⟨q, _, hq⟩ := List.mem_filterMap.mp hp'
      unfold hbadF at hq
      split at hq
      · split at hq
        · cases hq; rfl
        · cases hq
      · cases hq
  · rfl
end
set_option tactic.hygienic true
set_option tactic.hygienic false

inductive SetAts (xs : List Str) : List (Option PV) → List Expr → List PV → List (Option PV) → Prop where
  | nil {vs : List (Option PV)} : SetAts xs vs [] [] vs
  | cons {vs vs₁ vs' : List (Option PV)} {x : Str} {pos : Pos} {p : PV} {ts : List Expr} {ps : List PV} (h : SetAt xs vs x p vs₁) (r : SetAts xs vs₁ ts ps vs') : SetAts xs vs (.Name x pos :: ts) (p :: ps) vs'
section
variable {prog : Program} {w : World} {mg : Str → Option Value} {G : Heap} {k : Nat} {env : Env} {ρ : Vars} {S S₁ S₂ S' : List PO} {xs : List Str} {vs vs' : List (Option PV)}
theorem ASGs.of {ts : List Expr} {ps : List PV} (hn : Nm xs) (hk : ∀ x ∈ xs, env.kindOf x = some .local ∨ env.kindOf x = some .cell) (h : SetAts xs vs ts ps vs') : ASGs prog w mg G k env ts ps (V xs vs) (V xs vs') S := by
  induction h with
  | nil => exact .nil
  | cons h r ih => exact .cons (ASG.nm hn (hk _ h.mem) h) ih
theorem ASG.tupV {ts : List Expr} {x1 : Nat} {pos : Pos} {ps : List PV} (hn : Nm xs) (hk : ∀ x ∈ xs, env.kindOf x = some .local ∨ env.kindOf x = some .cell) (h : SetAts xs vs ts ps vs') (hl : (assignEach ts env).length = ps.length := by rfl) (hstar : (assignEach ts env).findIdx? (·.1) = none := by rfl) (hts : ts.all (fun t => match t with | .Name .. => true | _ => false) = true := by rfl) :
    ASG prog w mg G k env (.Tuple ts x1 pos) (.tup ps) (V xs vs) (V xs vs') S := ASG.tup (ASGs.of hn hk h) hl hstar hts
theorem EX.asgT {ts : List Expr} {x1 : Nat} {tpos pos : Pos} {e : Expr} {ps : List PV} (hn : Nm xs) (hk : ∀ x ∈ xs, env.kindOf x = some .local ∨ env.kindOf x = some .cell) (h1 : EV prog w mg G k env (V xs vs) S e (.tup ps) S₁) (h : SetAts xs vs ts ps vs')
    (hs : swapsWithSole [.Tuple ts x1 tpos] e pos.line env = pure false := by rfl) (hw : swappedStores [.Tuple ts x1 tpos] e env = pure none := by rfl)
    (hl : (assignEach ts env).length = ps.length := by rfl) (hstar : (assignEach ts env).findIdx? (·.1) = none := by rfl) (hts : ts.all (fun t => match t with | .Name .. => true | _ => false) = true := by rfl) :
    EX prog w mg G k env (V xs vs) S (.Assign [.Tuple ts x1 tpos] e pos) (.next (V xs vs') S₁) := Lock.mk fun A σ s T O Q E H => by
  refine Assign_Tuple (h1.run A σ s T _ _ fun v σ₁ h₁ tk₁ R₁ X₁ V₁ => ?_) hs hw
  have T₁ := T.ext R₁ X₁
  exact (ASG.tupV hn hk h hl hstar hts).run A σ₁ _ v T₁ O V₁ _ _ fun h₂ tk₂ R₂ X₂ E₂ => H σ₁ h₂ tk₂ R₂ (ExtX.trans R₁ T₁.er X₁.toX (X₂.weaken fun _ q => q.env)) E₂
theorem EXs.asgT {ts : List Expr} {x1 : Nat} {tpos pos : Pos} {e : Expr} {ps : List PV} {rest : List Stmt} {o : Out} (hn : Nm xs) (hk : ∀ x ∈ xs, env.kindOf x = some .local ∨ env.kindOf x = some .cell) (h1 : EV prog w mg G k env (V xs vs) S e (.tup ps) S₁) (h : SetAts xs vs ts ps vs')
    (hs : swapsWithSole [.Tuple ts x1 tpos] e pos.line env = pure false) (hw : swappedStores [.Tuple ts x1 tpos] e env = pure none)
    (hl : (assignEach ts env).length = ps.length) (hstar : (assignEach ts env).findIdx? (·.1) = none) (hts : ts.all (fun t => match t with | .Name .. => true | _ => false) = true) (h2 : EXs prog w mg G k env (V xs vs') S₁ rest o) :
    EXs prog w mg G k env (V xs vs) S (.Assign [.Tuple ts x1 tpos] e pos :: rest) o := EXs.cons (EX.asgT hn hk h1 h hs hw hl hstar hts) h2
end
set_option tactic.hygienic true

noncomputable abbrev Wy := Str × Str × Int
noncomputable abbrev encW (x : Wy) : PV := .tup [.str x.1, .str x.2.1, .int x.2.2]
inductive Relax (c : Int) (pl : Str) : List Wy → List It → List It → Prop where
  | nil {l : List It} : Relax c pl [] l l
  | skip {x : Wy} {ws : List Wy} {l l' : List It} (h : (x.1 == pl) = false) (r : Relax c pl ws l l') : Relax c pl (x :: ws) l l'
  | push {x : Wy} {ws : List Wy} {l l' : List It} (h : (x.1 == pl) = true) (hz : l.length + 1 ≤ sizeLine) (hl : (Mine.push l (c + x.2.2, x.2.1)).length ≤ sizeLine) (hb : heapedB (Mine.push l (c + x.2.2, x.2.1)) = true) (r : Relax c pl ws (Mine.push l (c + x.2.2, x.2.1)) l') : Relax c pl (x :: ws) l l'
inductive Run (ws : List Wy) : List It → List It → List It → Prop where
  | done {o : List It} : Run ws [] o o
  | old {x : It} {l o o' : List It} (hz : (x :: l).length ≤ sizeLine) (hq : (popped (x :: l)).length ≤ sizeLine) (ho : o.length ≤ sizeLine) (hok : ∀ y ∈ x :: l, PyData.strOk y.2 = true) (hb : heapedB (popped (x :: l)) = true) (hin : (o.map (·.2)).any (· == x.2) = true) (r : Run ws (popped (x :: l)) o o') : Run ws (x :: l) o o'
  | new {x : It} {l l' o o' : List It} (hz : (x :: l).length ≤ sizeLine) (hq : (popped (x :: l)).length ≤ sizeLine) (ho : o.length ≤ sizeLine) (hok : ∀ y ∈ x :: l, PyData.strOk y.2 = true) (hb : heapedB (popped (x :: l)) = true) (hin : (o.map (·.2)).any (· == x.2) = false) (hr : Relax x.1 x.2 ws (popped (x :: l)) l') (r : Run ws l' (o ++ [x]) o') : Run ws (x :: l) o o'
noncomputable def Kept (h : Nat) (S S' : List PO) : Prop := ∀ i o, i ≠ h → S[i]? = some o → S'[i]? = some o
theorem Kept.refl {h : Nat} {S : List PO} : Kept h S S := fun _ _ _ e => e
theorem Kept.trans {h : Nat} {S S' S'' : List PO} (a : Kept h S S') (b : Kept h S' S'') : Kept h S S'' := fun i o n e => b i o n (a i o n e)
theorem Kept.set {h : Nat} {S : List PO} {o : PO} : Kept h S (S.set h o) := fun i o' n e => by rw [List.getElem?_set_ne (Ne.symm n)]; exact e
theorem Kept.app {h : Nat} {S g : List PO} : Kept h S (S ++ g) := fun i o' n e => by
  rw [List.getElem?_append_left (List.getElem?_eq_some_iff.mp e).1]; exact e
theorem app_get {S g : List PO} {i : Nat} {o : PO} (e : S[i]? = some o) : (S ++ g)[i]? = some o := by
  rw [List.getElem?_append_left (List.getElem?_eq_some_iff.mp e).1]; exact e
theorem set_get {S : List PO} {i : Nat} {o o' : PO} (e : S[i]? = some o) : (S.set i o')[i]? = some o' := List.getElem?_set_self (List.getElem?_eq_some_iff.mp e).1

noncomputable abbrev xSe : List Str := ["steps", "heap", "order", "cost", "place", "start", "goal", "more"]
theorem nmSe : Nm xSe := ⟨by decide +kernel, by decide +kernel⟩
noncomputable def seW : Stmt := (bd 24).getD 2 default
noncomputable def orelseOf : Stmt → List Stmt | .If _ _ o _ => o | _ => []
noncomputable def seIf : Stmt := (bodyOf seW).getD 2 default
noncomputable def seFor : Stmt := (bodyOf seIf).getD 1 default
noncomputable def tgtOf : Stmt → Expr | .For t _ _ _ _ => t | _ => .Constant .none 0 ⟨0,0,0,0⟩
noncomputable def iterOf : Stmt → Expr | .For _ t _ _ _ => t | _ => .Constant .none 0 ⟨0,0,0,0⟩

section
variable {prog : Program} {w : World} {mg : Str → Option Value} {G : Heap} {k : Nat}
/-- what the functions called give -/
structure HeapFns (prog : Program) (w : World) (mg : Str → Option Value) (G : Heap) (fp fq fh : Addr) : Prop where
  mq : mg "heappush" = some (.ref fq)
  mp : mg "heappop" = some (.ref fp)
  mh : mg "_law_heaped" = some (.ref fh)
  kq : Kp G (.ref fq)
  kp : Kp G (.ref fp)
  kh : Kp G (.ref fh)
  push : ∀ (k : Nat) (S : List PO) (n : Nat) (l : List It) (x : It), S[n]? = some (.list (l.map enc)) → l.length + 1 ≤ sizeLine → OPL prog w mg G (k + 2) S [.obj n, enc x] (fun vs => PySem.call (.ref fq) vs) .none (S.set n (.list ((Mine.push l x).map enc)))
  pop : ∀ (k : Nat) (S : List PO) (n : Nat) (l : List It) (x : It), S[n]? = some (.list (l.map enc)) → l.head? = some x → l.length ≤ sizeLine → OPL prog w mg G (k + 3) S [.obj n] (fun vs => PySem.call (.ref fp) vs) (enc x) (S.set n (.list ((popped l).map enc)))
  heaped : ∀ (k : Nat) (S : List PO) (n : Nat) (l : List It), S[n]? = some (.list (l.map enc)) → l.length ≤ sizeLine → OPL prog w mg G (k + 1) S [.obj n] (fun vs => PySem.call (.ref fh) vs) (.bool (heapedB l)) (S ++ [.list (hbad l)] ++ [.list []])
theorem heapFns (hp : prog.given.tree = none) (T : Top mg G) : ∃ fp fq fh, HeapFns prog w mg G fp fq fh := by
  obtain ⟨fq, a1, a2, a3⟩ := heappush_ok (prog := prog) (w := w) T
  obtain ⟨fp, b1, b2, b3⟩ := heappop_ok (prog := prog) (w := w) T
  obtain ⟨fh, c1, c2, c3⟩ := heaped_ok (prog := prog) (w := w) hp T
  exact ⟨fp, fq, fh, a1, b1, c1, a2, b2, c2, a3, b3, c3⟩

structure SeEnv (env : Env) : Prop where
  hk : ∀ x ∈ xSe, env.kindOf x = some .local ∨ env.kindOf x = some .cell
  gq : env.kindOf "heappush" = some .globalImplicit
  gp : env.kindOf "heappop" = some .globalImplicit
  gh : env.kindOf "_law_heaped" = some .globalImplicit
  hi : interactive env = false
  hs : env.scope = sc 24

theorem se_step {env : Env} (he : SeEnv env) {fp fq fh : Addr} (F : HeapFns prog w mg G fp fq fh) {c : Int} {pl : Str} {st h r : Nat} {x : Wy} {l : List It} {S : List PO} {o1 o2 o3 : Option PV} (hn : S[h]? = some (.list (l.map enc))) (hz : l.length + 1 ≤ sizeLine) (hl : (Mine.push l (c + x.2.2, x.2.1)).length ≤ sizeLine) (hb : heapedB (Mine.push l (c + x.2.2, x.2.1)) = true) (hx : (x.1 == pl) = true) :
    ForStep prog w mg G (k + 2) env (tgtOf seFor) (bodyOf seFor) (encW x) (V xSe [some (.obj st), some (.obj h), some (.obj r), some (.int c), some (.str pl), o1, o2, o3]) S
      (.next (V xSe [some (.obj st), some (.obj h), some (.obj r), some (.int c), some (.str pl), some (.str x.1), some (.str x.2.1), some (.int x.2.2)]) (S.set h (.list ((Mine.push l (c + x.2.2, x.2.1)).map enc)) ++ [.list (hbad (Mine.push l (c + x.2.2, x.2.1)))] ++ [.list []])) := by
  have nm := nmSe
  obtain ⟨hk, gq, gp, gh, hi, hs⟩ := he
  have kq := F.kq
  have kh := F.kh
  have mq := F.mq
  have mh := F.mh
  refine ⟨V xSe [some (.obj st), some (.obj h), some (.obj r), some (.int c), some (.str pl), some (.str x.1), some (.str x.2.1), some (.int x.2.2)], ?_, ?_⟩
  · conv in (tgtOf _) => whnf
    apply ASG.tupV nm hk
    repeat' array_get_dec
  · sizeOf_list_dec
    have hp := F.push k S h l (c + x.2.2, x.2.1) hn hz
    have hh : OPL prog w mg G (k + 2) _ _ _ _ _ := F.heaped (k + 1) (S.set h (.list ((Mine.push l (c + x.2.2, x.2.1)).map enc))) h _ (set_get hn) hl
    refine EXs.cons (EX.ifT (b := x.1 == pl) (S₁ := S) ?_ hx ?_) EXs.nil
    · repeat' array_get_dec
    · repeat' array_get_dec
      refine EXs.cons (EX.ifF (b := !(heapedB (Mine.push l (c + x.2.2, x.2.1)))) (S₁ := S.set h (.list ((Mine.push l (c + x.2.2, x.2.1)).map enc)) ++ [.list (hbad (Mine.push l (c + x.2.2, x.2.1)))] ++ [.list []]) ?_ (by rw [hb]; rfl) EXs.nil) EXs.nil
      apply EB.not
      apply EB.val
      · repeat' array_get_dec
      · exact TR.bool
      · rfl
theorem se_skip {env : Env} (he : SeEnv env) {c : Int} {pl : Str} {st h r : Nat} {x : Wy} {S : List PO} {o1 o2 o3 : Option PV} (hx : (x.1 == pl) = false) :
    ForStep prog w mg G (k + 2) env (tgtOf seFor) (bodyOf seFor) (encW x) (V xSe [some (.obj st), some (.obj h), some (.obj r), some (.int c), some (.str pl), o1, o2, o3]) S
      (.next (V xSe [some (.obj st), some (.obj h), some (.obj r), some (.int c), some (.str pl), some (.str x.1), some (.str x.2.1), some (.int x.2.2)]) S) := by
  have nm := nmSe
  obtain ⟨hk, gq, gp, gh, hi, hs⟩ := he
  refine ⟨V xSe [some (.obj st), some (.obj h), some (.obj r), some (.int c), some (.str pl), some (.str x.1), some (.str x.2.1), some (.int x.2.2)], ?_, ?_⟩
  · conv in (tgtOf _) => whnf
    apply ASG.tupV nm hk
    repeat' array_get_dec
  · sizeOf_list_dec
    refine EXs.cons (EX.ifF (b := x.1 == pl) (S₁ := S) ?_ hx EXs.nil) EXs.nil
    repeat' array_get_dec

theorem se_for {fp fq fh : Addr} (F : HeapFns prog w mg G fp fq fh) {c : Int} {pl : Str} {st h r : Nat} {all : List PV} (hst : st ≠ h) {ws : List Wy} {l l' : List It} (R : Relax c pl ws l l') : ∀ (S : List PO), S[h]? = some (.list (l.map enc)) → S[st]? = some (.list all) →
    ∃ S', S'[h]? = some (.list (l'.map enc)) ∧ Kept h S S' ∧ ∀ env, SeEnv env → ∀ o1 o2 o3 : Option PV, ∃ o1' o2' o3', LoopR (ForStep prog w mg G (k + 2) env (tgtOf seFor) (bodyOf seFor)) (fun S => S[st]? = some (.list all)) (ws.map encW) (V xSe [some (.obj st), some (.obj h), some (.obj r), some (.int c), some (.str pl), o1, o2, o3]) S
      (.next (V xSe [some (.obj st), some (.obj h), some (.obj r), some (.int c), some (.str pl), o1', o2', o3']) S') := by
  induction R with
  | nil => intro S h1 h2; exact ⟨S, h1, .refl, fun env he o1 o2 o3 => ⟨o1, o2, o3, .nil⟩⟩
  | skip hx r ih =>
    rename_i x ws l l'
    intro S h1 h2
    obtain ⟨S', q, K, L⟩ := ih S h1 h2
    refine ⟨S', q, K, fun env he o1 o2 o3 => ?_⟩
    obtain ⟨a, b, d, L⟩ := L env he (some (.str x.1)) (some (.str x.2.1)) (some (.int x.2.2))
    exact ⟨a, b, d, .next (se_skip he hx) h2 L⟩
  | push hx hz hl hb r ih =>
    rename_i x ws l l'
    intro S h1 h2
    have K1 : Kept h S (S.set h (.list ((Mine.push l (c + x.2.2, x.2.1)).map enc)) ++ [.list (hbad (Mine.push l (c + x.2.2, x.2.1)))] ++ [.list []]) := Kept.trans (Kept.trans Kept.set Kept.app) Kept.app
    obtain ⟨S', q, K, L⟩ := ih _ (app_get (app_get (set_get h1))) (K1 _ _ hst h2)
    refine ⟨S', q, K1.trans K, fun env he o1 o2 o3 => ?_⟩
    obtain ⟨a, b, d, L⟩ := L env he (some (.str x.1)) (some (.str x.2.1)) (some (.int x.2.2))
    exact ⟨a, b, d, .next (se_step he F h1 hz hl hb hx) (K1 _ _ hst h2) L⟩
end
set_option tactic.hygienic false

noncomputable def rightOf : Expr → Expr | .Compare _ _ [r] _ => r | e => e
noncomputable def seC : Expr := rightOf (testOf seIf)
noncomputable abbrev xSc : List Str := ["far", "known"]
theorem nmSc : Nm xSc := ⟨by decide +kernel, by decide +kernel⟩

section
variable {prog : Program} {w : World} {mg : Str → Option Value} {G : Heap} {k : Nat}
theorem okIt {x : It} (h : PyData.strOk x.2 = true) : okP (enc x) = true := by
  unfold okP
  simp [flatB, flatL, pd, pdL, PyData.canLay0, PyData.canLayAll0, PyData.depth, PyData.depthAll, h]
theorem se_known {env : Env} (he : SeEnv env) {r : Nat} {all : List PV} {S : List PO} (hr : S[r]? = some (.list all)) : ∀ o : List It,
    CompR (CompStep prog w mg G k env (cscOf seC) (V xSc [none, none]) (genOf seC).target (genOf seC).ifs (eltOf seC)) (fun S => S[r]? = some (.list all)) (o.map enc) S ((o.map (·.2)).map .str) S
  | [] => .nil
  | x :: o => by
    have nm := nmSc
    have nd : ((cscOf seC).names.map (·.1)).Nodup := by decide +kernel
    have hl : ∀ x ∈ xSc, (x, NameKind.local) ∈ (cscOf seC).names := by decide +kernel
    refine .take (.take (V xSc [some (.int x.1), some (.str x.2)]) S (fun y q hy => by simp [V] at hy) fun C => ⟨?_, ?_, ?_⟩) hr (se_known he hr o)
    · have hk : ∀ x ∈ xSc, (cenvOf (cscOf seC) env C).kindOf x = some .local ∨ (cenvOf (cscOf seC) env C).kindOf x = some .cell := fun x hx => .inl (kindC nd (hl x hx))
      generalize cenvOf (cscOf seC) env C = ce at hk
      conv in (Comprehension.target _) => whnf
      apply ASG.tupV nm hk
      repeat' array_get_dec
    · conv in (Comprehension.ifs _) => whnf
      exact .nil
    · generalize cenvOf (cscOf seC) env C = ce
      conv in (eltOf _) => whnf
      repeat' array_get_dec

theorem se_test {env : Env} (he : SeEnv env) {st h r : Nat} {l : List It} {S : List PO} {o1 o2 o3 o4 o5 : Option PV} (hn : S[h]? = some (.list (l.map enc))) (hok : ∀ y ∈ l, PyData.strOk y.2 = true) :
    EB prog w mg G (k + 3) env (V xSe [some (.obj st), some (.obj h), some (.obj r), o1, o2, o3, o4, o5]) S (testOf seW) (!(l.map enc).isEmpty) (S ++ [.list []]) := by
  have nm := nmSe
  have hne := O.neNil (prog := prog) (w := w) (mg := mg) (G := G) (k := k + 3) (S := S ++ [.list []]) (n := h) (m := S.length) (app_get hn) (by simp) (fun p hp => by
    obtain ⟨x, hx, rfl⟩ := List.mem_map.mp hp
    exact okIt (hok x hx))
  sizeOf_list_dec
  repeat' array_get_dec

theorem se_old {env : Env} (he : SeEnv env) {fp fq fh : Addr} (F : HeapFns prog w mg G fp fq fh) {st h r : Nat} (hst : st ≠ h) (hrh : r ≠ h) {x : It} {l o : List It} {S : List PO} {o1 o2 o3 o4 o5 : Option PV} (hn : S[h]? = some (.list ((x :: l).map enc))) (hr : S[r]? = some (.list (o.map enc)))
    (hz : (x :: l).length ≤ sizeLine) (hq : (popped (x :: l)).length ≤ sizeLine) (ho : o.length ≤ sizeLine) (hb : heapedB (popped (x :: l)) = true) :
    let S1 := S.set h (.list ((popped (x :: l)).map enc))
    let S2 := S1 ++ [.list (hbad (popped (x :: l)))] ++ [.list []]
    (∀ out, EXs prog w mg G (k + 3) env (V xSe [some (.obj st), some (.obj h), some (.obj r), some (.int x.1), some (.str x.2), o3, o4, o5]) S2 ((bodyOf seW).drop 2) out → EXs prog w mg G (k + 3) env (V xSe [some (.obj st), some (.obj h), some (.obj r), o1, o2, o3, o4, o5]) S (bodyOf seW) out) ∧
    EB prog w mg G (k + 3) env (V xSe [some (.obj st), some (.obj h), some (.obj r), some (.int x.1), some (.str x.2), o3, o4, o5]) S2 (testOf seIf) (!((o.map (·.2)).any (· == x.2))) (S2 ++ [.list ((o.map (·.2)).map .str)]) := by
  intro S1 S2
  have nm := nmSe
  have he' := he
  obtain ⟨hk, gq, gp, gh, hi, hs⟩ := he
  have kp := F.kp
  have kh := F.kh
  have mp := F.mp
  have mh := F.mh
  have hpop := F.pop k S h (x :: l) x hn rfl hz
  have hh : OPL prog w mg G (k + 3) _ _ _ _ _ := F.heaped (k + 2) S1 h _ (set_get hn) hq
  have hr2 : S2[r]? = some (.list (o.map enc)) := app_get (app_get (Kept.set r _ hrh hr))
  refine ⟨fun out hout => ?_, ?_⟩
  · conv at hout in (List.drop _ _) => whnf
    sizeOf_list_dec
    repeat' array_get_dec
    refine EXs.cons (EX.ifF (b := !(heapedB (popped (x :: l)))) (S₁ := S2) ?_ (by rw [hb]; rfl) EXs.nil) hout
    apply EB.not
    apply EB.val
    · repeat' array_get_dec
    · exact TR.bool
    · rfl
  · have hc := se_known (prog := prog) (w := w) (mg := mg) (G := G) (k := k + 3) (env := env) he' hr2 o
    have hin := O.inStrs (prog := prog) (w := w) (mg := mg) (G := G) (k := k + 3) (x := x.2) (n := S2.length) (xs := o.map (·.2)) (S := S2 ++ [.list ((o.map (·.2)).map .str)]) (by simp) true
    conv in (testOf _) => whnf
    refine EB.cmp (S₁ := S2) (S₂ := S2 ++ [.list ((o.map (·.2)).map .str)]) ?_ ?_ hin rfl
    · repeat' array_get_dec
    · refine EV.comp (S₁ := S2) ?_ ?_ ?_ ?_ hc ?_ ?_
      · apply ITR.list
        · repeat' array_get_dec
        · exact hr2
      · exact ScOk.mk' 24 hs rfl (by decide +kernel) (by decide +kernel)
      · exact (Sub.no (Sub.no Sub.nil)).use nm.nd
      · decide +kernel
      · rw [List.length_map]; exact ho
      · intro _; rfl
end
set_option tactic.hygienic true

noncomputable def Kept2 (h r : Nat) (S S' : List PO) : Prop := ∀ i o, i ≠ h → i ≠ r → S[i]? = some o → S'[i]? = some o
theorem Kept2.trans {h r : Nat} {S S' S'' : List PO} (a : Kept2 h r S S') (b : Kept2 h r S' S'') : Kept2 h r S S'' := fun i o n m e => b i o n m (a i o n m e)
theorem Kept2.app {h r : Nat} {S g : List PO} : Kept2 h r S (S ++ g) := fun i o' _ _ e => app_get e
theorem Kept.to2 {h r : Nat} {S S' : List PO} (a : Kept h S S') : Kept2 h r S S' := fun i o n _ e => a i o n e
theorem Kept2.setR {h r : Nat} {S : List PO} {o : PO} : Kept2 h r S (S.set r o) := fun i o' _ n e => by rw [List.getElem?_set_ne (Ne.symm n)]; exact e

section
variable {prog : Program} {w : World} {mg : Str → Option Value} {G : Heap} {k : Nat}
theorem se_while {fp fq fh : Addr} (F : HeapFns prog w mg G fp fq fh) {st h r : Nat} (hsh : st ≠ h) (hsr : st ≠ r) (hrh : r ≠ h) {ws : List Wy} (hws : ws.length ≤ sizeLine) {l o o' : List It} (R : Run ws l o o') :
    ∀ (S : List PO), S[h]? = some (.list (l.map enc)) → S[r]? = some (.list (o.map enc)) → S[st]? = some (.list (ws.map encW)) →
    ∃ S', S'[r]? = some (.list (o'.map enc)) ∧ Kept2 h r S S' ∧ ∀ env, SeEnv env → ∀ o1 o2 o3 o4 o5 : Option PV, ∃ o1' o2' o3' o4' o5', WLoop prog w mg G (k + 3) env (testOf seW) (bodyOf seW) (V xSe [some (.obj st), some (.obj h), some (.obj r), o1, o2, o3, o4, o5]) S (.next (V xSe [some (.obj st), some (.obj h), some (.obj r), o1', o2', o3', o4', o5']) S') := by
  have nm := nmSe
  induction R with
  | done =>
    intro S hn hr hst
    refine ⟨S ++ [.list []], app_get hr, Kept2.app, fun env he o1 o2 o3 o4 o5 => ⟨o1, o2, o3, o4, o5, ?_⟩⟩
    exact WLoop.stop (se_test he hn (fun y hy => nomatch hy))
  | old hz hq ho hok hb hin R ih =>
    rename_i x l o o'
    intro S hn hr hst
    obtain ⟨S', hr', K, W⟩ := ih ((((S ++ [PO.list []]).set h (PO.list ((popped (x :: l)).map enc)) ++ [PO.list (hbad (popped (x :: l)))]) ++ [PO.list []]) ++ [PO.list ((o.map (·.2)).map PV.str)])
      (app_get (app_get (app_get (set_get (app_get hn))))) (app_get (app_get (app_get (Kept.set r _ hrh (app_get hr))))) (app_get (app_get (app_get (Kept.set st _ hsh (app_get hst)))))
    refine ⟨S', hr', Kept2.trans Kept2.app (Kept2.trans (Kept.to2 Kept.set) (Kept2.trans Kept2.app (Kept2.trans Kept2.app (Kept2.trans Kept2.app K)))), fun env he o1 o2 o3 o4 o5 => ?_⟩
    have ht := se_test (prog := prog) (w := w) (mg := mg) (G := G) (k := k) he (st := st) (h := h) (r := r) (o1 := o1) (o2 := o2) (o3 := o3) (o4 := o4) (o5 := o5) hn hok
    obtain ⟨hb1, hb2⟩ := se_old (k := k) he F hsh hrh (o1 := o1) (o2 := o2) (o3 := o3) (o4 := o4) (o5 := o5) (app_get (g := [PO.list []]) hn) (app_get hr) hz hq ho hb
    obtain ⟨a1, a2, a3, a4, a5, W⟩ := W env he (some (.int x.1)) (some (.str x.2)) o3 o4 o5
    refine ⟨a1, a2, a3, a4, a5, WLoop.next ht (hb1 _ ?_) W⟩
    rw [hin] at hb2
    conv at hb2 in (testOf _) => whnf
    conv in (List.drop _ _) => whnf
    exact EXs.cons (EX.ifF hb2 rfl EXs.nil) EXs.nil
  | new hz hq ho hok hb hin hrx R ih =>
    rename_i x l l' o o'
    intro S hn hr hst
    generalize hS3 : ((((S ++ [PO.list []]).set h (PO.list ((popped (x :: l)).map enc)) ++ [PO.list (hbad (popped (x :: l)))]) ++ [PO.list []]) ++ [PO.list ((o.map (·.2)).map PV.str)]) = S3
    have n3 : S3[h]? = some (.list ((popped (x :: l)).map enc)) := by rw [← hS3]; exact app_get (app_get (app_get (set_get (app_get hn))))
    have r3 : S3[r]? = some (.list (o.map enc)) := by rw [← hS3]; exact app_get (app_get (app_get (Kept.set r _ hrh (app_get hr))))
    have t3 : S3[st]? = some (.list (ws.map encW)) := by rw [← hS3]; exact app_get (app_get (app_get (Kept.set st _ hsh (app_get hst))))
    have K3 : Kept2 h r S S3 := by rw [← hS3]; exact Kept2.trans Kept2.app (Kept2.trans (Kept.to2 Kept.set) (Kept2.trans Kept2.app (Kept2.trans Kept2.app Kept2.app)))
    have hap := OPL.append (prog := prog) (w := w) (mg := mg) (G := G) (k := k + 3) (p := enc x) r3 (by rw [List.length_map]; exact ho)
    have n4 : (S3.set r (.list (o.map enc ++ [enc x])))[h]? = some (.list ((popped (x :: l)).map enc)) := Kept.set h _ (Ne.symm hrh) n3
    have t4 : (S3.set r (.list (o.map enc ++ [enc x])))[st]? = some (.list (ws.map encW)) := Kept.set st _ hsr t3
    obtain ⟨S5, n5, K5, L⟩ := se_for (prog := prog) (w := w) (mg := mg) (G := G) (k := k + 1) F (r := r) (all := ws.map encW) hsh hrx (S3.set r (.list (o.map enc ++ [enc x]))) n4 t4
    have r5 := K5 r _ hrh (set_get r3)
    obtain ⟨S', hr', K, W⟩ := ih S5 n5 (by rw [r5, List.map_append]; rfl) (K5 st _ hsh t4)
    refine ⟨S', hr', Kept2.trans K3 (Kept2.trans Kept2.setR (Kept2.trans (Kept.to2 K5) K)), fun env he o1 o2 o3 o4 o5 => ?_⟩
    have ht := se_test (prog := prog) (w := w) (mg := mg) (G := G) (k := k) he (st := st) (h := h) (r := r) (o1 := o1) (o2 := o2) (o3 := o3) (o4 := o4) (o5 := o5) hn hok
    obtain ⟨hb1, hb2⟩ := se_old (k := k) he F hsh hrh (o1 := o1) (o2 := o2) (o3 := o3) (o4 := o4) (o5 := o5) (app_get (g := [PO.list []]) hn) (app_get hr) hz hq ho hb
    rw [hS3] at hb2
    obtain ⟨b1, b2, b3, L⟩ := L env he o3 o4 o5
    obtain ⟨a1, a2, a3, a4, a5, W⟩ := W env he (some (.int x.1)) (some (.str x.2)) b1 b2 b3
    refine ⟨a1, a2, a3, a4, a5, WLoop.next ht (hb1 _ ?_) W⟩
    rw [hin] at hb2
    conv at hb2 in (testOf _) => whnf
    conv in (List.drop _ _) => whnf
    obtain ⟨hk, gq, gp, gh, hi, hs⟩ := he
    refine EXs.cons (EX.ifT hb2 rfl ?_) EXs.nil
    repeat' array_get_dec
    refine EXs.cons (EX.for_ (S₁ := S3.set r (.list (o.map enc ++ [enc x]))) (ITR.list (n := st) ?_ t4) L (fun _ => rfl) (.inl ⟨_, _, rfl⟩)) EXs.nil
    repeat' array_get_dec

theorem searched_ok (hp : prog.given.tree = none) (T : Top mg G) : ∃ f, mg "_law_searched" = some (.ref f) ∧ Kp G (.ref f) ∧ ∀ (k : Nat) (S : List PO) (st : Nat) (ws : List Wy) (o : List It), S[st]? = some (.list (ws.map encW)) → ws.length ≤ sizeLine → Run ws [(0, Str.ofString "a")] [] o →
    ∃ S' r, OPL prog w mg G (k + 4) S [.obj st] (fun vs => PySem.call (.ref f) vs) (.obj r) S' ∧ S'[r]? = some (.list (o.map enc)) ∧ (∀ (i : Nat) (o : PO), S[i]? = some o → S'[i]? = some o) := by
  obtain ⟨f, fd, hm, D, hs⟩ := T.fn 24 (by decide)
  obtain ⟨fp, fq, fh, F⟩ := heapFns (prog := prog) (w := w) hp T
  refine ⟨f, hm, D.kp, fun k S st ws o hst hws R => ?_⟩
  have hlt : st < S.length := (List.getElem?_eq_some_iff.mp hst).1
  obtain ⟨S', hr', K, W⟩ := se_while (k := k) F (st := st) (h := S.length) (r := (S ++ [PO.list [enc (0, Str.ofString "a")]]).length) (by omega) (by simp; omega) (by simp) hws R (S ++ [.list [enc (0, Str.ofString "a")]] ++ [.list []]) (app_get (by simp)) (by simp) (app_get (app_get hst))
  refine ⟨S', _, ?_, hr', fun i o e => K i o (by have := (List.getElem?_eq_some_iff.mp e).1; omega) (by have := (List.getElem?_eq_some_iff.mp e).1; simp; omega) (app_get (app_get e))⟩
  refine FN.go (as := ["steps"]) (ys := ["heap", "order", "cost", "place", "start", "goal", "more"]) D rfl fun L => ?_
  have he : SeEnv (fenv fd f L) := ⟨kinds 24 xSe (by decide +kernel) hs, by unfold Env.kindOf; show fd.scope.names.lookup _ = _; rw [hs]; decide +kernel, by unfold Env.kindOf; show fd.scope.names.lookup _ = _; rw [hs]; decide +kernel, by unfold Env.kindOf; show fd.scope.names.lookup _ = _; rw [hs]; decide +kernel, by unfold interactive; show (fd.scope.kind == _ && _) = _; rw [D.kind]; rfl, hs⟩
  generalize fenv fd f L = env at he
  obtain ⟨a1, a2, a3, a4, a5, W⟩ := W env he none none none none none
  obtain ⟨hk, gq, gp, gh, hi, hs⟩ := he
  have nm := nmSe
  show EXs prog w mg G (k + 3) env (V xSe [some (.obj st), none, none, none, none, none, none, none]) S (bd 24) _
  conv in (bd 24) => whnf
  repeat' array_get_dec
  refine EXs.cons (EX.while_ W) ?_
  repeat' array_get_dec
end
set_option tactic.hygienic false

noncomputable def names : List Str := ["a", "b\"", "ab", "*", "ba\""]
theorem nmNil : Nm [] := ⟨by decide, by decide⟩
/-- a way: start, goal, cost, kind -/
noncomputable abbrev Way := Int × Int × Int × Int
noncomputable abbrev encY (x : Way) : PV := .tup [.int x.1, .int x.2.1, .int x.2.2.1, .int x.2.2.2]
noncomputable def fixedWays : List Way := [(0, 1, 4, 0), (0, 2, 9, 0), (0, 3, 6, 0), (0, 0, 10, 4), (1, 2, 3, 0), (2, 3, 2, 0), (3, 0, 1, 0), (1, 3, 1, 1), (0, 4, 1, 2), (0, 3, 1, 3), (0, 4, 2, 5), (0, 4, 1, 6), (0, 4, 1, 7)]
noncomputable abbrev namesP : List PV := [.str "a", .str "b\"", .str "ab", .str "*", .str "ba\""]
theorem namesP_is : namesP = names.map .str := rfl
noncomputable abbrev fixedP : List PV := [.tup [.int 0, .int 1, .int 4, .int 0], .tup [.int 0, .int 2, .int 9, .int 0], .tup [.int 0, .int 3, .int 6, .int 0], .tup [.int 0, .int 0, .int 10, .int 4], .tup [.int 1, .int 2, .int 3, .int 0], .tup [.int 2, .int 3, .int 2, .int 0], .tup [.int 3, .int 0, .int 1, .int 0], .tup [.int 1, .int 3, .int 1, .int 1], .tup [.int 0, .int 4, .int 1, .int 2], .tup [.int 0, .int 3, .int 1, .int 3], .tup [.int 0, .int 4, .int 2, .int 5], .tup [.int 0, .int 4, .int 1, .int 6], .tup [.int 0, .int 4, .int 1, .int 7]]
theorem fixedP_is : fixedP = fixedWays.map encY := rfl
noncomputable def drawnWay (x : Int) : Way := (x.fmod 5, (x.fdiv 5).fmod 5, (x.fdiv 25).fmod 20 + 1, (x.fdiv 500).fmod 8)
noncomputable def waysOf (xs : List Int) : List Way := fixedWays ++ xs.map drawnWay
noncomputable abbrev xWy : List Str := ["numbers", "ways"]
theorem nmWy : Nm xWy := ⟨by decide +kernel, by decide +kernel⟩
noncomputable abbrev xWc : List Str := ["x"]
theorem nmWc : Nm xWc := ⟨by decide +kernel, by decide +kernel⟩
noncomputable def opR : Expr → Expr | .BinOp _ _ r _ => r | e => e
noncomputable def retE : Stmt → Expr | .Return (some e) _ => e | _ => .Constant .none 0 ⟨0,0,0,0⟩
noncomputable def wyC : Expr := opR (retE ((bd 20).getD 1 default))

section
variable {prog : Program} {w : World} {mg : Str → Option Value} {G : Heap} {k : Nat}
theorem names_ok (T : Top mg G) : ∃ f, mg "_law_names" = some (.ref f) ∧ Kp G (.ref f) ∧ ∀ (k : Nat) (S : List PO), OPL prog w mg G (k + 1) S [] (fun vs => PySem.call (.ref f) vs) (.obj S.length) (S ++ [.list (names.map .str)]) := by
  obtain ⟨f, fd, hm, D, hs⟩ := T.fn 19 (by decide)
  refine ⟨f, hm, D.kp, fun k S => ?_⟩
  refine FN.go (as := []) (ys := []) D rfl fun L => ?_
  generalize fenv fd f L = env
  have nm := nmNil
  show EXs prog w mg G k env (V [] []) S (bd 19) _
  conv in (bd 19) => whnf
  rw [← namesP_is]
  apply EXs.ret_
  refine EV.list ?_ (Nat.le_of_ble_eq_true rfl)
  repeat' array_get_dec

theorem ways_comp (hp : prog.given.tree = none) {env : Env} {n : Nat} {all : List PV} {S : List PO} (hn : S[n]? = some (.list all)) : ∀ xs : List Int,
    CompR (CompStep prog w mg G k env (cscOf wyC) (V xWc [none]) (genOf wyC).target (genOf wyC).ifs (eltOf wyC)) (fun S => S[n]? = some (.list all)) (xs.map .int) S ((xs.map drawnWay).map encY) S
  | [] => .nil
  | x :: xs => by
    have nm := nmWc
    have nd : ((cscOf wyC).names.map (·.1)).Nodup := by decide +kernel
    have hkl : (Str.ofString "x", NameKind.local) ∈ (cscOf wyC).names := by decide +kernel
    refine .take (.take (V xWc [some (.int x)]) S (fun y q hy => by simp [V] at hy) fun C => ⟨ASG.nm nm (.inl (kindC nd hkl)) .hd, ?_, ?_⟩) hn (ways_comp hp hn xs)
    · conv in (Comprehension.ifs _) => whnf
      exact .nil
    · generalize cenvOf (cscOf wyC) env C = ce
      conv in (eltOf _) => whnf
      show EV prog w mg G k ce (V xWc [some (.int x)]) S _ (.tup [.int (x.fmod 5), .int ((x.fdiv 5).fmod 5), .int ((x.fdiv 25).fmod 20 + 1), .int ((x.fdiv 500).fmod 8)]) S
      repeat' array_get_dec

theorem ways_ok (hp : prog.given.tree = none) (T : Top mg G) : ∃ f, mg "_law_ways" = some (.ref f) ∧ Kp G (.ref f) ∧ ∀ (k : Nat) (S : List PO) (n : Nat) (xs : List Int), S[n]? = some (.list (xs.map .int)) → xs.length ≤ 1000 →
    OPL prog w mg G (k + 1) S [.obj n] (fun vs => PySem.call (.ref f) vs) (.obj (S.length + 2)) (S ++ [.list (fixedWays.map encY)] ++ [.list ((xs.map drawnWay).map encY)] ++ [.list ((waysOf xs).map encY)]) := by
  obtain ⟨f, fd, hm, D, hs⟩ := T.fn 20 (by decide)
  refine ⟨f, hm, D.kp, fun k S n xs hn hz => ?_⟩
  refine FN.go (as := ["numbers"]) (ys := ["ways"]) D rfl fun L => ?_
  have hk := kinds 20 xWy (by decide +kernel) (env := fenv fd f L) hs
  have hs' : (fenv fd f L).scope = sc 20 := hs
  generalize fenv fd f L = env at hk hs'
  have nm := nmWy
  have hC := ways_comp (w := w) (mg := mg) (G := G) (k := k) hp (env := env) (S := S ++ [.list (fixedWays.map encY)]) (app_get hn) xs
  have hadd := O.addL (prog := prog) (w := w) (mg := mg) (G := G) (k := k) (S := S ++ [.list (fixedWays.map encY)] ++ [.list ((xs.map drawnWay).map encY)]) (n := S.length) (m := (S ++ [PO.list (fixedWays.map encY)]).length) (l := fixedWays.map encY) (r := (xs.map drawnWay).map encY) (app_get (by simp)) (by simp) (by
    rw [List.length_map, List.length_map, List.length_map]
    have h1 : fixedWays.length = 13 := rfl
    have h2 : 1100 ≤ sizeLine := Nat.le_of_ble_eq_true rfl
    omega)
  rw [← List.map_append, show (S ++ [PO.list (fixedWays.map encY)] ++ [PO.list ((xs.map drawnWay).map encY)]).length = S.length + 2 from by simp] at hadd
  show EXs prog w mg G k env (V xWy [some (.obj n), none]) S (bd 20) _
  conv in (bd 20) => whnf
  refine EXs.cons (ρ₁ := V xWy [some (.obj n), some (.obj S.length)]) (S₁ := S ++ [.list (fixedWays.map encY)]) (EX.asg nm hk (p := .obj S.length) ?_ (.tl .hd) rfl) ?_
  · rw [← fixedP_is]
    refine EV.list ?_ (Nat.le_of_ble_eq_true rfl)
    repeat' array_get_dec
  · refine EXs.ret_ (EV.bin (p := .obj S.length) (q := .obj (S ++ [PO.list (fixedWays.map encY)]).length) (S₁ := S ++ [.list (fixedWays.map encY)]) ?_ ?_ hadd)
    · repeat' array_get_dec
    · refine EV.comp (S₁ := S ++ [PO.list (fixedWays.map encY)]) ?_ ?_ ?_ ?_ hC ?_ ?_
      · apply ITR.list
        · repeat' array_get_dec
        · exact app_get hn
      · exact ScOk.mk' 20 hs' rfl (by decide +kernel) (by decide +kernel)
      · exact (Sub.no Sub.nil).use nm.nd
      · decide +kernel
      · rw [List.length_map]
        have h2 : 1100 ≤ sizeLine := Nat.le_of_ble_eq_true rfl
        omega
      · intro _; rfl
end
set_option tactic.hygienic true
set_option tactic.hygienic false

noncomputable abbrev DS := List (Str × PV)
noncomputable abbrev encD (D : DS) : List (PV × PV) := D.map fun q => (PV.str q.1, q.2)
noncomputable def dlook (D : DS) (x : Str) : Option PV := (D.find? fun q => q.1 = x).map (·.2)
noncomputable def dstore (D : DS) (x : Str) (p : PV) : DS := if D.any (fun q => q.1 = x) then D.map (fun q => if q.1 = x then (q.1, p) else q) else D ++ [(x, p)]
inductive DV (σ : Lo) (N : Nat) (h : Heap) : List (Str × Value) → DS → Prop where
  | nil : DV σ N h [] []
  | cons {x : Str} {v : Value} {p : PV} {r : List (Str × Value)} {r' : DS} (a : VR σ N h v p) (b : DV σ N h r r') : DV σ N h ((x, v) :: r) ((x, p) :: r')
section
variable {prog : Program} {w : World} {mg : Str → Option Value} {G : Heap} {k : Nat} {env : Env} {ρ : Vars} {S S₁ S₂ S₃ S' : List PO} {σ : Lo} {N : Nat} {h h' : Heap}
theorem DV.keys {kvs : List (Str × Value)} {D : DS} (H : DV σ N h kvs D) : kvs.map (·.1) = D.map (·.1) := by
  induction H with
  | nil => rfl
  | cons a b ih => simp [ih]
theorem DV.len {kvs : List (Str × Value)} {D : DS} (H : DV σ N h kvs D) : kvs.length = D.length := by
  induction H with
  | nil => rfl
  | cons a b ih => simp [ih]
theorem DV.mono {N' : Nat} {σ' : Lo} {kvs : List (Str × Value)} {D : DS} (H : DV σ N h kvs D) (f : ∀ v p, VR σ N h v p → VR σ' N' h' v p) : DV σ' N' h' kvs D := by
  induction H with
  | nil => exact .nil
  | cons a b ih => exact .cons (f _ _ a) ih
theorem DV.look {kvs : List (Str × Value)} {D : DS} (H : DV σ N h kvs D) (x : Str) : (∃ v p, valueAt kvs x = some v ∧ dlook D x = some p ∧ VR σ N h v p) ∨ (valueAt kvs x = none ∧ dlook D x = none) := by
  induction H with
  | nil => exact .inr ⟨rfl, rfl⟩
  | @cons y v p r r' a b ih =>
    unfold valueAt dlook
    rw [List.find?_cons, List.find?_cons]
    by_cases hy : y = x
    · simp only [hy, decide_true]
      exact .inl ⟨v, p, rfl, rfl, a⟩
    · simp only [hy, decide_false]
      exact ih
theorem DV.anyKey {kvs : List (Str × Value)} {D : DS} (H : DV σ N h kvs D) (x : Str) : (kvs.any fun kv => kv.1 = x) = D.any fun q => q.1 = x := by
  induction H with
  | nil => rfl
  | cons a b ih => simp only [List.any_cons, ih]
theorem DV.snoc {kvs : List (Str × Value)} {D : DS} (H : DV σ N h kvs D) {x : Str} {v : Value} {p : PV} (V : VR σ N h v p) : DV σ N h (kvs ++ [(x, v)]) (D ++ [(x, p)]) := by
  induction H with
  | nil => exact .cons V .nil
  | cons a b ih => exact .cons a ih
theorem DV.put {kvs : List (Str × Value)} {D : DS} (H : DV σ N h kvs D) {x : Str} {v : Value} {p : PV} (V : VR σ N h v p) : DV σ N h (kvs.map fun kv => if kv.1 = x then (kv.1, v) else kv) (D.map fun q => if q.1 = x then (q.1, p) else q) := by
  induction H with
  | nil => exact .nil
  | @cons y u q r r' a b ih =>
    simp only [List.map_cons]
    by_cases hy : y = x
    · rw [if_pos hy, if_pos hy]; exact .cons V ih
    · rw [if_neg hy, if_neg hy]; exact .cons a ih
theorem DV.stored {kvs : List (Str × Value)} {D : DS} (H : DV σ N h kvs D) {x : Str} {v : Value} {p : PV} (V : VR σ N h v p) : DV σ N h (stored kvs x v) (dstore D x p) := by
  unfold PySem.stored dstore
  rw [H.anyKey x]
  split
  · exact H.put V
  · exact H.snoc V

theorem toDict {a : Addr} {D : DS} {ep : Nat} (O : OR w.params σ N h a (.dict (encD D) ep)) (nd : (D.map (·.1)).Nodup) : ∃ kvs, h.DictAt (strKind prog w) a kvs ep ∧ DV σ N h kvs D := by
  obtain ⟨es, n, ho, ⟨hl, rfl⟩, hi⟩ := O
  have key : ∀ (es : List DictEntry) (D : DS), es.length = D.length → (∀ (i : Nat) (e : DictEntry) (q : Str × PV), es[i]? = some e → D[i]? = some q → (∃ t, e.key = .str q.1 t) ∧ e.hash = hashStr w q.1 ∧ VR σ N h e.val q.2) →
      ∃ kvs, (∀ e ∈ es, ∃ k, (strKind prog w).is k e.key = true ∧ e.hash = (strKind prog w).hash k) ∧ Pairs (strKind prog w) es kvs ∧ DV σ N h kvs D := by
    intro es
    induction es with
    | nil =>
      intro D hl _
      cases D with
      | nil => exact ⟨[], fun e he => (nomatch he), .nil, .nil⟩
      | cons => cases hl
    | cons e es ih =>
      intro D hl hi
      cases D with
      | nil => cases hl
      | cons q D =>
        obtain ⟨⟨t, hk⟩, hh, hv⟩ := hi 0 e q rfl rfl
        obtain ⟨kvs, h1, h2, h3⟩ := ih D (by simpa using hl) fun i e q a b => hi (i + 1) e q (by simpa using a) (by simpa using b)
        obtain ⟨x, p⟩ := q
        have his : (strKind prog w).is x e.key = true := by rw [hk]; show (x == x) = true; simp
        refine ⟨(x, e.val) :: kvs, fun e' he => ?_, .cons his rfl h2, .cons hv h3⟩
        rcases List.mem_cons.mp he with rfl | he
        · exact ⟨x, his, hh⟩
        · exact h1 e' he
  obtain ⟨kvs, h1, h2, h3⟩ := key es D (by rw [hl]; simp) fun i e q a b => by
    obtain ⟨⟨r1, r2⟩, r3⟩ := hi i e (.str q.1, q.2) a (by simp [b])
    generalize hkk : e.key = kk at r1
    cases r1 with
    | str x t => exact ⟨⟨t, rfl⟩, r3 _ t hkk, r2⟩
  exact ⟨kvs, ⟨_, es.toArray, ho, ⟨rfl, rfl, rfl⟩, rfl, fun e he => h1 e (by simpa using he), h2, by rw [h3.keys]; exact nd⟩, h3⟩
theorem fromDict {a : Addr} {kvs : List (Str × Value)} {D : DS} {ep : Nat} (O : h.DictAt (strKind prog w) a kvs ep) (H : DV σ N h kvs D) : OR w.params σ N h a (.dict (encD D) ep) := by
  obtain ⟨o, es, ho, ⟨c1, c2, c3⟩, hd, hk, hp, hn⟩ := O
  obtain ⟨cl, di, da, sl⟩ := o
  simp only at c1 c2 c3 hd
  subst c1 c2 c3 hd
  obtain ⟨es⟩ := es
  refine ⟨es, ep, ho, ⟨?_, rfl⟩, ?_⟩
  · have := hp.length
    have := H.len
    simp at *
    omega
  · have hk' : ∀ e ∈ es, ∃ k, (strKind prog w).is k e.key = true ∧ e.hash = (strKind prog w).hash k := fun e he => hk e (by simpa using he)
    have hp' : Pairs (strKind prog w) es kvs := hp
    clear hk hp ho hn
    induction hp' generalizing D with
    | nil => intro i e kv a; simp at a
    | @cons e kv es kvs his hv hp ih =>
      cases H with
      | @cons x v p r r' a b =>
        intro i e' kv' e1 e2
        cases i with
        | zero =>
          simp at e1 e2
          subst e1 e2
          obtain ⟨t, ht⟩ := Value.isStrOf_shape his
          obtain ⟨k', hk1, hk2⟩ := hk' e (.head _)
          refine ⟨⟨by rw [ht]; exact .str _ _, by rw [hv]; exact a⟩, fun y u hy => ?_⟩
          rw [hy] at hk1
          have hk3 : Value.isStrOf k' (.str y u) = true := hk1
          obtain ⟨t', ht'⟩ := Value.isStrOf_shape hk3
          injection ht' with h1 _
          subst h1
          exact hk2
        | succ i => exact ih b (fun e he => hk' e (.tail _ he)) i e' kv' (by simpa using e1) (by simpa using e2)
theorem DictAt.of {d : Addr} {kvs : List (Str × Value)} {ep : Nat} (m : h.DictAt (strKind prog w) d kvs ep) : h.DictOf (strKind prog w) d kvs := let ⟨o, es, ho, hc, hd, r⟩ := m; ⟨o, es, ep, ho, hc, hd, r⟩

/-- a store to a dict, with its count of keys' changes -/
theorem dictSetAt {A : Around} {E : Value → Shared → Prop} {s : Shared} {d : Addr} {kvs : List (Str × Value)} {ep : Nat} {x : Str} {t : Tok} {v : Value} {Q : Unit → Shared → Prop} (hm : s.heap.DictAt (strKind prog w) d kvs ep)
    (hQ : ∀ h', h'.DictAt (strKind prog w) d (stored kvs x v) (if kvs.any (fun kv => kv.1 = x) then ep else ep + 1) → Heap.SameBut d s.heap h' → Q () { s with heap := h', toks := s.toks + 1 })
    (hsz : kvs.length ≤ sizeLine) : wpAny (model prog w) A (dictSet d (.str x t) v) Q E s := by
  obtain ⟨o, es, ho, hc, hd, hk, hp, hn⟩ := hm
  have hkey : (strKind prog w).is x (.str x t) = true := by show (x == x) = true; simp
  have hes : es.size ≤ sizeLine := by have e1 := hp.length; have e2 : es.toList.length = es.size := by simp
                                      omega
  unfold dictSet
  try with_reducible refine wpAny_holding ?_
  refine wpAny_bind ((strKind prog w).pyHash hkey ?_)
  unfold dictSetHashed
  try with_reducible refine wpAny_holding ?_
  refine wpAny_bind (wpAny_dictFind_of (s := { s with toks := s.toks + 1 }) hkey ho hd hk ?_)
  have hidx : (es.findIdx? fun e => (strKind prog w).is x e.key) = kvs.findIdx? fun kv => decide (kv.1 = x) := by
    rw [← hp.findIdx x]; obtain ⟨l⟩ := es; simp
  cases hi : es.findIdx? fun e => (strKind prog w).is x e.key with
  | some i =>
    have hany := any_of_findIdx_some (hidx ▸ hi)
    rw [if_pos hany, stored, if_pos hany] at hQ
    refine wpAny_bind (wpAny_rule (wpAny_bind (wpAny_updateDict (s := { s with toks := s.toks + 1 }) ho hd (wpAny_point (hQ _ ⟨_, _, Heap.get?_update_self _ ho (Obj.isFreed_of_dict (Obj.data_mapDict hd _)),
      hc.mapDict _, Obj.data_mapDict hd _, hk.modify _ _, ?_, ?_⟩ (Heap.SameBut.update ..))))))
    · have hl : (es.toList.findIdx? fun e => (strKind prog w).is x e.key) = some i := by rw [← hi]; obtain ⟨l⟩ := es; simp
      have := hp.modify hn hl v
      obtain ⟨l⟩ := es
      simpa using this
    · rw [keys_map_store]; exact hn
  | none =>
    have hnot : x ∉ kvs.map (·.1) := not_mem_of_findIdx_none (hidx ▸ hi)
    have hany : ¬ (kvs.any fun kv => decide (kv.1 = x)) = true := by
      rw [List.any_eq_true]; rintro ⟨kv, hkv, he⟩
      exact hnot (List.mem_map.mpr ⟨kv, hkv, of_decide_eq_true he⟩)
    rw [if_neg hany, stored, if_neg hany] at hQ
    refine wpAny_bind (wpAny_rule (wpAny_updateDictKeys (hz := hes) (s := { s with toks := s.toks + 1 }) ho hd (hQ _ ⟨_, _, Heap.get?_update_self _ ho (Obj.isFreed_of_dict (Obj.data_mapDictKeys hd _)),
      hc.mapDictKeys _, Obj.data_mapDictKeys hd _, hk.push hkey _, ?_, ?_⟩ (Heap.SameBut.update ..))))
    · have := hp.append hkey ((strKind prog w).hash x) v
      obtain ⟨l⟩ := es
      simpa using this
    · rw [List.map_append, List.nodup_append]
      refine ⟨hn, by simp, ?_⟩
      intro a ha b hb
      simp only [List.map_cons, List.map_nil, List.mem_singleton] at hb
      subst hb
      exact fun e => hnot (e ▸ ha)
theorem setItemAt {A : Around} {E : Value → Shared → Prop} {s : Shared} {d : Addr} {kvs : List (Str × Value)} {ep : Nat} {x : Str} {t : Tok} {v : Value} {Q : Unit → Shared → Prop} (hm : s.heap.DictAt (strKind prog w) d kvs ep)
    (hQ : ∀ h', h'.DictAt (strKind prog w) d (stored kvs x v) (if kvs.any (fun kv => kv.1 = x) then ep else ep + 1) → Heap.SameBut d s.heap h' → Q () { s with heap := h', toks := s.toks + 1 })
    (hsz : kvs.length ≤ sizeLine) : wpAny (model prog w) A (setItem (.ref d) (.str x t) v) Q E s := by
  have hT := (DictAt.of hm).typeIs
  unfold setItem
  try with_reducible refine wpAny_holding ?_
  refine wpAny_bind (wpAny_sequenceKey hT (by decide) ?_)
  refine wpAny_bind (wpAny_callSpecial?_slot (name := Str.ofString "__setitem__") hT slot_dict_setitem (wpAny_call_entry slot_dict_setitem hT entry_dict_setitem ?_ (args_dict_setitem _ _ _)))
  show wpAny _ _ (Builtin.Dict.notOrdered "__setitem__" ⟨[.ref d, .str x t, v], []⟩ >>= _) _ _ s
  refine wpAny_bind (wpAny_notOrdered_dict hT ?_)
  show wpAny _ _ (dictSet d (.str x t) v >>= _) _ _ s
  exact wpAny_bind (dictSetAt hm (fun h' hm' hs' => wpAny_pure ⟨.none, rfl, wpAny_pure (hQ h' hm' hs')⟩) hsz)

theorem notMods {a : Addr} (g : Gd mg G) (hG : G.get? a = none) : (a == sysModules) = false := by
  obtain ⟨mm, ⟨o, es, ep, ho, _⟩, _⟩ := g.seer.mods
  refine beq_eq_false_iff_ne.mpr fun e => ?_
  rw [e, ho] at hG; cases hG

theorem O.inD {x : Str} {n ep : Nat} {D : DS} (hn : S[n]? = some (.dict (encD D) ep)) (nd : (D.map (·.1)).Nodup) : OP2 prog w mg G k S (.str x) (.obj n) (compareOp .In) (.bool (dlook D x).isSome) S := Lock.mk fun A σ s v u g _ _ R V U Q E H => by
  (first | (obtain ⟨_, rfl⟩ := VR.inv U) | (obtain rfl := VR.inv U)); (first | (obtain ⟨_, rfl⟩ := VR.inv V) | (obtain rfl := VR.inv V))
  have hlt : n < S.length := (List.getElem?_eq_some_iff.mp hn).1
  obtain ⟨kvs, hm, hv⟩ := toDict (prog := prog) (R.objs n _ hn) nd
  refine wpAny_in_of (knd := strKind prog w) (k := x) (by show (x == x) = true; simp) (notMods g (R.fresh n hlt)) (DictAt.of hm).mapOf ?_
  rcases hv.look x with ⟨v, p, h1, h2, _⟩ | ⟨h1, h2⟩
  · rw [h1]; rw [h2] at H; exact H _ σ s.heap _ R Ext.refl (.bool _)
  · rw [h1]; rw [h2] at H; exact H _ σ s.heap _ R Ext.refl (.bool _)
theorem SUB.dict {x : Str} {n ep : Nat} {D : DS} {p : PV} (hn : S[n]? = some (.dict (encD D) ep)) (nd : (D.map (·.1)).Nodup) (hp : dlook D x = some p) : SUB prog w mg G k S (.obj n) (.str x) p S := Lock.mk fun A σ s v u g _ _ R V U => by
  (first | (obtain ⟨_, rfl⟩ := VR.inv V) | (obtain rfl := VR.inv V)); (first | (obtain ⟨_, rfl⟩ := VR.inv U) | (obtain rfl := VR.inv U))
  obtain ⟨kvs, hm, hv⟩ := toDict (prog := prog) (R.objs n _ hn) nd
  have hm' := DictAt.of hm
  refine ⟨⟨_, _, hm'.typeIs, slot_dict_getitem.lookup⟩, fun Q E H => ?_⟩
  rcases hv.look x with ⟨v, q, h1, h2, h3⟩ | ⟨h1, h2⟩
  · rw [h2] at hp; cases hp
    exact wpAny_getItem_of (knd := strKind prog w) (k := x) (by show (x == x) = true; simp) hm'.mapOf h1 (H _ σ s.heap _ R Ext.refl h3)
  · rw [h2] at hp; cases hp
theorem OPL.get2 {x : Str} {n ep : Nat} {D : DS} {d : PV} (hn : S[n]? = some (.dict (encD D) ep)) (nd : (D.map (·.1)).Nodup) : OPL prog w mg G k S [.obj n, .str x, d] (fun vs => PySem.call (.builtin "dict.get") vs) ((dlook D x).getD d) S := Lock.mk fun A σ s vs g _ _ R V0 Q E H => by
  obtain ⟨v, vs, rfl, V, V'⟩ := V0.uncons
  obtain ⟨u, vs, rfl, U, V'⟩ := V'.uncons
  obtain ⟨y, vs, rfl, Y, V'⟩ := V'.uncons
  rw [V'.unnil]
  (first | (obtain ⟨_, rfl⟩ := VR.inv U) | (obtain rfl := VR.inv U)); (first | (obtain ⟨_, rfl⟩ := VR.inv V) | (obtain rfl := VR.inv V))
  have hlt : n < S.length := (List.getElem?_eq_some_iff.mp hn).1
  obtain ⟨kvs, hm, hv⟩ := toDict (prog := prog) (R.objs n _ hn) nd
  have hm' := DictAt.of hm
  show wpAny _ A (PySem.call (.builtin "dict.get") [_, _, _]) Q E s
  refine call_meetsIn PySem.F.slot_dict_get hm'.typeIs PySem.F.entry_dict_get (PySem.F.args_dict_get_3 _ _ _) (meets_dict_get_default (strKind prog w) _ (k := x) (by show (x == x) = true; simp) (notMods g (R.fresh n hlt)) y) ⟨_, hm'.mapOf, ?_⟩
  rcases hv.look x with ⟨v, q, h1, h2, h3⟩ | ⟨h1, h2⟩
  · rw [h1]; rw [h2] at H; exact H _ σ s.heap _ R Ext.refl h3
  · rw [h1]; rw [h2] at H; exact H _ σ s.heap _ R Ext.refl Y
theorem EX.setD {o i value : Expr} {pos' pos : Pos} {p : PV} {n ep : Nat} {x : Str} {D : DS} (h1 : EV prog w mg G k env ρ S value p S₁) (h2 : EV prog w mg G k env ρ S₁ o (.obj n) S₂) (h3 : EV prog w mg G k env ρ S₂ i (.str x) S₃) (hn : S₃[n]? = some (.dict (encD D) ep)) (nd : (D.map (·.1)).Nodup) (hl : D.length ≤ sizeLine)
    (hs : swapsWith value (some (.Subscript o i pos')) pos.line env = pure false) : EX prog w mg G k env ρ S (.Assign [.Subscript o i pos'] value pos) (.next ρ (S₃.set n (.dict (encD (dstore D x p)) (if D.any (fun q => q.1 = x) then ep else ep + 1)))) := Lock.mk fun A σ s T O Q E H => by
  refine wpAny_Assign_Subscript (h1.run A σ s T _ _ fun v σ₁ h₁ tk₁ R₁ X₁ V₁ => ?_) hs
  have T₁ := T.ext R₁ X₁
  refine h2.run A σ₁ _ T₁ _ _ fun ov σ₂ h₂ tk₂ R₂ X₂ V₂ => ?_
  have T₂ := T₁.ext R₂ X₂
  refine h3.run A σ₂ _ T₂ _ _ fun iv σ₃ h₃ tk₃ R₃ X₃ V₃ => ?_
  have T₃ := T₂.ext R₃ X₃
  have V₁' := (V₁.ext R₁ X₂).ext R₂ X₃
  have V₂' := V₂.ext R₂ X₃
  (first | (obtain ⟨_, rfl⟩ := VR.inv V₂') | (obtain rfl := VR.inv V₂'))
  (first | (obtain ⟨_, rfl⟩ := VR.inv V₃) | (obtain rfl := VR.inv V₃))
  obtain ⟨kvs, hm, hv⟩ := toDict (prog := prog) (R₃.objs n _ hn) nd
  refine setItemAt (s := { s with heap := h₃, toks := tk₃ }) hm (fun h₄ hm' hs' => ?_) (by rw [hv.len]; exact hl)
  rw [hv.anyKey x] at hm'
  obtain ⟨R₄, X₄, mono⟩ := mutate (o' := .dict (encD (dstore D x p)) (if D.any (fun q => q.1 = x) then ep else ep + 1)) (h' := h₄) R₃ hn (fun a ob ha e => hs'.extBut a ob ha e) fun mono =>
    fromDict hm' ((hv.mono mono).stored (mono _ _ V₁'))
  have X : Ext σ S.length s.heap σ₃ (S₃.set n (.dict (encD (dstore D x p)) (if D.any (fun q => q.1 = x) then ep else ep + 1))).length h₄ := Ext.trans R₃ (Ext.trans R₂ (Ext.trans R₁ X₁ X₂) X₃) X₄
  exact H σ₃ _ _ R₄ X.toX (T.ext R₄ X).er
end
set_option tactic.hygienic true
set_option tactic.hygienic false
section
variable {prog : Program} {w : World} {mg : Str → Option Value} {G : Heap} {k : Nat} {env : Env} {ρ : Vars} {S S₁ S₂ S₃ S' : List PO}
theorem DV.at {σ : Lo} {N : Nat} {h : Heap} {kvs : List (Str × Value)} {D : DS} (H : DV σ N h kvs D) : ∀ (i : Nat) (q : Str × PV), D[i]? = some q → ∃ v, kvs[i]? = some (q.1, v) := by
  induction H with
  | nil => intro i q e; simp at e
  | @cons x v p r r' a b ih =>
    intro i q e
    cases i with
    | zero => simp at e; subst e; exact ⟨v, rfl⟩
    | succ i => obtain ⟨v, hv⟩ := ih i q (by simpa using e); exact ⟨v, by simpa using hv⟩

theorem src_keys {A : Around} {I : Addr} {n ep : Nat} {D : DS} {tgt : Expr} (hh : A.handled = none) (nd : (D.map (·.1)).Nodup) : Src prog w G A [I] (.ref I) tgt (D.map fun q => .str q.1) (fun S => S[n]? = some (.dict (encD D) ep))
    (fun σ h i => h.IsKeyIter I (σ.p n) i D.length ep ∧ G.get? I = none ∧ σ.F I) where
  next := fun σ S s i p R hS hJ hp K E H => by
    obtain ⟨hit, hg, hF⟩ := hJ
    obtain ⟨kvs, hm, hv⟩ := toDict (prog := prog) (R.objs n _ hS) nd
    rw [List.getElem?_map] at hp
    obtain ⟨q, hq, rfl⟩ := Option.map_eq_some_iff.mp hp
    obtain ⟨v, hx⟩ := hv.at i q hq
    have hit0 := hit
    rw [← hv.len] at hit
    refine wpAny_pyNext_dict_item hit hm hx fun key h' hkey hit' hs => ?_
    have hk3 : Value.isStrOf q.1 key = true := hkey
    obtain ⟨t, rfl⟩ := Value.isStrOf_shape hk3
    have q' : Quiet [I] s.heap h' := fun a o hn e => hs.extBut a o (fun h => hn (by simp [h])) e
    rw [hv.len] at hit'
    obtain ⟨o, e, c, d⟩ := id hit'
    have al : ∀ a ∈ [I], ∃ o, h'.get? a = some o := fun a ha => by
      obtain rfl := List.mem_singleton.mp ha
      exact ⟨o, e⟩
    refine ⟨_, rfl, ?_⟩
    exact letGo_plain (s := { s with heap := h' }) e c (by decide) (H _ h' s.toks (.str _ _) q' al ⟨hit', hg, hF⟩)
  stop := fun σ S s R hS hJ K E H => by
    obtain ⟨hit, hg, hF⟩ := hJ
    obtain ⟨kvs, hm, hv⟩ := toDict (prog := prog) (R.objs n _ hS) nd
    rw [List.length_map] at hit
    rw [← hv.len] at hit
    exact wpAny_pyNext_dict_end hh hit hm (by simp) fun h' he => ⟨rfl, H h' s.toks fun a o hn e => he a o (fun h => hn (by simp [h])) e⟩
  keep := fun σ S σ' h h' i R hS hs hF' hk hJ => by
    obtain ⟨⟨o, e, c, d⟩, hg, hF⟩ := hJ
    have hn : n < S.length := (List.getElem?_eq_some_iff.mp hS).1
    refine ⟨⟨o, (hk I o (fun j hj q => ?_) (by simp) e).same (by rw [d]; simp), c, by rw [hs n hn]; exact d⟩, hg, hF' _ hF⟩
    obtain ⟨ob, e', hc⟩ := (R.objs j S[j] (by simp [hj])).cls
    rw [← q, e] at e'; cases e'
    rw [c] at hc
    rcases hc with hc | hc | hc | hc | hc <;> simp at hc
  self := fun σ S s i R hJ Q E H => wpAny_pyIter_keyiter hJ.1 H
  prv := fun σ S h i R hJ a ha => by
    obtain rfl := List.mem_singleton.mp ha
    obtain ⟨⟨o, e, c, d⟩, hg, hF⟩ := hJ
    exact ⟨hg, hF, o, e, by simp [c], by simp [c], by simp [c], by simp [c], by simp [d], by simp [d]⟩

theorem ITR.keys {iter tgt : Expr} {n ep : Nat} {D : DS} (h1 : EV prog w mg G k env ρ S iter (.obj n) S₁) (hn : S₁[n]? = some (.dict (encD D) ep)) (nd : (D.map (·.1)).Nodup) : ITR prog w mg G k env ρ S iter tgt (D.map fun q => .str q.1) (fun S => S[n]? = some (.dict (encD D) ep)) S₁ :=
  Lock.mk fun A σ s T Q E H => by
    refine h1.run A σ s T _ _ fun v σ₁ h₁ tk₁ R₁ X₁ V₁ => ?_
    (first | (obtain ⟨_, rfl⟩ := VR.inv V₁) | (obtain rfl := VR.inv V₁))
    have hlt : n < S₁.length := (List.getElem?_eq_some_iff.mp hn).1
    obtain ⟨kvs, hm, hv⟩ := toDict (prog := prog) (R₁.objs n _ hn) nd
    refine wpAny_pyIter_dict (s := { s with heap := h₁, toks := tk₁ }) (notMods T.gd (R₁.fresh n hlt)) hm ?_
    obtain ⟨f1, f2⟩ := frOf R₁ (a := h₁.objs.size) (Nat.le_refl _)
    have hk : ∀ a o, h₁.get? a = some o → (h₁.push { cls := .type "dict_keyiterator", data := .fields #[.ref (σ₁.p n), .int 0 0, .int kvs.length 0, .int ep 0] }).get? a = some o := fun a o e => Heap.get?_push_of_some _ e
    have eI := Heap.get?_push_size h₁ (o := { cls := .type "dict_keyiterator", data := .fields #[.ref (σ₁.p n), .int 0 0, .int kvs.length 0, .int ep 0] }) rfl
    refine H _ [h₁.objs.size] _ σ₁ _ _ (src_keys T.room.hh nd) (fun a ha => ?_) ⟨⟨_, eI, rfl, by rw [hv.len]; rfl⟩, f2, .inr (by simp)⟩ hn (R₁.addF (fun a ha => by rw [List.mem_singleton.mp ha]; exact f1) hk (fun a ha => by rw [List.mem_singleton.mp ha]; exact ⟨_, eI⟩))
      ⟨X₁.len, X₁.same, X₁.sameF, X₁.new, fun a o e f => (X₁.keep a o e f).trans fun o' e' => KeepO.refl (hk _ _ e')⟩
    rw [List.mem_singleton.mp ha]
    exact oldFr R₁ X₁ f1

/-- any new object in the store -/
theorem newAt {σ : Lo} {s : Shared} {o : PO} {h' : Heap} {D : Addr} (R : Rel w.params G σ S s.heap) (hD : s.heap.objs.size ≤ D) (hk : ∀ a o, s.heap.get? a = some o → h'.get? a = some o) (hO : OR w.params σ S.length h' D o) :
    Rel w.params G (σ.put S.length D) (S ++ [o]) h' ∧ Ext σ S.length s.heap (σ.put S.length D) (S ++ [o]).length h' ∧ VR (σ.put S.length D) (S ++ [o]).length h' (.ref D) (.obj S.length) := by
  obtain ⟨fr, hG⟩ := frOf R hD
  have off : ∀ i, i < S.length → D ≠ σ.p i := fun i hi q => by
    obtain ⟨o, e⟩ := R.alive hi
    rw [← q, fr] at e; cases e
  refine ⟨(R.keeps hk).addObj hO off hG, ⟨by simp, fun i hi => by show (if i = S.length then _ else _) = _; rw [if_neg (Nat.ne_of_lt hi)], fun a => Iff.rfl, fun i h1 h2 => ?_, fun a o e _ => KeepO.refl (hk a o e)⟩, ?_⟩
  · rw [List.length_append, List.length_singleton] at h2
    have : i = S.length := by omega
    subst this
    show s.heap.get? (if S.length = S.length then _ else _) = none
    rw [if_pos rfl]; exact fr
  · have := VR.obj (σ := σ.put S.length D) (N := (S ++ [o]).length) (h := h') S.length (by simp)
    have e : (σ.put S.length D).p S.length = D := by show (if S.length = S.length then _ else _) = _; rw [if_pos rfl]
    rw [e] at this
    exact this
end
set_option tactic.hygienic true
set_option tactic.hygienic false
section
variable {prog : Program} {w : World} {mg : Str → Option Value} {G : Heap} {k : Nat} {env : Env} {ρ : Vars} {S S₁ S₂ S₃ S' : List PO}

theorem EV.dict1 {x : Str} {kd : Nat} {px pos : Pos} {v : Expr} {p : PV} (h1 : ∀ A s Q E, (∀ u tk', (∀ σ N h, VR σ N h u p) → Q u { s with toks := tk' }) → wpAny (model prog w) A (eval v env) Q E s)
    (hshape : (evalEachOpt [some (.Constant (.str x) kd px)] env).zip ((evalEach [v] env).map fun v => do let x ← v; standAt pos; pure x) = [(some (eval (.Constant (.str x) kd px) env), (do let y ← eval v env; standAt pos; pure y : Sem Value))] := by rfl) :
    EV prog w mg G k env ρ S (.Dict [some (.Constant (.str x) kd px)] [v] pos) (.obj S.length) (S ++ [.dict (encD [(x, p)]) 1]) := Lock.mk fun A σ s T Q E H => by
  have dd := dictDisplay_pairs [(eval (.Constant (.str x) kd px) env, (do let y ← eval v env; standAt pos; pure y : Sem Value))] (by simp) (by simp)
  rw [PySem.arm_eval_Dict, hshape]
  simp only [List.map_cons, List.map_nil] at dd
  rw [dd]
  refine wpAny_bind (wpAny_standAt (wpAny_bind ?_))
  unfold subDict
  refine wpAny_bind (wpAny_alloc ?_)
  refine wpAny_bind (wpAny_holding ?_)
  rw [if_pos (by simp)]
  have hk0 : ∀ a o, s.heap.get? a = some o → (s.heap.push { cls := .type "dict", data := .dict #[] }).get? a = some o := fun a o e => Heap.get?_push_of_some _ e
  have e0 : (s.heap.push { cls := .type "dict", data := .dict #[] }).get? s.heap.objs.size = some { cls := .type "dict", data := .dict #[] } := Heap.get?_push_size _ rfl
  obtain ⟨fr, frG⟩ := frOf T.rel (a := s.heap.objs.size) (Nat.le_refl _)
  have off : ∀ i, i < S.length → s.heap.objs.size ≠ σ.p i := fun i hi q => by
    obtain ⟨o, e⟩ := T.rel.alive hi
    rw [← q, fr] at e; cases e
  refine wpAny_bind (evalPairs_cons (wpAny_Constant_str ?_))
  have T₀ : Sit w.params mg G A k env ρ σ S (s.heap.push { cls := .type "dict", data := .dict #[] }) := T.keeps hk0
  refine wpAny_bind (h1 A { s with heap := s.heap.push { cls := .type "dict", data := .dict #[] }, toks := s.toks + 1 } _ _ fun u tk₁ V₁' => wpAny_bind (wpAny_standAt (wpAny_pure (evalPairs_nil ?_))))
  have R₁ := T₀.rel
  have X₁ : Ext σ S.length (s.heap.push { cls := .type "dict", data := .dict #[] }) σ S.length (s.heap.push { cls := .type "dict", data := .dict #[] }) := Ext.refl
  have V₁ := V₁' σ S.length (s.heap.push { cls := .type "dict", data := .dict #[] })
  show wpAny _ A _ _ E { s with heap := s.heap.push { cls := .type "dict", data := .dict #[] }, toks := tk₁ }
  generalize s.heap.push { cls := .type "dict", data := .dict #[] } = h₁ at hk0 e0 T₀ R₁ X₁ V₁ ⊢
  refine wpAny_holding ?_
  have e1 : h₁.get? s.heap.objs.size = some { cls := .type "dict", data := .dict #[] } := e0
  have m1 : h₁.DictAt (strKind prog w) s.heap.objs.size [] 0 := ⟨_, #[], e1, ⟨rfl, rfl, rfl⟩, rfl, fun e he => (by simp at he), .nil, by simp⟩
  rw [List.forIn_cons]
  refine wpAny_bind (wpAny_bind (wpAny_bind (dictSetAt (s := { s with heap := h₁, toks := tk₁ }) m1 (fun h₂ hm hs => wpAny_pure ?_) (by simp))))
  dsimp only
  rw [List.forIn_nil]
  refine wpAny_pure (wpAny_pure (wpAny_pure (wpAny_pure ?_)))
  have X01 : Ext σ S.length s.heap σ S.length h₁ := Ext.trans T₀.rel (Ext.ofKeeps hk0) X₁
  have offD : ∀ i, i < S.length → s.heap.objs.size ≠ σ.p i := fun i hi q => by
    by_cases hq : i < S.length
    · rw [X₁.same i hq] at q; exact off i hq q
    · have := X₁.new i (Nat.le_of_not_lt hq) hi
      rw [← q, e0] at this; cases this
  have cg : Chg s.heap.objs.size G σ S.length h₁ h₂ := ⟨fun a o hn e => hs.extBut a o hn e, fun hF => by
    obtain ⟨o, e⟩ := T.rel.fb _ ((X01.sameF _).mp hF)
    rw [fr] at e; (cases e), offD, frG, fun o e c => by rw [e1] at e; cases e; simp at c⟩
  have R₂ := R₁.chg cg
  have V₂ := V₁.chg cg
  have hO : OR w.params σ S.length h₂ s.heap.objs.size (.dict (encD [(x, p)]) 1) := fromDict (prog := prog) (kvs := [(x, u)]) hm (.cons V₂ .nil)
  refine H (.ref s.heap.objs.size) (σ.put S.length s.heap.objs.size) h₂ _ (R₂.addObj hO offD frG) ?_ ?_
  · refine ⟨by rw [List.length_append]; exact Nat.le_trans X01.len (Nat.le_add_right _ _), fun i hi => ?_, X01.sameF, fun i h1 h2 => ?_, fun a o e f => (X01.keep a o e f).trans fun o' e' => KeepO.refl (cg.keep a o' (fun q => by rw [q, fr] at e; cases e) e')⟩
    · show (if i = S.length then _ else _) = _
      rw [if_neg (by omega)]
    · show s.heap.get? (if i = S.length then _ else _) = _
      split
      · exact fr
      · rename_i hne
        exact X01.new i h1 (by rw [List.length_append, List.length_singleton] at h2; omega)
  · have := VR.obj (σ := σ.put S.length s.heap.objs.size) (N := (S ++ [PO.dict (encD [(x, p)]) 1]).length) (h := h₂) S.length (by simp)
    have e : (σ.put S.length s.heap.objs.size).p S.length = s.heap.objs.size := by show (if S.length = S.length then _ else _) = _; rw [if_pos rfl]
    rw [e] at this
    exact this
end
set_option tactic.hygienic true
set_option tactic.hygienic false
/-- the sort's tree of questions, run -/
noncomputable def runC {α : Type} (lt : Nat → Nat → Bool) (n : Nat) : KasT α → Option α
  | .ret a => some a
  | .ask i j k => if i < n ∧ j < n then runC lt n (k (lt i j)) else none
theorem kasWp_run {α : Type} {cmp : Nat → Nat → (Bool → Shared → Prop) → Shared → Prop} {lt : Nat → Nat → Bool} {n : Nat} {Q : α → Shared → Prop} {s : Shared} (hc : ∀ i j, i < n → j < n → ∀ C : Bool → Shared → Prop, C (lt i j) s → cmp i j C s) :
    ∀ (t : KasT α) (a : α), runC lt n t = some a → Q a s → t.kasWp cmp Q s
  | .ret b, a, h, q => by
    rw [runC] at h; cases h; exact q
  | .ask i j k, a, h, q => by
    rw [runC] at h
    split at h
    · rename_i hij
      exact hc i j hij.1 hij.2 _ (kasWp_run hc (k (lt i j)) a h q)
    · cases h
section
variable {prog : Program} {w : World} {A : Around} {E : Value → Shared → Prop} {s : Shared}
noncomputable def KeepsBut (D : Addr) (h h' : Heap) : Prop := ∀ b o, b ≠ D → h.get? b = some o → h'.get? b = some o

theorem sort_in_place {a : Addr} {vs : List Value} {n : Nat} {κ : SortKind} {lt : Nat → Nat → Bool} {p : Array Nat} {P : PySem.Fin → Shared → Prop} (ho : s.heap.get? a = some (seqObj "list" vs.toArray n)) (h2 : 2 ≤ vs.length) (h64 : vs.length < 64)
    (hk : ∀ s' : Shared, KeepsBut a s.heap s'.heap → ∀ (Q : SortKind → Shared → Prop), Q κ s' → wpAny (model prog w) A (keyKind' vs.toArray) Q (fun _ _ => False) s')
    (hc : ∀ s' : Shared, KeepsBut a s.heap s'.heap → ∀ i j, i < vs.length → j < vs.length → ∀ C : Bool → Shared → Prop, C (lt i j) s' → kas_ask prog w A κ vs i j C s')
    (hr : runC lt vs.length (kas_sort vs.length) = some p) (hps : p.size = vs.length)
    (h : ∀ h' c, KeepsBut a s.heap h' → h'.get? a = some (seqObj "list" (p.toList.map fun i => vs.getD i Value.none).toArray c) → P (.done (.ret .none)) { s with heap := h' }) :
    wpAny (model prog w) A (Builtin.«list.sort» ⟨[.ref a], []⟩) P E s := by
  have ha : a < s.heap.objs.size := Heap.lt_size ho
  have s1 := Heap.SameBut.update s.heap a (Obj.mapSeq fun _ => (#[] : Array Value))
  obtain ⟨e1, ho1⟩ : ∃ e1, (s.heap.update a (Obj.mapSeq fun _ => (#[] : Array Value))).get? a = some (seqObj "list" #[] e1) := ⟨_, get?_update_seq ho fun _ => #[]⟩
  generalize hh1 : s.heap.update a (Obj.mapSeq fun _ => (#[] : Array Value)) = h₁ at s1 ho1
  have kb : KeepsBut a s.heap ((h₁.push (seqObj "tuple" vs.toArray 0)).push (seqObj "list" #[] 0)) := fun b o hb e => Heap.get?_push_of_some _ (Heap.get?_push_of_some _ (s1.extBut b o hb e))
  have na := Heap.get?_push_of_some (seqObj "list" #[] 0) (Heap.get?_push_of_some (seqObj "tuple" vs.toArray 0) ho1)
  rw [list_sort_plain]
  refine wpAny_bind (listItems_at ho rfl ?_)
  refine wpAny_bind (listUpdate_at ho rfl ?_ (by rw [List.size_toArray, sizeLine_eq]; omega) (Nat.zero_le _))
  rw [hh1]
  refine wpAny_bind (seqEpoch_at (s := { s with heap := h₁ }) ho1 rfl ?_)
  refine wpAny_bind (wpAny_newTuple ?_ (by show vs.length ≤ _; rw [sizeLine_eq]; omega))
  refine wpAny_bind (wpAny_newList ?_ (Nat.zero_le _))
  refine wpAny_holding ?_
  show wpAny (model prog w) A _ P E { s with heap := (h₁.push (seqObj "tuple" vs.toArray 0)).push (seqObj "list" #[] 0) }
  dsimp only
  have hn2 : ¬ vs.toArray.size < 2 := by rw [List.size_toArray]; omega
  rw [if_neg hn2, if_neg hn2]
  refine wpAny_bind (wpAny_mono (hk { s with heap := (h₁.push (seqObj "tuple" vs.toArray 0)).push (seqObj "list" #[] 0) } kb (fun κ' s' => κ' = κ ∧ s' = { s with heap := (h₁.push (seqObj "tuple" vs.toArray 0)).push (seqObj "list" #[] 0) }) ⟨rfl, rfl⟩) (fun κ' s0 hk => ?_) fun _ _ x => x.elim)
  obtain ⟨rfl, rfl⟩ := hk
  refine wpAny_bind (wpAny_mono (kat_run (E := E) (Q := fun st' s' => arrOf st' = p.map (kas_item (vs.toArray.zip vs.toArray)) ∧ failedOf st' = none ∧ s' = { s with heap := (h₁.push (seqObj "tuple" vs.toArray 0)).push (seqObj "list" #[] 0) })
    (G := fun p' s' => p' = p ∧ s' = { s with heap := (h₁.push (seqObj "tuple" vs.toArray 0)).push (seqObj "list" #[] 0) }) rfl h2 h64 (fun p' st' s' a1 a2 a3 a4 => ⟨by rw [a2, a4.1], a3, a4.2⟩)
    (kasWp_run (lt := lt) (n := vs.length) (fun i j hi hj C hC => hc _ kb i j hi hj C hC) _ p hr ⟨rfl, rfl⟩)) ?_ fun _ _ e => e)
  rintro ⟨⟨⟩, st'⟩ s' ⟨har, hf, rfl⟩
  dsimp only
  have hout := kat_snds (ks := vs) (vs := vs) rfl har
  have hsz : (List.toArray (p.toList.map fun i => vs.getD i Value.none)).size = vs.length := by rw [List.size_toArray, List.length_map, Array.length_toList, hps]
  rw [hout]
  have s2 := Heap.SameBut.update ((h₁.push (seqObj "tuple" vs.toArray 0)).push (seqObj "list" #[] 0)) a (Obj.mapSeq fun _ => List.toArray (p.toList.map fun i => vs.getD i Value.none))
  obtain ⟨c2, hc2⟩ : ∃ c2, (((h₁.push (seqObj "tuple" vs.toArray 0)).push (seqObj "list" #[] 0)).update a (Obj.mapSeq fun _ => List.toArray (p.toList.map fun i => vs.getD i Value.none))).get? a = some (seqObj "list" (List.toArray (p.toList.map fun i => vs.getD i Value.none)) c2) := ⟨_, get?_update_seq na fun _ => List.toArray (p.toList.map fun i => vs.getD i Value.none)⟩
  refine wpAny_bind (seqEpoch_at (s := { s with heap := (h₁.push (seqObj "tuple" vs.toArray 0)).push (seqObj "list" #[] 0) }) na rfl ?_)
  refine wpAny_bind (listUpdate_at (s := { s with heap := (h₁.push (seqObj "tuple" vs.toArray 0)).push (seqObj "list" #[] 0) }) na rfl ?_ (Nat.zero_le _) (Nat.le_trans (Nat.le_of_eq hsz) (by rw [sizeLine_eq]; omega)))
  rw [hf]
  simp only [bne_self_eq_false, Bool.false_eq_true, if_false]
  exact wpAny_pure (h _ c2 (fun b o hb e => s2.extBut b o hb (kb b o hb e)) hc2)
end
set_option tactic.hygienic true
section
variable {prog : Program} {w : World} {A : Around} {E : Value → Shared → Prop} {s : Shared}
theorem sorted_call {l : Addr} {vs : List Value} {κ : SortKind} {lt : Nat → Nat → Bool} {p : Array Nat} {Q : Value → Shared → Prop} (hl : s.heap.IsList l vs.toArray) (h2 : 2 ≤ vs.length) (h64 : vs.length < 64)
    (hk : ∀ s' : Shared, (∀ b o, s.heap.get? b = some o → s'.heap.get? b = some o) → ∀ (Q : SortKind → Shared → Prop), Q κ s' → wpAny (model prog w) A.in1.in1 (keyKind' vs.toArray) Q (fun _ _ => False) s')
    (hc : ∀ s' : Shared, (∀ b o, s.heap.get? b = some o → s'.heap.get? b = some o) → ∀ i j, i < vs.length → j < vs.length → ∀ C : Bool → Shared → Prop, C (lt i j) s' → kas_ask prog w A.in1.in1 κ vs i j C s')
    (hr : runC lt vs.length (kas_sort vs.length) = some p) (hps : p.size = vs.length)
    (h : ∀ D h' c, s.heap.objs.size ≤ D → (∀ b o, s.heap.get? b = some o → h'.get? b = some o) → h'.get? D = some (seqObj "list" (p.toList.map fun i => vs.getD i Value.none).toArray c) → Q (.ref D) { s with heap := h' }) :
    wpAny (model prog w) A (PySem.call (.builtin "sorted") [.ref l]) Q E s := by
  refine Calls.call_function_entry kind_sorted plain_sorted entry_sorted (args_sorted1 _) ?_
  unfold Builtin.«sorted»
  refine wpAny_bind (m := checkCount "sorted" 1 1 _) (wpAny_pure ?_)
  refine wpAny_bind (collect_list hl ?_ (by rw [sizeLine_eq]; omega))
  refine wpAny_bind (wpAny_newList ?_ (by rw [sizeLine_eq]; omega))
  have hsz : ((s.heap.push (seqObj "list" #[] 0)).update s.heap.objs.size (Obj.mapSeq (· ++ vs.toArray))).objs.size = s.heap.objs.size + 1 := by
    rw [Heap.size_update, size_push']
  have hoL : (((s.heap.push (seqObj "list" #[] 0)).update s.heap.objs.size (Obj.mapSeq (· ++ vs.toArray))).push (seqObj "list" vs.toArray 0)).get? (s.heap.objs.size + 1) = some (seqObj "list" vs.toArray 0) := by
    rw [← hsz]; exact Heap.get?_push_size _ rfl
  have keep : ∀ b o, s.heap.get? b = some o → (((s.heap.push (seqObj "list" #[] 0)).update s.heap.objs.size (Obj.mapSeq (· ++ vs.toArray))).push (seqObj "list" vs.toArray 0)).get? b = some o := fun b o q => by
    have hlt : b < s.heap.objs.size := Heap.lt_size q
    rw [Heap.get?_push_ne _ _ _ (by rw [hsz]; exact Nat.ne_of_lt (Nat.lt_succ_of_lt hlt)), Heap.get?_update_ne _ _ _ _ (Nat.ne_of_lt hlt), Heap.get?_push_ne _ _ _ (Nat.ne_of_lt hlt)]
    exact q
  show wpAny _ _ _ _ _ { s with heap := ((s.heap.push (seqObj "list" #[] 0)).update s.heap.objs.size (Obj.mapSeq (· ++ vs.toArray))).push (seqObj "list" vs.toArray 0) }
  rw [hsz]
  generalize ((s.heap.push (seqObj "list" #[] 0)).update s.heap.objs.size (Obj.mapSeq (· ++ vs.toArray))).push (seqObj "list" vs.toArray 0) = hp at hoL keep
  have kb : ∀ s' : Shared, KeepsBut (s.heap.objs.size + 1) hp s'.heap → ∀ b o, s.heap.get? b = some o → s'.heap.get? b = some o := fun s' hb b o e => hb b o (Nat.ne_of_lt (Nat.lt_succ_of_lt (Heap.lt_size e))) (keep b o e)
  refine wpAny_bind (wpAny_holding (wpAny_call_entry slot_list_sort ⟨_, hoL, rfl⟩ entry_list_sort ?body (args_list_sort _)))
  case body =>
    refine sort_in_place (s := { s with heap := hp }) hoL h2 h64 (fun s' hb => hk s' (kb s' hb)) (fun s' hb => hc s' (kb s' hb)) hr hps fun h' c hb hD => ?_
    exact ⟨_, rfl, wpAny_pure ⟨_, rfl, h _ h' c (Nat.le_succ _) (fun b o e => hb b o (Nat.ne_of_lt (Nat.lt_succ_of_lt (Heap.lt_size e))) (keep b o e)) hD⟩⟩
end

section
variable {prog : Program} {w : World} {mg : Str → Option Value} {G : Heap} {k : Nat} {env : Env} {ρ : Vars} {S S₁ S₂ S₃ S' : List PO}
theorem itShape {σ : Lo} {N : Nat} {h : Heap} {v : Value} {x : It} (V : VR σ N h v (enc x)) : ∃ a o n t u, v = .ref a ∧ h.get? a = some o ∧ o.cls = .type "tuple" ∧ o.data = .seq #[.int x.1 t, .str x.2 u] n := by
  cases V with
  | tup hF ho hc hd hl hi =>
    rename_i a o vs n
    obtain ⟨l⟩ := vs
    match l, hl with
    | [v0, v1], _ =>
      have h0 := hi 0 v0 _ (by simp) rfl
      have h1 := hi 1 v1 _ (by simp) rfl
      cases h0; cases h1
      exact ⟨a, o, n, _, _, rfl, ho, hc, hd⟩
theorem itFirsts {σ : Lo} {N : Nat} {h : Heap} : ∀ (l : List It) (vs : List Value), VRs σ N h vs.toArray (l.map enc) → ∃ fs, KatTups h vs fs ∧ fs.length = l.length ∧ ∀ f ∈ fs, ∃ i t, f = .int i t
  | [], vs, V => by rw [V.unnil]; exact ⟨[], KatTups.nil, rfl, fun f hf => nomatch hf⟩
  | x :: l, vs, V => by
    obtain ⟨v, vs', rfl, a, b⟩ := V.uncons
    obtain ⟨fs, h1, h2, h3⟩ := itFirsts l vs' b
    obtain ⟨ad, o, n, t, u, rfl, ho, hc, hd⟩ := itShape a
    refine ⟨.int x.1 t :: fs, KatTups.cons ho hc hd rfl h1, by simp [h2], fun f hf => ?_⟩
    rcases List.mem_cons.mp hf with rfl | hf
    · exact ⟨_, _, rfl⟩
    · exact h3 f hf
theorem OPL.sorted {n : Nat} {l : List It} {p : Array Nat} (hn : S[n]? = some (.list (l.map enc))) (h2 : 2 ≤ l.length) (h64 : l.length < 64)
    (hr : runC (fun i j => ltI (l.getD i default) (l.getD j default)) l.length (kas_sort l.length) = some p) (hps : p.size = l.length) (hpb : ∀ i ∈ p.toList, i < l.length) :
    OPL prog w mg G k S [.obj n] (fun vs => PySem.call (.builtin "sorted") vs) (.obj S.length) (S ++ [.list ((p.toList.map fun i => l.getD i default).map enc)]) := Lock.mk fun A σ s vs g r _ R V0 Q E H => by
  obtain ⟨v, vs, rfl, V, V'⟩ := V0.uncons
  rw [V'.unnil]
  (first | (obtain ⟨_, rfl⟩ := VR.inv V) | (obtain rfl := VR.inv V))
  obtain ⟨us, c, ho, hu⟩ := R.objs n _ hn
  obtain ⟨us⟩ := us
  have hlen : us.length = l.length := by have := hu.1; simpa using this
  obtain ⟨fs, kt, kl, ki⟩ := itFirsts l us hu
  have at_ : ∀ i, i < l.length → VR σ S.length s.heap (us.getD i Value.none) (enc (l.getD i default)) := fun i hi => by
    have e1 : us.getD i Value.none = us[i]'(by omega) := by simp [hlen, hi]
    have e2 : l.getD i default = l[i] := by simp [hi]
    rw [e1, e2]
    exact hu.2 i _ _ (by simp [hlen, hi]) (by simp [hi])
  show wpAny _ A (PySem.call (.builtin "sorted") [_]) Q E s
  refine sorted_call (vs := us) (κ := tuples' (Value.type "int" != Value.type "tuple")) (lt := fun i j => ltI (l.getD i default) (l.getD j default)) (p := p) ⟨_, ho, rfl, c, rfl⟩ (by omega) (by omega) (fun s' hk Q hq => ?_) (fun s' hk i j hi hj C hC => ?_) (by rw [hlen]; exact hr) (by rw [hlen]; exact hps) fun D h' c' hD hk hO => ?_
  · have kt' : KatTups s'.heap us fs := by
      have : ∀ (us fs : List Value), KatTups s.heap us fs → KatTups s'.heap us fs := by
        intro us
        induction us with
        | nil => intro fs h; cases fs with | nil => trivial | cons => exact h.elim
        | cons u us ih =>
          intro fs h
          cases fs with
          | nil => exact h.elim
          | cons f fs =>
            obtain ⟨⟨a, o, xs, n, e1, e2, e3⟩, h⟩ := h
            exact ⟨⟨a, o, xs, n, e1, hk _ _ e2, e3⟩, ih fs h⟩
      exact this us fs kt
    exact kat_kind kt' (by omega) (fun v hv => by obtain ⟨i, t, rfl⟩ := ki v hv; exact Looks.of_pure rfl) (by simp) hq
  · obtain ⟨a, o, m, t, u, e1, ho1, hc1, hd1⟩ := itShape (at_ i (by omega))
    obtain ⟨b, o', m', t', u', e2, ho2, hc2, hd2⟩ := itShape (at_ j (by omega))
    unfold kas_ask
    rw [e1, e2]
    refine kat_lt (hk _ _ ho1) hd1 (hk _ _ ho2) hd2 ?_
    refine kat_cons (wpAny_eqBool_int ?_)
    have hC' : C (ltP (l.getD i default).1 (l.getD i default).2 (l.getD j default).1 (l.getD j default).2) s' := hC
    unfold ltP at hC'
    cases h1 : ((l.getD i default).1 == (l.getD j default).1) with
    | false =>
      rw [h1] at hC'
      exact kat_no (oneLt_int hC')
    | true =>
      rw [h1] at hC'
      refine kat_yes (kat_cons (eqBool_str ?_))
      cases h2 : ((l.getD i default).2 == (l.getD j default).2) with
      | false =>
        rw [h2] at hC'
        exact kat_no (kat_one _ _ (lt_str hC'))
      | true =>
        rw [h2] at hC'
        exact kat_yes (kat_nil hC')
  · have hkV : ∀ v q, VR σ S.length s.heap v q → VR σ S.length h' v q := fun v q V => V.mono (Nat.le_refl _) (fun _ _ => rfl) (fun _ q => q) fun a o e _ => hk a o e
    have hV : VRs σ S.length h' (p.toList.map fun i => us.getD i Value.none).toArray ((p.toList.map fun i => l.getD i default).map enc) := by
      have : ∀ q : List Nat, (∀ i ∈ q, i < l.length) → VRs σ S.length h' (q.map fun i => us.getD i Value.none).toArray ((q.map fun i => l.getD i default).map enc) := by
        intro q
        induction q with
        | nil => intro _; exact VRs.nil
        | cons i q ih => intro hq; exact VRs.cons (hkV _ _ (at_ i (hq i (.head _)))) (ih fun j hj => hq j (.tail _ hj))
      exact this p.toList hpb
    obtain ⟨R₂, X₂, V₂⟩ := newAt (w := w) (s := s) (h' := h') (D := D) (o := .list ((p.toList.map fun i => l.getD i default).map enc)) R hD hk ⟨_, c', hO, hV⟩
    exact H _ _ _ s.toks R₂ X₂ V₂
end
set_option tactic.hygienic false

noncomputable abbrev DI := List (Str × Int)
noncomputable abbrev encI (D : DI) : DS := D.map fun q => (q.1, PV.int q.2)
noncomputable def ilook (D : DI) (x : Str) : Option Int := (D.find? fun q => q.1 = x).map (·.2)
noncomputable def istore (D : DI) (x : Str) (c : Int) : DI := if D.any (fun q => q.1 = x) then D.map (fun q => if q.1 = x then (q.1, c) else q) else D ++ [(x, c)]
noncomputable def relaxD (x : Wy) (De : DI × Nat) : DI × Nat :=
  match ilook De.1 x.1 with
  | none => De
  | some c => if c + x.2.2 < (ilook De.1 x.2.1).getD 1000 then (istore De.1 x.2.1 (c + x.2.2), if De.1.any (fun q => q.1 = x.2.1) then De.2 else De.2 + 1) else De
noncomputable def roundD (ws : List Wy) (De : DI × Nat) : DI × Nat := ws.foldl (fun De x => relaxD x De) De
theorem dlook_enc (D : DI) (x : Str) : dlook (encI D) x = (ilook D x).map .int := by
  induction D with
  | nil => rfl
  | cons q D ih =>
    unfold dlook ilook at *
    show (List.find? (fun q => decide (q.1 = x)) ((q.1, PV.int q.2) :: encI D)).map (·.2) = _
    rw [List.find?_cons, List.find?_cons]
    by_cases h : q.1 = x
    · simp only [h, decide_true]; rfl
    · simp only [h, decide_false]; exact ih
theorem dstore_enc (D : DI) (x : Str) (c : Int) : dstore (encI D) x (.int c) = encI (istore D x c) := by
  unfold dstore istore
  rw [List.any_map]
  show (if (D.any fun q => decide (q.1 = x)) = true then _ else _) = _
  split
  · simp only [List.map_map]
    apply List.map_congr_left
    intro q _
    show (if q.1 = x then (q.1, PV.int c) else (q.1, PV.int q.2)) = _
    show _ = (fun q => (q.1, PV.int q.2)) (if q.1 = x then (q.1, c) else q)
    split <;> rfl
  · simp
theorem keysEnc (D : DI) : (encI D).map (·.1) = D.map (·.1) := by simp [List.map_map, Function.comp_def]
theorem istore_nodup {D : DI} (h : (D.map (·.1)).Nodup) (x : Str) (c : Int) : ((istore D x c).map (·.1)).Nodup := by
  unfold istore
  split
  · have : (D.map (fun q => if q.1 = x then (q.1, c) else q)).map (·.1) = D.map (·.1) := by
      rw [List.map_map]
      apply List.map_congr_left
      intro q _
      show (if q.1 = x then (q.1, c) else q).1 = q.1
      split <;> rfl
    rw [this]; exact h
  · rename_i hn
    rw [List.map_append, List.nodup_append]
    refine ⟨h, by simp, ?_⟩
    intro a ha b hb e
    simp at hb
    subst hb
    apply hn
    rw [List.any_eq_true]
    obtain ⟨q, hq, rfl⟩ := List.mem_map.mp ha
    exact ⟨q, hq, by simpa using e⟩
theorem relaxD_nodup {De : DI × Nat} (h : (De.1.map (·.1)).Nodup) (x : Wy) : ((relaxD x De).1.map (·.1)).Nodup := by
  unfold relaxD
  split
  · exact h
  · split
    · exact istore_nodup h _ _
    · exact h
theorem relaxD_len {De : DI × Nat} (x : Wy) : (relaxD x De).1.length ≤ De.1.length + 1 := by
  unfold relaxD istore
  split
  · omega
  · split
    · split <;> simp
    · omega

noncomputable abbrev xLe : List Str := ["steps", "least", "turn", "start", "goal", "more"]
theorem nmLe : Nm xLe := ⟨by decide +kernel, by decide +kernel⟩
noncomputable def leOut : Stmt := (bd 27).getD 1 default
noncomputable def leIn : Stmt := (bodyOf leOut).getD 0 default

section
variable {prog : Program} {w : World} {mg : Str → Option Value} {G : Heap} {k : Nat}
structure LeEnv (env : Env) : Prop where
  hk : ∀ x ∈ xLe, env.kindOf x = some .local ∨ env.kindOf x = some .cell
  gr : env.kindOf "range" = some .globalImplicit
  gs : env.kindOf "sorted" = some .globalImplicit
  hs : env.scope = sc 27
theorem le_step {env : Env} (he : LeEnv env) {st n : Nat} {S : List PO} {De : DI × Nat} {o0 o1 o2 o3 : Option PV} (hn : S[n]? = some (.dict (encD (encI De.1)) De.2)) (nd : (De.1.map (·.1)).Nodup) (hl : De.1.length ≤ sizeLine) (x : Wy) :
    ForStep prog w mg G k env (tgtOf leIn) (bodyOf leIn) (encW x) (V xLe [some (.obj st), some (.obj n), o0, o1, o2, o3]) S
      (.next (V xLe [some (.obj st), some (.obj n), o0, some (.str x.1), some (.str x.2.1), some (.int x.2.2)]) (S.set n (.dict (encD (encI (relaxD x De).1)) (relaxD x De).2))) := by
  have nm := nmLe
  obtain ⟨hk, gr, gs, hs⟩ := he
  refine ⟨V xLe [some (.obj st), some (.obj n), o0, some (.str x.1), some (.str x.2.1), some (.int x.2.2)], ?_, ?_⟩
  · conv in (tgtOf _) => whnf
    apply ASG.tupV nm hk
    repeat' array_get_dec
  · have nd' : ((encI De.1).map (·.1)).Nodup := by rw [keysEnc]; exact nd
    have hin := O.inD (prog := prog) (w := w) (mg := mg) (G := G) (k := k) (x := x.1) hn nd'
    have hget := OPL.get2 (prog := prog) (w := w) (mg := mg) (G := G) (k := k) (x := x.2.1) (d := .int 1000) hn nd'
    rw [dlook_enc] at hin hget
    have eget : ((ilook De.1 x.2.1).map PV.int).getD (.int 1000) = .int ((ilook De.1 x.2.1).getD 1000) := by cases ilook De.1 x.2.1 <;> rfl
    rw [eget] at hget
    have hmt : MT w G prog S (.obj n) "get" "dict.get" := MT.dict hn PySem.F.slot_dict_get PySem.F.type_dict_get
    sizeOf_list_dec
    cases hx : ilook De.1 x.1 with
    | none =>
      have er : relaxD x De = De := by unfold relaxD; rw [hx]
      rw [er, set_same hn]
      rw [hx] at hin
      have hin' : OP2 prog w mg G k S (.str x.1) (.obj n) (compareOp .In) (.bool false) S := hin
      refine EXs.cons (EX.ifF (b := false) (S₁ := S) ?_ rfl EXs.nil) EXs.nil
      refine EB.and (x := false) (S₁ := S) ?_ (fun h => nomatch h) (fun _ => ⟨rfl, rfl⟩)
      repeat' array_get_dec
    | some c =>
      rw [hx] at hin
      have hin' : OP2 prog w mg G k S (.str x.1) (.obj n) (compareOp .In) (.bool true) S := hin
      have hsub : SUB prog w mg G k S (.obj n) (.str x.1) (.int c) S := SUB.dict hn nd' (by rw [dlook_enc, hx]; rfl)
      have htest : EB prog w mg G k env (V xLe [some (.obj st), some (.obj n), o0, some (.str x.1), some (.str x.2.1), some (.int x.2.2)]) S (testOf ((bodyOf leIn).getD 0 default)) (decide (c + x.2.2 < (ilook De.1 x.2.1).getD 1000)) S := by
        conv in (testOf _) => whnf
        refine EB.and (x := true) (S₁ := S) ?_ (fun _ => ?_) (fun h => nomatch h)
        · repeat' array_get_dec
        · repeat' array_get_dec
      conv at htest in (testOf _) => whnf
      have er : relaxD x De = if c + x.2.2 < (ilook De.1 x.2.1).getD 1000 then (istore De.1 x.2.1 (c + x.2.2), if De.1.any (fun q => q.1 = x.2.1) then De.2 else De.2 + 1) else De := by unfold relaxD; rw [hx]
      rw [er]
      by_cases hlt : c + x.2.2 < (ilook De.1 x.2.1).getD 1000
      · rw [if_pos hlt]
        refine EXs.cons (EX.ifT htest (by simpa using hlt) ?_) EXs.nil
        have e1 : (encI De.1).any (fun q => q.1 = x.2.1) = De.1.any (fun q => q.1 = x.2.1) := by rw [List.any_map]; rfl
        rw [← dstore_enc, ← e1]
        refine EXs.cons (EX.setD (S₁ := S) (S₂ := S) (S₃ := S) ?_ ?_ ?_ hn nd' (by rw [List.length_map]; exact hl) rfl) EXs.nil
        · repeat' array_get_dec
        · repeat' array_get_dec
        · repeat' array_get_dec
      · rw [if_neg hlt, set_same hn]
        exact EXs.cons (EX.ifF htest (by simpa using hlt) EXs.nil) EXs.nil

theorem le_in {env : Env} (he : LeEnv env) {st n : Nat} (hne : st ≠ n) {all : List PV} : ∀ (ws : List Wy) (S : List PO) (De : DI × Nat) (o0 o1 o2 o3 : Option PV), S[n]? = some (.dict (encD (encI De.1)) De.2) → S[st]? = some (.list all) → (De.1.map (·.1)).Nodup → De.1.length + ws.length ≤ sizeLine →
    ∃ o1' o2' o3', LoopR (ForStep prog w mg G k env (tgtOf leIn) (bodyOf leIn)) (fun S => S[st]? = some (.list all)) (ws.map encW) (V xLe [some (.obj st), some (.obj n), o0, o1, o2, o3]) S
      (.next (V xLe [some (.obj st), some (.obj n), o0, o1', o2', o3']) (S.set n (.dict (encD (encI (roundD ws De).1)) (roundD ws De).2)))
  | [], S, De, o0, o1, o2, o3, hn, hst, nd, hz => by
    refine ⟨o1, o2, o3, ?_⟩
    show LoopR _ _ [] _ S (.next _ (S.set n (.dict (encD (encI De.1)) De.2)))
    rw [set_same hn]; exact .nil
  | x :: ws, S, De, o0, o1, o2, o3, hn, hst, nd, hz => by
    have h1 := le_step (prog := prog) (w := w) (mg := mg) (G := G) (k := k) he (st := st) (o0 := o0) (o1 := o1) (o2 := o2) (o3 := o3) hn nd (by simp at hz; omega) x
    have hst' : (S.set n (.dict (encD (encI (relaxD x De).1)) (relaxD x De).2))[st]? = some (.list all) := by rw [List.getElem?_set_ne (Ne.symm hne)]; exact hst
    obtain ⟨a, b, c, L⟩ := le_in he hne ws _ (relaxD x De) o0 (some (.str x.1)) (some (.str x.2.1)) (some (.int x.2.2)) (set_get hn) hst' (relaxD_nodup nd x) (by have := relaxD_len (De := De) x; simp at hz; omega)
    rw [List.set_set] at L
    exact ⟨a, b, c, .next h1 hst' L⟩
end
set_option tactic.hygienic true
set_option tactic.hygienic false

noncomputable def rounds (ws : List Wy) : Nat → DI × Nat → DI × Nat
  | 0, De => De
  | n + 1, De => rounds ws n (roundD ws De)
theorem roundD_nodup (ws : List Wy) : ∀ De : DI × Nat, (De.1.map (·.1)).Nodup → ((roundD ws De).1.map (·.1)).Nodup := by
  induction ws with
  | nil => intro De h; exact h
  | cons x ws ih => intro De h; exact ih _ (relaxD_nodup h x)
theorem roundD_len (ws : List Wy) : ∀ De : DI × Nat, (roundD ws De).1.length ≤ De.1.length + ws.length := by
  induction ws with
  | nil => intro De; exact Nat.le_refl _
  | cons x ws ih =>
    intro De
    have h1 := ih (relaxD x De)
    have h2 := relaxD_len (De := De) x
    show (roundD ws (relaxD x De)).1.length ≤ _
    rw [List.length_cons]; omega
theorem rounds_nodup (ws : List Wy) : ∀ (n : Nat) (De : DI × Nat), (De.1.map (·.1)).Nodup → ((rounds ws n De).1.map (·.1)).Nodup
  | 0, _, h => h
  | n + 1, De, h => rounds_nodup ws n _ (roundD_nodup ws De h)
theorem rounds_len (ws : List Wy) : ∀ (n : Nat) (De : DI × Nat), (rounds ws n De).1.length ≤ De.1.length + n * ws.length
  | 0, De => by simp [rounds]
  | n + 1, De => by
    have h1 := rounds_len ws n (roundD ws De)
    have h2 := roundD_len ws De
    show (rounds ws n (roundD ws De)).1.length ≤ _
    rw [Nat.succ_mul]; omega
noncomputable def leC : Expr := match retE ((bd 27).getD 2 default) with | .Call _ (a :: _) _ _ => a | e => e
noncomputable abbrev xLc : List Str := ["name", "least"]
theorem nmLc : Nm xLc := ⟨by decide +kernel, by decide +kernel⟩
noncomputable abbrev flip (q : Str × Int) : It := (q.2, q.1)

section
variable {prog : Program} {w : World} {mg : Str → Option Value} {G : Heap} {k : Nat}
theorem le_out {env : Env} (he : LeEnv env) {st n : Nat} (hne : st ≠ n) {ws : List Wy} : ∀ (ts : List Int) (S : List PO) (De : DI × Nat) (o0 o1 o2 o3 : Option PV), S[n]? = some (.dict (encD (encI De.1)) De.2) → S[st]? = some (.list (ws.map encW)) → (De.1.map (·.1)).Nodup → De.1.length + ts.length * ws.length ≤ sizeLine →
    ∃ o0' o1' o2' o3', LoopR (ForStep prog w mg G k env (tgtOf leOut) (bodyOf leOut)) (fun _ => True) (ts.map .int) (V xLe [some (.obj st), some (.obj n), o0, o1, o2, o3]) S
      (.next (V xLe [some (.obj st), some (.obj n), o0', o1', o2', o3']) (S.set n (.dict (encD (encI (rounds ws ts.length De).1)) (rounds ws ts.length De).2)))
  | [], S, De, o0, o1, o2, o3, hn, hst, nd, hz => by
    refine ⟨o0, o1, o2, o3, ?_⟩
    show LoopR _ _ [] _ S (.next _ (S.set n (.dict (encD (encI De.1)) De.2)))
    rw [set_same hn]; exact .nil
  | t :: ts, S, De, o0, o1, o2, o3, hn, hst, nd, hz => by
    rw [List.length_cons, Nat.succ_mul] at hz
    have nm := nmLe
    obtain ⟨a, b, c, L⟩ := le_in (prog := prog) (w := w) (mg := mg) (G := G) (k := k) he hne ws S De (some (.int t)) o1 o2 o3 hn hst nd (by omega)
    have hst' : (S.set n (.dict (encD (encI (roundD ws De).1)) (roundD ws De).2))[st]? = some (.list (ws.map encW)) := by rw [List.getElem?_set_ne (Ne.symm hne)]; exact hst
    obtain ⟨a', b', c', d', L'⟩ := le_out he hne ts _ (roundD ws De) (some (.int t)) a b c (set_get hn) hst' (roundD_nodup ws De nd) (by have := roundD_len ws De; omega)
    rw [List.set_set] at L'
    refine ⟨a', b', c', d', .next ⟨V xLe [some (.obj st), some (.obj n), some (.int t), o1, o2, o3], ?_, ?_⟩ trivial L'⟩
    · conv in (tgtOf _) => whnf
      exact ASG.nm nm (he.hk _ (by decide +kernel)) (.tl (.tl .hd))
    · sizeOf_list_dec
      refine EXs.cons (EX.for_ (S₁ := S) (ITR.list (n := st) ?_ hst) L (fun _ => rfl) (.inl ⟨_, _, rfl⟩)) EXs.nil
      repeat' array_get_dec

theorem le_comp {env : Env} {n ep : Nat} {S : List PO} {D0 : DI} (hn : S[n]? = some (.dict (encD (encI D0)) ep)) (nd : (D0.map (·.1)).Nodup) : ∀ D : DI, (∀ q ∈ D, ilook D0 q.1 = some q.2) →
    CompR (CompStep prog w mg G k env (cscOf leC) (V xLc [none, some (.obj n)]) (genOf leC).target (genOf leC).ifs (eltOf leC)) (fun S => S[n]? = some (.dict (encD (encI D0)) ep)) (D.map fun q => .str q.1) S ((D.map flip).map enc) S
  | [], _ => .nil
  | q :: D, hq => by
    have nm := nmLc
    have nd1 : ((cscOf leC).names.map (·.1)).Nodup := by decide +kernel
    have hkl : (Str.ofString "name", NameKind.local) ∈ (cscOf leC).names := by decide +kernel
    have hsub : SUB prog w mg G k S (.obj n) (.str q.1) (.int q.2) S := SUB.dict hn (by rw [keysEnc]; exact nd) (by rw [dlook_enc, hq q (.head _)]; rfl)
    refine .take (.take (V xLc [some (.str q.1), some (.obj n)]) S (V.fresh (x := "name") (p := .str q.1) .hd .hd nm.nd) fun C => ⟨ASG.nm nm (.inl (kindC nd1 hkl)) .hd, ?_, ?_⟩) hn (le_comp hn nd D fun r hr => hq r (.tail _ hr))
    · conv in (Comprehension.ifs _) => whnf
      exact .nil
    · generalize cenvOf (cscOf leC) env C = ce
      conv in (eltOf _) => whnf
      repeat' array_get_dec
theorem ilook_self {D : DI} (nd : (D.map (·.1)).Nodup) : ∀ q ∈ D, ilook D q.1 = some q.2 := by
  induction D with
  | nil => intro q h; cases h
  | cons a D ih =>
    intro q hq
    rw [List.map_cons, List.nodup_cons] at nd
    unfold ilook
    rw [List.find?_cons]
    rcases List.mem_cons.mp hq with rfl | hq
    · simp
    · have : a.1 ≠ q.1 := fun e => nd.1 (e ▸ List.mem_map_of_mem (f := (·.1)) hq)
      simp only [this, decide_false]
      exact ih nd.2 q hq

theorem least_ok (T : Top mg G) : ∃ f, mg "_law_least" = some (.ref f) ∧ Kp G (.ref f) ∧ ∀ (k : Nat) (S : List PO) (st : Nat) (ws : List Wy) (l : List It) (p : Array Nat), S[st]? = some (.list (ws.map encW)) → ws.length ≤ 1000 →
    l = (rounds ws 6 ([(Str.ofString "a", 0)], 1)).1.map flip → 2 ≤ l.length → l.length < 64 → runC (fun i j => ltI (l.getD i default) (l.getD j default)) l.length (kas_sort l.length) = some p → p.size = l.length → (∀ i ∈ p.toList, i < l.length) →
    ∃ S' r, OPL prog w mg G (k + 1) S [.obj st] (fun vs => PySem.call (.ref f) vs) (.obj r) S' ∧ S'[r]? = some (.list ((p.toList.map fun i => l.getD i default).map enc)) ∧ (∀ (i : Nat) (o : PO), S[i]? = some o → S'[i]? = some o) := by
  obtain ⟨f, fd, hm, D, hs⟩ := T.fn 27 (by decide)
  refine ⟨f, hm, D.kp, fun k S st ws l p hst hws hl h2 h64 hr hps hpb => ?_⟩
  have hlt : st < S.length := (List.getElem?_eq_some_iff.mp hst).1
  have hne : st ≠ S.length := Nat.ne_of_lt hlt
  have hbig : 7001 ≤ sizeLine := Nat.le_of_ble_eq_true rfl
  generalize hDe : rounds ws 6 ([(Str.ofString "a", 0)], 1) = De at hl
  have nd : (De.1.map (·.1)).Nodup := by rw [← hDe]; exact rounds_nodup ws 6 _ (by simp)
  have n0 : (S ++ [PO.dict (encD (encI [(Str.ofString "a", 0)])) 1])[S.length]? = some (.dict (encD (encI [(Str.ofString "a", 0)])) 1) := by simp
  have n1 : (S ++ [PO.dict (encD (encI De.1)) De.2])[S.length]? = some (.dict (encD (encI De.1)) De.2) := by simp
  have eS : (S ++ [PO.dict (encD (encI [(Str.ofString "a", 0)])) 1]).set S.length (.dict (encD (encI De.1)) De.2) = S ++ [.dict (encD (encI De.1)) De.2] := by
    rw [List.set_append_right _ _ (Nat.le_refl _)]; simp
  have nl : (S ++ [PO.dict (encD (encI De.1)) De.2] ++ [PO.list (l.map enc)])[(S ++ [PO.dict (encD (encI De.1)) De.2]).length]? = some (.list (l.map enc)) := by simp
  have hsort := OPL.sorted (prog := prog) (w := w) (mg := mg) (G := G) (k := k) nl h2 h64 hr hps hpb
  refine ⟨S ++ [PO.dict (encD (encI De.1)) De.2] ++ [PO.list (l.map enc)] ++ [PO.list ((p.toList.map fun i => l.getD i default).map enc)], (S ++ [PO.dict (encD (encI De.1)) De.2] ++ [PO.list (l.map enc)]).length, ?_, by simp, fun i o e => app_get (app_get (app_get e))⟩
  refine FN.go (as := ["steps"]) (ys := ["least", "turn", "start", "goal", "more"]) D rfl fun L => ?_
  have he : LeEnv (fenv fd f L) := ⟨kinds 27 xLe (by decide +kernel) hs, by unfold Env.kindOf; show fd.scope.names.lookup _ = _; rw [hs]; decide +kernel, by unfold Env.kindOf; show fd.scope.names.lookup _ = _; rw [hs]; decide +kernel, hs⟩
  generalize fenv fd f L = env at he
  have nm := nmLe
  obtain ⟨a, b, c, d, W⟩ := le_out (prog := prog) (w := w) (mg := mg) (G := G) (k := k) he hne (ws := ws) [0, 1, 2, 3, 4, 5] (S ++ [PO.dict (encD (encI [(Str.ofString "a", 0)])) 1]) ([(Str.ofString "a", 0)], 1) none none none none n0 (app_get hst) (by simp) (by simp; omega)
  rw [show ([0, 1, 2, 3, 4, 5] : List Int).length = 6 from rfl, hDe, eS] at W
  have hC := le_comp (prog := prog) (w := w) (mg := mg) (G := G) (k := k) (env := env) n1 nd De.1 (ilook_self nd)
  rw [← hl] at hC
  have he0 := he
  obtain ⟨hk, gr, gs, hs'⟩ := he
  show EXs prog w mg G k env (V xLe [some (.obj st), none, none, none, none, none]) S (bd 27) _
  conv in (bd 27) => whnf
  refine EXs.asg nm hk (p := .obj S.length) (S₁ := S ++ [PO.dict (encD (encI [(Str.ofString "a", 0)])) 1]) (EV.dict1 (p := .int 0) (fun A s Q E h => wpAny_Constant_int (h _ _ fun σ N h => .int _ _))) (.tl .hd) rfl ?_
  refine EXs.cons (EX.for_ (S₁ := S ++ [PO.dict (encD (encI [(Str.ofString "a", 0)])) 1]) (ITR.range1 (b := 6) ?_ ?_ (by decide) (by decide)) W (fun _ => rfl) (.inl ⟨_, _, rfl⟩)) ?_
  · exact EV.builtin gr (T.bi _ (by decide +kernel)) (by decide +kernel) (by decide +kernel) (by decide +kernel)
  · repeat' array_get_dec
  · refine EXs.ret_ ?_
    refine EV.callB T gs (by decide +kernel) (by decide +kernel) Kp.builtin (ELs.cons ?_ ELs.nil) hsort (by decide +kernel) (by decide +kernel)
    refine EV.comp (S₁ := S ++ [PO.dict (encD (encI De.1)) De.2]) ?_ ?_ ?_ ?_ hC ?_ ?_
    · have hkeys := ITR.keys (prog := prog) (w := w) (mg := mg) (G := G) (k := k) (env := env) (ρ := V xLe [some (.obj st), some (.obj S.length), a, b, c, d]) (S := S ++ [PO.dict (encD (encI De.1)) De.2]) (iter := (genOf leC).iter) (tgt := (genOf leC).target) (by
        conv in (Comprehension.iter _) => whnf
        repeat' array_get_dec) n1 (by rw [keysEnc]; exact nd)
      rw [List.map_map] at hkeys
      exact hkeys
    · exact ScOk.mk' 27 hs' rfl (by decide +kernel) (by decide +kernel)
    · exact (Sub.no (Sub.take (.tl .hd) (by decide +kernel) Sub.nil)).use nm.nd
    · decide +kernel
    · rw [List.length_map]
      have := rounds_len ws 6 ([(Str.ofString "a", 0)], 1)
      rw [hDe] at this
      simp at this
      omega
    · intro _; rfl
end
set_option tactic.hygienic true
set_option tactic.hygienic false
section
variable {prog : Program} {w : World} {mg : Str → Option Value} {G : Heap} {k : Nat} {env : Env} {ρ : Vars} {S S₁ S₂ S₃ S' : List PO}
theorem intsOf {σ : Lo} {N : Nat} {h : Heap} : ∀ (is : List Int) (vs : List Value), VRs σ N h vs.toArray (is.map .int) → ∃ xs : List (Int × Tok), vs = xs.map (fun p => Value.int p.1 p.2) ∧ xs.map (·.1) = is
  | [], vs, V => by rw [V.unnil]; exact ⟨[], rfl, rfl⟩
  | i :: is, vs, V => by
    obtain ⟨v, vs', rfl, a, b⟩ := V.uncons
    obtain ⟨xs, rfl, e⟩ := intsOf is vs' b
    cases a with
    | int i t => exact ⟨(i, t) :: xs, rfl, by simp [e]⟩
theorem numAt_is (xs : List (Int × Tok)) (i : Nat) : numAt xs.toArray i = (xs.map (·.1)).getD i 0 := by
  unfold numAt
  rw [List.getD_eq_getElem?_getD, List.getElem?_map, List.getElem?_toArray]
theorem OPL.minI {n : Nat} {is : List Int} {m : Int} (hn : S[n]? = some (.list (is.map .int))) (hm : is.min? = some m) : OPL prog w mg G k S [.obj n] (fun vs => PySem.call (.builtin "min") vs) (.int m) S := Lock.mk fun A σ s vs g r _ R V0 Q E H => by
  obtain ⟨v, vs, rfl, V, V'⟩ := V0.uncons
  rw [V'.unnil]
  (first | (obtain ⟨_, rfl⟩ := VR.inv V) | (obtain rfl := VR.inv V))
  obtain ⟨us, c, ho, hu⟩ := R.objs n _ hn
  obtain ⟨us⟩ := us
  obtain ⟨xs, rfl, rfl⟩ := intsOf is us hu
  have hne : 0 < xs.length := by
    cases xs with
    | nil => simp at hm
    | cons => simp
  have hl : s.heap.IsList (σ.p n) (intItems xs.toArray) := ⟨_, ho, rfl, c, by show _ = Data.seq (xs.toArray.map _) c; rw [List.map_toArray]⟩
  show wpAny _ A (PySem.call (.builtin "min") [_]) Q E s
  refine min_intList r.hh hl (by simpa using hne) fun v h' tk hv hk => ?_
  obtain ⟨t, rfl⟩ := intItems_at hv
  obtain ⟨b1, b2⟩ := argBest_lt (numAt xs.toArray) (xs.toArray.size - 1)
  have e : numAt xs.toArray (argBest (fun i j => decide (numAt xs.toArray i < numAt xs.toArray j)) (xs.toArray.size - 1)) = m := by
    symm
    have : (xs.map (·.1)).min? = some (numAt xs.toArray (argBest (fun i j => decide (numAt xs.toArray i < numAt xs.toArray j)) (xs.toArray.size - 1))) := by
      rw [List.min?_eq_some_iff]
      refine ⟨by rw [numAt_is]; exact getD_mem (by simp at b1 ⊢; omega), fun a ha => ?_⟩
      obtain ⟨j, hj, rfl⟩ := mem_getD ha
      rw [← numAt_is xs j]
      exact b2 j (by simp at hj ⊢; omega)
    rw [this] at hm; exact (Option.some.inj hm).symm
  rw [e]
  exact H _ σ h' tk (R.keeps hk) (Ext.ofKeeps hk) (.int _ _)
theorem OPL.maxI {n : Nat} {is : List Int} {m : Int} (hn : S[n]? = some (.list (is.map .int))) (hm : is.max? = some m) : OPL prog w mg G k S [.obj n] (fun vs => PySem.call (.builtin "max") vs) (.int m) S := Lock.mk fun A σ s vs g r _ R V0 Q E H => by
  obtain ⟨v, vs, rfl, V, V'⟩ := V0.uncons
  rw [V'.unnil]
  (first | (obtain ⟨_, rfl⟩ := VR.inv V) | (obtain rfl := VR.inv V))
  obtain ⟨us, c, ho, hu⟩ := R.objs n _ hn
  obtain ⟨us⟩ := us
  obtain ⟨xs, rfl, rfl⟩ := intsOf is us hu
  have hne : 0 < xs.length := by
    cases xs with
    | nil => simp at hm
    | cons => simp
  have hl : s.heap.IsList (σ.p n) (intItems xs.toArray) := ⟨_, ho, rfl, c, by show _ = Data.seq (xs.toArray.map _) c; rw [List.map_toArray]⟩
  show wpAny _ A (PySem.call (.builtin "max") [_]) Q E s
  refine max_intList r.hh hl (by simpa using hne) fun v h' tk hv hk => ?_
  obtain ⟨t, rfl⟩ := intItems_at hv
  obtain ⟨b1, b2⟩ := argBest_gt (numAt xs.toArray) (xs.toArray.size - 1)
  have e : numAt xs.toArray (argBest (fun i j => decide (numAt xs.toArray i > numAt xs.toArray j)) (xs.toArray.size - 1)) = m := by
    symm
    have : (xs.map (·.1)).max? = some (numAt xs.toArray (argBest (fun i j => decide (numAt xs.toArray i > numAt xs.toArray j)) (xs.toArray.size - 1))) := by
      rw [List.max?_eq_some_iff]
      refine ⟨by rw [numAt_is]; exact getD_mem (by simp at b1 ⊢; omega), fun a ha => ?_⟩
      obtain ⟨j, hj, rfl⟩ := mem_getD ha
      rw [← numAt_is xs j]
      exact b2 j (by simp at hj ⊢; omega)
    rw [this] at hm; exact (Option.some.inj hm).symm
  rw [e]
  exact H _ σ h' tk (R.keeps hk) (Ext.ofKeeps hk) (.int _ _)

/-! identity -/
theorem O.isBB {a b : Bool} : OP2 prog w mg G k S (.bool a) (.bool b) (compareOp .Is) (.bool (a == b)) S := Lock.mk fun A σ s v u _ _ _ R V U Q E H => by
  (first | (obtain ⟨_, rfl⟩ := VR.inv V) | (obtain rfl := VR.inv V)); (first | (obtain ⟨_, rfl⟩ := VR.inv U) | (obtain rfl := VR.inv U)); exact is_bool (H _ σ s.heap s.toks R Ext.refl (.bool _))
theorem O.isNotBB {a b : Bool} : OP2 prog w mg G k S (.bool a) (.bool b) (compareOp .IsNot) (.bool (a != b)) S := Lock.mk fun A σ s v u _ _ _ R V U Q E H => by
  (first | (obtain ⟨_, rfl⟩ := VR.inv V) | (obtain rfl := VR.inv V)); (first | (obtain ⟨_, rfl⟩ := VR.inv U) | (obtain rfl := VR.inv U)); exact isnot_bool (H _ σ s.heap s.toks R Ext.refl (.bool _))
theorem O.isSO {x : Str} {n : Nat} : OP2 prog w mg G k S (.str x) (.obj n) (compareOp .Is) (.bool false) S := Lock.mk fun A σ s v u _ _ _ R V U Q E H => by
  (first | (obtain ⟨_, rfl⟩ := VR.inv U) | (obtain rfl := VR.inv U)); (first | (obtain ⟨_, rfl⟩ := VR.inv V) | (obtain rfl := VR.inv V))
  show wpAny _ A (do return .bool (← isSame (.str x _) (.ref (σ.p n)))) Q E s
  exact wpAny_bind (wpAny_pure (wpAny_pure (H _ σ s.heap s.toks R Ext.refl (.bool _))))
theorem O.isOO {n : Nat} : OP2 prog w mg G k S (.obj n) (.obj n) (compareOp .Is) (.bool true) S := Lock.mk fun A σ s v u _ _ _ R V U Q E H => by
  (first | (obtain ⟨_, rfl⟩ := VR.inv U) | (obtain rfl := VR.inv U)); (first | (obtain ⟨_, rfl⟩ := VR.inv V) | (obtain rfl := VR.inv V))
  show wpAny _ A (do return .bool (← isSame (.ref (σ.p n)) (.ref (σ.p n)))) Q E s
  have e : isSame (.ref (σ.p n)) (.ref (σ.p n)) = pure true := by unfold isSame; simp
  rw [e]
  exact wpAny_bind (wpAny_pure (wpAny_pure (H _ σ s.heap s.toks R Ext.refl (.bool _))))
theorem O.isNotSO {x : Str} {n : Nat} : OP2 prog w mg G k S (.str x) (.obj n) (compareOp .IsNot) (.bool true) S := Lock.mk fun A σ s v u _ _ _ R V U Q E H => by
  (first | (obtain ⟨_, rfl⟩ := VR.inv U) | (obtain rfl := VR.inv U)); (first | (obtain ⟨_, rfl⟩ := VR.inv V) | (obtain rfl := VR.inv V))
  show wpAny _ A (do return .bool (!(← isSame (.str x _) (.ref (σ.p n))))) Q E s
  exact wpAny_bind (wpAny_pure (wpAny_pure (H _ σ s.heap s.toks R Ext.refl (.bool _))))
end
set_option tactic.hygienic true
set_option tactic.hygienic false

noncomputable def chAt (x : Str) (i : Nat) : Str := ⟨#[x.cps.getD i 0]⟩
noncomputable def lastCh (x : Str) : Str := chAt x (x.length - 1)
noncomputable def occ (b a : Str) : Bool := !(Builtin.Str.occurrences b a 0 b.length 1).isEmpty
noncomputable def starF (sp : List Int) (k : Int) : Option Int := match sp.min? with | none => none | some m => if m ≤ k then some k else none
noncomputable def setF (name part : Str) (k : Int) : Option Int := if k < name.length ∧ (occ (Txt.slice part (some 1) (some (-1))) (chAt name k.toNat) != (chAt part 1 == "^")) = true then some (k + 1) else none
noncomputable def signF (name part : Str) (k : Int) : Option Int := if k < name.length ∧ (part == "." || lastCh part == chAt name k.toNat) = true then some (k + 1) else none
noncomputable def upTo (n : Nat) : List Int := (List.range n).map fun (i : Nat) => (i : Int)
noncomputable abbrev xTk : List Str := ["parts", "star", "name", "spots", "part"]
theorem nmTk : Nm xTk := ⟨by decide +kernel, by decide +kernel⟩
noncomputable def tkFor : Stmt := (bd 25).getD 1 default
noncomputable def tkIf1 : Stmt := (bodyOf tkFor).getD 0 default
noncomputable def tkIf2 : Stmt := (orelseOf tkIf1).getD 0 default
noncomputable def valOf : Stmt → Expr | .Assign _ e _ => e | _ => .Constant .none 0 ⟨0,0,0,0⟩
noncomputable def tkC1 : Expr := valOf ((bodyOf tkIf1).getD 0 default)
noncomputable def tkC2 : Expr := valOf ((bodyOf tkIf2).getD 0 default)
noncomputable def tkC3 : Expr := valOf ((orelseOf tkIf2).getD 0 default)
noncomputable abbrev xT1 : List Str := ["k", "spots"]
theorem nmT1 : Nm xT1 := ⟨by decide +kernel, by decide +kernel⟩
noncomputable abbrev xT2 : List Str := ["k", "name", "part"]
theorem nmT2 : Nm xT2 := ⟨by decide +kernel, by decide +kernel⟩

section
variable {prog : Program} {w : World} {mg : Str → Option Value} {G : Heap} {k : Nat}
theorem tk_star (T : Top mg G) {env : Env} {n : Nat} {sp : List Int} : ∀ (ks : List Int) (S : List PO), S[n]? = some (.list (sp.map .int)) → CompR (CompStep prog w mg G k env (cscOf tkC1) (V xT1 [none, some (.obj n)]) (genOf tkC1).target (genOf tkC1).ifs (eltOf tkC1)) (fun _ => True) (ks.map .int) S ((ks.filterMap (starF sp)).map .int) (S ++ List.replicate ks.length (.list []))
  | [], S, hn => by rw [List.length_nil, List.replicate_zero, List.append_nil]; exact .nil
  | i :: ks, S, hn => by
    have L := tk_star (env := env) T ks (S ++ [.list []]) (app_get hn)
    rw [List.length_cons, List.replicate_succ, show S ++ (PO.list [] :: List.replicate ks.length (PO.list [])) = S ++ [PO.list []] ++ List.replicate ks.length (PO.list []) from by simp]
    have nm := nmT1
    have nd1 : ((cscOf tkC1).names.map (·.1)).Nodup := by decide +kernel
    have hkl : (Str.ofString "k", NameKind.local) ∈ (cscOf tkC1).names := by decide +kernel
    have hkg : (Str.ofString "min", NameKind.globalImplicit) ∈ (cscOf tkC1).names := by decide +kernel
    have hne := O.neNil (prog := prog) (w := w) (mg := mg) (G := G) (k := k) (S := S ++ [.list []]) (n := n) (m := S.length) (app_get hn) (by simp) (fun p hp => by
      obtain ⟨x, hx, rfl⟩ := List.mem_map.mp hp
      rfl)
    have hw := V.fresh (xs := xT1) (vs := [none, some (.obj n)]) (x := "k") (p := .int i) (vs' := [some (.int i), some (.obj n)]) .hd .hd nm.nd
    have he : ∀ C, EV prog w mg G k (cenvOf (cscOf tkC1) env C) (V xT1 [some (.int i), some (.obj n)]) (S ++ [.list []]) (eltOf tkC1) (.int i) (S ++ [.list []]) := fun C => by
      generalize cenvOf (cscOf tkC1) env C = ce
      conv in (eltOf _) => whnf
      repeat' array_get_dec
    have ht : ∀ C, EIfs prog w mg G k (cenvOf (cscOf tkC1) env C) (V xT1 [some (.int i), some (.obj n)]) S (genOf tkC1).ifs (starF sp i).isSome (S ++ [.list []]) := fun C => by
      have gmin : (cenvOf (cscOf tkC1) env C).kindOf "min" = some .globalImplicit := kindG nd1 hkg
      generalize cenvOf (cscOf tkC1) env C = ce at gmin
      conv in (Comprehension.ifs _) => whnf
      apply EIfs.one
      cases hm : sp.min? with
      | none =>
        have e1 : (starF sp i).isSome = false := by unfold starF; rw [hm]; rfl
        rw [e1]
        have e0 : sp = [] := List.min?_eq_none_iff.mp hm
        subst e0
        refine EB.and (x := false) (S₁ := S ++ [.list []]) ?_ (fun h => nomatch h) (fun _ => ⟨rfl, rfl⟩)
        have hne' : OP2 prog w mg G k (S ++ [.list []]) (.obj n) (.obj S.length) (compareOp .NotEq) (.bool false) (S ++ [.list []]) := hne
        repeat' array_get_dec
      | some m =>
        have e0 : (!(sp.map PV.int).isEmpty) = true := by cases sp with | nil => simp at hm | cons => rfl
        rw [e0] at hne
        have hmin := OPL.minI (prog := prog) (w := w) (mg := mg) (G := G) (k := k) (S := S ++ [.list []]) (app_get hn) hm
        have e1 : (starF sp i).isSome = decide (m ≤ i) := by unfold starF; rw [hm]; by_cases h : m ≤ i <;> simp [h]
        rw [e1]
        refine EB.and (x := true) (S₁ := S ++ [.list []]) ?_ (fun _ => ?_) (fun h => nomatch h)
        · repeat' array_get_dec
        · refine EB.cmp (S₁ := S ++ [.list []]) (S₂ := S ++ [.list []]) ?_ (EV.callB T gmin (by decide +kernel) (by decide +kernel) Kp.builtin (ELs.cons ?_ ELs.nil) hmin (by decide +kernel) (by decide +kernel)) O.geI rfl
          · repeat' array_get_dec
          · repeat' array_get_dec
    have hf : starF sp i = none ∨ starF sp i = some i := by
      unfold starF
      cases sp.min? with
      | none => exact .inl rfl
      | some m => by_cases h : m ≤ i <;> simp [h]
    rw [List.map_cons, List.filterMap_cons]
    rcases hf with hf | hf
    · rw [hf]
      rw [hf] at ht
      exact .skip (.skip _ hw fun C => ⟨ASG.nm nm (.inl (kindC nd1 hkl)) .hd, ht C⟩) trivial L
    · rw [hf]
      rw [hf] at ht
      exact .take (.take _ (S ++ [PO.list []]) hw fun C => ⟨ASG.nm nm (.inl (kindC nd1 hkl)) .hd, ht C, he C⟩) trivial L

theorem chSub {x : Str} {i : Int} {S : List PO} (h0 : 0 ≤ i) (h1 : i < x.length) (hx : x.length ≤ sizeLine) : SUB prog w mg G k S (.str x) (.int i) (.str (chAt x i.toNat)) S := by
  have hb : sizeLine < 2 ^ 63 := by decide
  have hlt : i.toNat < x.cps.size := by have : x.length = x.cps.size := rfl
                                        omega
  have e : (seqIndex? i x.length).bind (x.cps[·]?) = some (x.cps.getD i.toNat 0) := by
    rw [seqIdx h0 h1]
    show x.cps[i.toNat]? = _
    rw [Array.getD_eq_getD_getElem?, Array.getElem?_eq_getElem hlt]; rfl
  exact SUB.str (by omega) (by omega) e
theorem lastSub {x : Str} {S : List PO} (h1 : 0 < x.length) (hx : x.length ≤ sizeLine) : SUB prog w mg G k S (.str x) (.int (-1)) (.str (lastCh x)) S := by
  have hb : sizeLine < 2 ^ 63 := by decide
  have hlt : x.length - 1 < x.cps.size := by have : x.length = x.cps.size := rfl
                                             omega
  have e : (seqIndex? (-1) x.length).bind (x.cps[·]?) = some (x.cps.getD (x.length - 1) 0) := by
    have e0 : seqIndex? (-1) x.length = some (x.length - 1) := by
      unfold seqIndex?
      have : (-1 : Int) + (x.length : Int) = ((x.length - 1 : Nat) : Int) := by omega
      simp [this]
      omega
    rw [e0]
    show x.cps[x.length - 1]? = _
    rw [Array.getD_eq_getD_getElem?, Array.getElem?_eq_getElem hlt]; rfl
  exact SUB.str (by omega) (by omega) e
end
set_option tactic.hygienic true
set_option tactic.hygienic false
section
variable {prog : Program} {w : World} {mg : Str → Option Value} {G : Heap} {k : Nat} {env : Env} {ρ : Vars} {S S₁ : List PO}
theorem EV.neg {e : Expr} {pos : Pos} {i : Int} (h1 : EV prog w mg G k env ρ S e (.int i) S₁) : EV prog w mg G k env ρ S (.UnaryOp .USub e pos) (.int (-i)) S₁ := Lock.mk fun A σ s T Q E H => by
  show wpAny _ A (do let v ← eval e env; standAt pos; holding [v] (unaryOp .USub v)) Q E s
  refine wpAny_bind (h1.run A σ s T _ _ fun v σ₁ h₁ tk₁ R₁ X₁ V₁ => wpAny_bind (wpAny_standAt (wpAny_holding ?_)))
  (first | (obtain ⟨_, rfl⟩ := VR.inv V₁) | (obtain rfl := VR.inv V₁))
  exact neg_int (H _ σ₁ h₁ _ R₁ X₁ (.int _ _))
end

section
variable {prog : Program} {w : World} {mg : Str → Option Value} {G : Heap} {k : Nat}
theorem tk_set (T : Top mg G) {env : Env} {n : Nat} {name part : Str} {all : List PV} {S : List PO} (hn : S[n]? = some (.list all)) (hz : name.length ≤ sizeLine) (hp : part.length ≤ sizeLine) (hp2 : 2 ≤ part.length) : ∀ (ks : List Int), (∀ i ∈ ks, 0 ≤ i) →
    CompR (CompStep prog w mg G k env (cscOf tkC2) (V xT2 [none, some (.str name), some (.str part)]) (genOf tkC2).target (genOf tkC2).ifs (eltOf tkC2)) (fun S => S[n]? = some (.list all)) (ks.map .int) S ((ks.filterMap (setF name part)).map .int) S
  | [], _ => .nil
  | i :: ks, h0 => by
    have L := tk_set T (env := env) hn hz hp hp2 ks fun j hj => h0 j (.tail _ hj)
    have i0 := h0 i (.head _)
    have nm := nmT2
    have nd1 : ((cscOf tkC2).names.map (·.1)).Nodup := by decide +kernel
    have hkl : (Str.ofString "k", NameKind.local) ∈ (cscOf tkC2).names := by decide +kernel
    have hkg : (Str.ofString "len", NameKind.globalImplicit) ∈ (cscOf tkC2).names := by decide +kernel
    have hlen := OPL.lenS (prog := prog) (w := w) (mg := mg) (G := G) (k := k) (S := S) hz
    have hw := V.fresh (xs := xT2) (vs := [none, some (.str name), some (.str part)]) (x := "k") (p := .int i) (vs' := [some (.int i), some (.str name), some (.str part)]) .hd .hd nm.nd
    have p1 : SUB prog w mg G k S (.str part) (.int 1) (.str (chAt part 1)) S := chSub (i := 1) (by decide) (by omega) hp
    have he : ∀ C, EV prog w mg G k (cenvOf (cscOf tkC2) env C) (V xT2 [some (.int i), some (.str name), some (.str part)]) S (eltOf tkC2) (.int (i + 1)) S := fun C => by
      generalize cenvOf (cscOf tkC2) env C = ce
      conv in (eltOf _) => whnf
      repeat' array_get_dec
    have ht : ∀ C, EIfs prog w mg G k (cenvOf (cscOf tkC2) env C) (V xT2 [some (.int i), some (.str name), some (.str part)]) S (genOf tkC2).ifs (setF name part i).isSome S := fun C => by
      have glen : (cenvOf (cscOf tkC2) env C).kindOf "len" = some .globalImplicit := kindG nd1 hkg
      generalize cenvOf (cscOf tkC2) env C = ce at glen
      conv in (Comprehension.ifs _) => whnf
      apply EIfs.one
      by_cases hlt : i < name.length
      · have n1 : SUB prog w mg G k S (.str name) (.int i) (.str (chAt name i.toNat)) S := chSub i0 hlt hz
        have e1 : (setF name part i).isSome = (occ (Txt.slice part (some 1) (some (-1))) (chAt name i.toNat) != (chAt part 1 == "^")) := by
          unfold setF
          cases hq : (occ (Txt.slice part (some 1) (some (-1))) (chAt name i.toNat) != (chAt part 1 == "^")) <;> simp [hlt]
        rw [e1]
        refine EB.and (x := decide (i < (name.length : Int))) (S₁ := S) ?_ (fun _ => ?_) (fun h => absurd (of_decide_eq_false h) (by simpa using hlt))
        · repeat' array_get_dec
        · unfold occ
          repeat' array_get_dec
      · have e1 : (setF name part i).isSome = false := by unfold setF; simp [hlt]
        rw [e1]
        refine EB.and (x := decide (i < (name.length : Int))) (S₁ := S) ?_ (fun h => absurd (of_decide_eq_true h) hlt) (fun _ => ⟨rfl, rfl⟩)
        repeat' array_get_dec
    have hf : setF name part i = none ∨ setF name part i = some (i + 1) := by
      unfold setF
      split
      · exact .inr rfl
      · exact .inl rfl
    rw [List.map_cons, List.filterMap_cons]
    rcases hf with hf | hf
    · rw [hf]
      rw [hf] at ht
      exact .skip (.skip _ hw fun C => ⟨ASG.nm nm (.inl (kindC nd1 hkl)) .hd, ht C⟩) hn L
    · rw [hf]
      rw [hf] at ht
      exact .take (.take _ S hw fun C => ⟨ASG.nm nm (.inl (kindC nd1 hkl)) .hd, ht C, he C⟩) hn L
end
set_option tactic.hygienic true
set_option tactic.hygienic false

noncomputable def tkStep (name : Str) (p : Option Str) (sp : List Int) : List Int := match p with
  | none => (upTo (name.length + 1)).filterMap (starF sp)
  | some q => if (Txt.slice q none (some 1) == "[") = true then sp.filterMap (setF name q) else sp.filterMap (signF name q)
noncomputable def tkAll (name : Str) : List (Option Str) → List Int → List Int
  | [], sp => sp
  | p :: ps, sp => tkAll name ps (tkStep name p sp)
noncomputable def takes (name : Str) (ps : List (Option Str)) : Bool := (tkAll name ps [0]).any (· == (name.length : Int))
noncomputable abbrev encP (star : Nat) : Option Str → PV | none => .obj star | some q => .str q
noncomputable def okPart (name : Str) : Option Str → Bool | none => true | some q => decide (1 ≤ q.length) && decide (q.length ≤ 100) && (!(Txt.slice q none (some 1) == "[") || decide (2 ≤ q.length))
structure TkEnv (env : Env) : Prop where
  hk : ∀ x ∈ xTk, env.kindOf x = some .local ∨ env.kindOf x = some .cell
  gr : env.kindOf "range" = some .globalImplicit
  gl : env.kindOf "len" = some .globalImplicit
  hc : env.kindOf "spots" = some .cell
  hs : env.scope = sc 25

section
variable {prog : Program} {w : World} {mg : Str → Option Value} {G : Heap} {k : Nat}
theorem tk_sign (T : Top mg G) {env : Env} {n : Nat} {name part : Str} {all : List PV} {S : List PO} (hn : S[n]? = some (.list all)) (hz : name.length ≤ sizeLine) (hp : part.length ≤ sizeLine) (hp2 : 1 ≤ part.length) : ∀ (ks : List Int), (∀ i ∈ ks, 0 ≤ i) →
    CompR (CompStep prog w mg G k env (cscOf tkC3) (V xT2 [none, some (.str name), some (.str part)]) (genOf tkC3).target (genOf tkC3).ifs (eltOf tkC3)) (fun S => S[n]? = some (.list all)) (ks.map .int) S ((ks.filterMap (signF name part)).map .int) S
  | [], _ => .nil
  | i :: ks, h0 => by
    have L := tk_sign T (env := env) hn hz hp hp2 ks fun j hj => h0 j (.tail _ hj)
    have i0 := h0 i (.head _)
    have nm := nmT2
    have nd1 : ((cscOf tkC3).names.map (·.1)).Nodup := by decide +kernel
    have hkl : (Str.ofString "k", NameKind.local) ∈ (cscOf tkC3).names := by decide +kernel
    have hkg : (Str.ofString "len", NameKind.globalImplicit) ∈ (cscOf tkC3).names := by decide +kernel
    have hlen := OPL.lenS (prog := prog) (w := w) (mg := mg) (G := G) (k := k) (S := S) hz
    have hw := V.fresh (xs := xT2) (vs := [none, some (.str name), some (.str part)]) (x := "k") (p := .int i) (vs' := [some (.int i), some (.str name), some (.str part)]) .hd .hd nm.nd
    have p1 : SUB prog w mg G k S (.str part) (.int (-1)) (.str (lastCh part)) S := lastSub (by omega) hp
    have he : ∀ C, EV prog w mg G k (cenvOf (cscOf tkC3) env C) (V xT2 [some (.int i), some (.str name), some (.str part)]) S (eltOf tkC3) (.int (i + 1)) S := fun C => by
      generalize cenvOf (cscOf tkC3) env C = ce
      conv in (eltOf _) => whnf
      repeat' array_get_dec
    have ht : ∀ C, EIfs prog w mg G k (cenvOf (cscOf tkC3) env C) (V xT2 [some (.int i), some (.str name), some (.str part)]) S (genOf tkC3).ifs (signF name part i).isSome S := fun C => by
      have glen : (cenvOf (cscOf tkC3) env C).kindOf "len" = some .globalImplicit := kindG nd1 hkg
      generalize cenvOf (cscOf tkC3) env C = ce at glen
      conv in (Comprehension.ifs _) => whnf
      apply EIfs.one
      by_cases hlt : i < name.length
      · have n1 : SUB prog w mg G k S (.str name) (.int i) (.str (chAt name i.toNat)) S := chSub i0 hlt hz
        have e1 : (signF name part i).isSome = (part == "." || lastCh part == chAt name i.toNat) := by
          unfold signF
          cases hq : (part == "." || lastCh part == chAt name i.toNat) <;> simp [hlt]
        rw [e1]
        refine EB.and (x := decide (i < (name.length : Int))) (S₁ := S) ?_ (fun _ => ?_) (fun h => absurd (of_decide_eq_false h) (by simpa using hlt))
        · repeat' array_get_dec
        · cases hd : part == Str.ofString "." with
          | true =>
            refine EB.or (x := part == Str.ofString ".") (S₁ := S) ?_ (fun h => by rw [hd] at h; cases h) (fun _ => ⟨rfl, rfl⟩)
            repeat' array_get_dec
          | false =>
            refine EB.or (x := part == Str.ofString ".") (S₁ := S) ?_ (fun _ => ?_) (fun h => by rw [hd] at h; cases h)
            · repeat' array_get_dec
            · show EB prog w mg G k ce _ S _ (lastCh part == chAt name i.toNat) S
              repeat' array_get_dec
      · have e1 : (signF name part i).isSome = false := by unfold signF; simp [hlt]
        rw [e1]
        refine EB.and (x := decide (i < (name.length : Int))) (S₁ := S) ?_ (fun h => absurd (of_decide_eq_true h) hlt) (fun _ => ⟨rfl, rfl⟩)
        repeat' array_get_dec
    have hf : signF name part i = none ∨ signF name part i = some (i + 1) := by
      unfold signF
      split
      · exact .inr rfl
      · exact .inl rfl
    rw [List.map_cons, List.filterMap_cons]
    rcases hf with hf | hf
    · rw [hf]
      rw [hf] at ht
      exact .skip (.skip _ hw fun C => ⟨ASG.nm nm (.inl (kindC nd1 hkl)) .hd, ht C⟩) hn L
    · rw [hf]
      rw [hf] at ht
      exact .take (.take _ S hw fun C => ⟨ASG.nm nm (.inl (kindC nd1 hkl)) .hd, ht C, he C⟩) hn L
end
set_option tactic.hygienic true
set_option tactic.hygienic false

section
variable {prog : Program} {w : World} {mg : Str → Option Value} {G : Heap} {k : Nat}
theorem swapsCell {elt : Expr} {gens : List Comprehension} {scope : Scope} {pos p : Pos} {t : Str} {line : Nat} {env : Env} (hc : env.kindOf t = some .cell) : swapsWith (.ListComp elt gens scope pos) (some (.Name t p)) line env = pure false := by
  show (pure (env.blockKind == .function && env.kindOf t == some .local && p.line == pos.line && !(scope.names.any fun (n, k) => n == t && (k == .local || k == .cell))) : Sem Bool) = pure false
  rw [hc]
  have : (some NameKind.cell == some NameKind.local) = false := rfl
  rw [this]
  simp
theorem upTo_map (n : Nat) : (upTo n).map PV.int = rangeL 0 ((n : Int)).toNat := by
  unfold upTo rangeL
  rw [List.map_map, Int.toNat_natCast]
  apply List.map_congr_left
  intro i _
  simp

noncomputable def tkGrow (name : Str) : Option Str → Nat | none => name.length + 1 | some _ => 0
theorem tk_case (T : Top mg G) {env : Env} (he : TkEnv env) {pt st m : Nat} {name : Str} {sp : List Int} {S : List PO} (hm : S[m]? = some (.list (sp.map .int))) (h0 : ∀ i ∈ sp, 0 ≤ i) (hz : name.length ≤ 1000) (hsp : sp.length ≤ sizeLine) (p : Option Str) (hp : okPart name p = true) {op : Option PV} :
    ForStep prog w mg G k env (tgtOf tkFor) (bodyOf tkFor) (encP st p) (V xTk [some (.obj pt), some (.obj st), some (.str name), some (.obj m), op]) S
      (.next (V xTk [some (.obj pt), some (.obj st), some (.str name), some (.obj (S.length + tkGrow name p)), some (encP st p)]) (S ++ List.replicate (tkGrow name p) (PO.list []) ++ [PO.list ((tkStep name p sp).map .int)])) := by
  have nm := nmTk
  obtain ⟨hk, gr, gl, hc, hs⟩ := he
  have hbig : 2000 ≤ sizeLine := Nat.le_of_ble_eq_true rfl
  have hz' : name.length ≤ sizeLine := by omega
  have hlen := OPL.lenS (prog := prog) (w := w) (mg := mg) (G := G) (k := k) (S := S) hz'
  refine ⟨V xTk [some (.obj pt), some (.obj st), some (.str name), some (.obj m), some (encP st p)], ?_, ?_⟩
  · conv in (tgtOf _) => whnf
    exact ASG.nm nm (hk _ (by decide +kernel)) (.tl (.tl (.tl (.tl .hd))))
  · cases p with
    | none =>
      show EXs prog w mg G k env _ S _ (.next (V xTk [some (.obj pt), some (.obj st), some (.str name), some (.obj (S.length + (name.length + 1))), some (.obj st)]) (S ++ List.replicate (name.length + 1) (PO.list []) ++ [PO.list (((upTo (name.length + 1)).filterMap (starF sp)).map .int)]))
      have hC := tk_star (prog := prog) (w := w) (mg := mg) (G := G) (k := k) T (env := env) (n := m) (sp := sp) (upTo (name.length + 1)) S hm
      rw [upTo_map, show (upTo (name.length + 1)).length = name.length + 1 from by unfold upTo; simp] at hC
      sizeOf_list_dec
      refine EXs.cons (EX.ifT (b := true) (S₁ := S) ?_ rfl ?_) EXs.nil
      · repeat' array_get_dec
      · refine EXs.cons (EX.asg nm hk (p := .obj (S ++ List.replicate (name.length + 1) (PO.list [])).length) ?_ (.tl (.tl (.tl .hd))) (swapsCell hc)) (by
          rw [show (S ++ List.replicate (name.length + 1) (PO.list [])).length = S.length + (name.length + 1) from by simp]
          exact EXs.nil)
        refine EV.comp (S₁ := S) ?_ ?_ ?_ ?_ hC ?_ ?_
        · refine ITR.range1 (b := (((name.length + 1 : Nat)) : Int)) ?_ ?_ (by omega) (by omega)
          · exact EV.builtin gr (T.bi _ (by decide +kernel)) (by decide +kernel) (by decide +kernel) (by decide +kernel)
          · rw [show (((name.length + 1 : Nat)) : Int) = (name.length : Int) + 1 from by omega]
            repeat' array_get_dec
        · exact ScOk.mk' 25 hs rfl (by decide +kernel) (by decide +kernel)
        · exact (Sub.no (Sub.take (.tl (.tl (.tl .hd))) (by decide +kernel) Sub.nil)).use nm.nd
        · decide +kernel
        · rw [rangeL_len]; omega
        · intro _; rfl
    | some q =>
      unfold okPart at hp
      rw [Bool.and_eq_true, Bool.and_eq_true, decide_eq_true_eq, decide_eq_true_eq] at hp
      obtain ⟨⟨hp1, hp2⟩, hp3⟩ := hp
      have hq : q.length ≤ sizeLine := by omega
      have et : tkStep name (some q) sp = if (Txt.slice q none (some 1) == "[") = true then sp.filterMap (setF name q) else sp.filterMap (signF name q) := rfl
      rw [et]
      show EXs prog w mg G k env _ S _ (.next (V xTk [some (.obj pt), some (.obj st), some (.str name), some (.obj (S.length + 0)), some (.str q)]) (S ++ [] ++ [PO.list _]))
      rw [List.append_nil, Nat.add_zero]
      sizeOf_list_dec
      refine EXs.cons (EX.ifF (b := false) (S₁ := S) ?_ rfl ?_) EXs.nil
      · repeat' array_get_dec
      · cases hb : (Txt.slice q none (some 1) == Str.ofString "[") with
        | true =>
          rw [hb] at hp3
          have hC := tk_set (prog := prog) (w := w) (mg := mg) (G := G) (k := k) T (env := env) (part := q) hm hz' hq (by simpa using hp3) sp h0
          rw [if_pos rfl]
          refine EXs.cons (EX.ifT (b := Txt.slice q none (some 1) == Str.ofString "[") (S₁ := S) ?_ hb ?_) EXs.nil
          · repeat' array_get_dec
          · refine EXs.cons (EX.asg nm hk (p := .obj S.length) ?_ (.tl (.tl (.tl .hd))) (swapsCell hc)) EXs.nil
            refine EV.comp (S₁ := S) ?_ ?_ ?_ ?_ hC ?_ ?_
            · refine ITR.list (n := m) ?_ hm
              repeat' array_get_dec
            · exact ScOk.mk' 25 hs rfl (by decide +kernel) (by decide +kernel)
            · exact (Sub.no (Sub.take (.tl (.tl .hd)) (by decide +kernel) (Sub.take (.tl (.tl (.tl (.tl .hd)))) (by decide +kernel) Sub.nil))).use nm.nd
            · decide +kernel
            · rw [List.length_map]; exact hsp
            · intro _; rfl
        | false =>
          have hC := tk_sign (prog := prog) (w := w) (mg := mg) (G := G) (k := k) T (env := env) (part := q) hm hz' hq hp1 sp h0
          rw [if_neg (by simp)]
          refine EXs.cons (EX.ifF (b := Txt.slice q none (some 1) == Str.ofString "[") (S₁ := S) ?_ hb ?_) EXs.nil
          · repeat' array_get_dec
          · refine EXs.cons (EX.asg nm hk (p := .obj S.length) ?_ (.tl (.tl (.tl .hd))) (swapsCell hc)) EXs.nil
            refine EV.comp (S₁ := S) ?_ ?_ ?_ ?_ hC ?_ ?_
            · refine ITR.list (n := m) ?_ hm
              repeat' array_get_dec
            · exact ScOk.mk' 25 hs rfl (by decide +kernel) (by decide +kernel)
            · exact (Sub.no (Sub.take (.tl (.tl .hd)) (by decide +kernel) (Sub.take (.tl (.tl (.tl (.tl .hd)))) (by decide +kernel) Sub.nil))).use nm.nd
            · decide +kernel
            · rw [List.length_map]; exact hsp
            · intro _; rfl
end
set_option tactic.hygienic true
set_option tactic.hygienic false

theorem tkStep_nn (name : Str) (p : Option Str) (sp : List Int) (h0 : ∀ i ∈ sp, 0 ≤ i) : ∀ i ∈ tkStep name p sp, 0 ≤ i := by
  intro i hi
  cases p with
  | none =>
    obtain ⟨j, hj, e⟩ := List.mem_filterMap.mp hi
    obtain ⟨a, _, rfl⟩ := List.mem_map.mp hj
    unfold starF at e
    cases hm : sp.min? with
    | none => rw [hm] at e; cases e
    | some m =>
      rw [hm] at e
      dsimp only at e
      split at e
      · cases e; exact Int.natCast_nonneg _
      · cases e
  | some q =>
    have key : ∀ f : Int → Option Int, (∀ j b, f j = some b → b = j + 1) → i ∈ sp.filterMap f → 0 ≤ i := fun f hf hi => by
      obtain ⟨j, hj, e⟩ := List.mem_filterMap.mp hi
      rw [hf j i e]
      have := h0 j hj
      omega
    have hi' : i ∈ (if (Txt.slice q none (some 1) == "[") = true then sp.filterMap (setF name q) else sp.filterMap (signF name q)) := hi
    split at hi'
    · refine key _ (fun j b e => ?_) hi'
      unfold setF at e
      split at e
      · exact (Option.some.inj e).symm
      · cases e
    · refine key _ (fun j b e => ?_) hi'
      unfold signF at e
      split at e
      · exact (Option.some.inj e).symm
      · cases e
theorem tkStep_len (name : Str) (p : Option Str) (sp : List Int) : (tkStep name p sp).length ≤ max (name.length + 1) sp.length := by
  cases p with
  | none =>
    refine Nat.le_trans (List.length_filterMap_le _ _) ?_
    unfold upTo
    simp
    omega
  | some q =>
    show (if (Txt.slice q none (some 1) == "[") = true then sp.filterMap (setF name q) else sp.filterMap (signF name q)).length ≤ _
    split
    · exact Nat.le_trans (List.length_filterMap_le _ _) (Nat.le_max_right _ _)
    · exact Nat.le_trans (List.length_filterMap_le _ _) (Nat.le_max_right _ _)

section
variable {prog : Program} {w : World} {mg : Str → Option Value} {G : Heap} {k : Nat}
theorem tk_for (T : Top mg G) {pt st : Nat} {name : Str} {all : List PV} (hz : name.length ≤ 1000) : ∀ (ps : List (Option Str)) (S : List PO) (m : Nat) (sp : List Int), (∀ p ∈ ps, okPart name p = true) → S[m]? = some (.list (sp.map .int)) → S[pt]? = some (.list all) → (∀ i ∈ sp, 0 ≤ i) → sp.length ≤ 1001 →
    ∃ g m', (S ++ g)[m']? = some (.list ((tkAll name ps sp).map .int)) ∧ ∀ env, TkEnv env → ∀ op : Option PV, ∃ op', LoopR (ForStep prog w mg G k env (tgtOf tkFor) (bodyOf tkFor)) (fun S => S[pt]? = some (.list all)) (ps.map (encP st)) (V xTk [some (.obj pt), some (.obj st), some (.str name), some (.obj m), op]) S
      (.next (V xTk [some (.obj pt), some (.obj st), some (.str name), some (.obj m'), op']) (S ++ g))
  | [], S, m, sp, hp, hm, hpt, h0, hl => ⟨[], m, by rw [List.append_nil]; exact hm, fun env he op => ⟨op, by rw [List.append_nil]; exact .nil⟩⟩
  | p :: ps, S, m, sp, hp, hm, hpt, h0, hl => by
    have hbig : 2000 ≤ sizeLine := Nat.le_of_ble_eq_true rfl
    have hm' : (S ++ List.replicate (tkGrow name p) (PO.list []) ++ [PO.list ((tkStep name p sp).map .int)])[S.length + tkGrow name p]? = some (.list ((tkStep name p sp).map .int)) := by
      rw [List.getElem?_append_right (by simp)]; simp
    obtain ⟨g, m', h1, h2⟩ := tk_for T (st := st) hz ps (S ++ List.replicate (tkGrow name p) (PO.list []) ++ [PO.list ((tkStep name p sp).map .int)]) (S.length + tkGrow name p) (tkStep name p sp) (fun q hq => hp q (.tail _ hq)) hm' (app_get (app_get hpt)) (tkStep_nn name p sp h0) (by have := tkStep_len name p sp; omega)
    refine ⟨List.replicate (tkGrow name p) (PO.list []) ++ [PO.list ((tkStep name p sp).map .int)] ++ g, m', by rw [← List.append_assoc, ← List.append_assoc]; exact h1, fun env he op => ?_⟩
    obtain ⟨op', L⟩ := h2 env he (some (encP st p))
    rw [← List.append_assoc, ← List.append_assoc]
    exact ⟨op', .next (tk_case T he hm h0 hz (by omega) p (hp p (.head _))) (app_get (app_get hpt)) L⟩

theorem takes_ok (T : Top mg G) : ∃ f, mg "_law_takes" = some (.ref f) ∧ Kp G (.ref f) ∧ ∀ (k : Nat) (S : List PO) (pt st : Nat) (name : Str) (ps : List (Option Str)), S[pt]? = some (.list (ps.map (encP st))) → name.length ≤ 1000 → (∀ p ∈ ps, okPart name p = true) →
    ∃ g, OPL prog w mg G (k + 1) S [.obj pt, .obj st, .str name] (fun vs => PySem.call (.ref f) vs) (.bool (takes name ps)) (S ++ g) := by
  obtain ⟨f, fd, hm, D, hs⟩ := T.fn 25 (by decide)
  refine ⟨f, hm, D.kp, fun k S pt st name ps hpt hz hp => ?_⟩
  have hbig : 2000 ≤ sizeLine := Nat.le_of_ble_eq_true rfl
  obtain ⟨g, m', h1, h2⟩ := tk_for (prog := prog) (w := w) (mg := mg) (G := G) (k := k) T (st := st) hz ps (S ++ [PO.list [.int 0]]) S.length [0] hp (by simp) (app_get hpt) (by simp) (by simp)
  refine ⟨[PO.list [.int 0]] ++ g, ?_⟩
  rw [← List.append_assoc]
  refine FN.go (as := ["parts", "star", "name"]) (ys := ["spots", "part"]) D rfl fun L => ?_
  have he : TkEnv (fenv fd f L) := ⟨kinds 25 xTk (by decide +kernel) hs, by unfold Env.kindOf; show fd.scope.names.lookup _ = _; rw [hs]; decide +kernel, by unfold Env.kindOf; show fd.scope.names.lookup _ = _; rw [hs]; decide +kernel, by unfold Env.kindOf; show fd.scope.names.lookup _ = _; rw [hs]; decide +kernel, hs⟩
  generalize fenv fd f L = env at he
  obtain ⟨op', W⟩ := h2 env he none
  have hlen := OPL.lenS (prog := prog) (w := w) (mg := mg) (G := G) (k := k) (S := S ++ [PO.list [.int 0]] ++ g) (x := name) (by omega)
  have hin := O.inInts (prog := prog) (w := w) (mg := mg) (G := G) (k := k) (x := (name.length : Int)) h1
  obtain ⟨hk, gr, gl, hc, hs'⟩ := he
  have nm := nmTk
  show EXs prog w mg G k env (V xTk [some (.obj pt), some (.obj st), some (.str name), none, none]) S (bd 25) _
  conv in (bd 25) => whnf
  refine EXs.asg nm hk (p := .obj S.length) (S₁ := S ++ [PO.list [.int 0]]) ?_ (.tl (.tl (.tl .hd))) rfl ?_
  · repeat' array_get_dec
  · refine EXs.cons (EX.for_ (S₁ := S ++ [PO.list [.int 0]]) (ITR.list (n := pt) ?_ (app_get hpt)) W (fun _ => rfl) (.inl ⟨_, _, rfl⟩)) ?_
    · repeat' array_get_dec
    · unfold takes
      repeat' array_get_dec
end
set_option tactic.hygienic true
set_option tactic.hygienic false

noncomputable def starB (sp : List Int) (k : Int) : Option Int := match sp.max? with | none => none | some m => if k ≤ m then some k else none
noncomputable def backF (name signs : Str) (k : Int) : Option Int := if 0 < k ∧ occ signs (chAt name (k - 1).toNat) = true then some (k - 1) else none
noncomputable abbrev xFt : List Str := ["row", "name", "spots", "piece", "signs"]
theorem nmFt : Nm xFt := ⟨by decide +kernel, by decide +kernel⟩
noncomputable def ftFor : Stmt := (bd 26).getD 1 default
noncomputable def ftIf : Stmt := (bodyOf ftFor).getD 0 default
noncomputable def ftC1 : Expr := valOf ((bodyOf ftIf).getD 0 default)
noncomputable def ftC2 : Expr := valOf ((orelseOf ftIf).getD 1 default)
noncomputable abbrev xF2 : List Str := ["k", "name", "signs"]
theorem nmF2 : Nm xF2 := ⟨by decide +kernel, by decide +kernel⟩
section
variable {prog : Program} {w : World} {mg : Str → Option Value} {G : Heap} {k : Nat}
theorem ft_star (T : Top mg G) {env : Env} {n : Nat} {sp : List Int} : ∀ (ks : List Int) (S : List PO), S[n]? = some (.list (sp.map .int)) → CompR (CompStep prog w mg G k env (cscOf ftC1) (V xT1 [none, some (.obj n)]) (genOf ftC1).target (genOf ftC1).ifs (eltOf ftC1)) (fun _ => True) (ks.map .int) S ((ks.filterMap (starB sp)).map .int) (S ++ List.replicate ks.length (.list []))
  | [], S, hn => by rw [List.length_nil, List.replicate_zero, List.append_nil]; exact .nil
  | i :: ks, S, hn => by
    have L := ft_star (env := env) T ks (S ++ [.list []]) (app_get hn)
    rw [List.length_cons, List.replicate_succ, show S ++ (PO.list [] :: List.replicate ks.length (PO.list [])) = S ++ [PO.list []] ++ List.replicate ks.length (PO.list []) from by simp]
    have nm := nmT1
    have nd1 : ((cscOf ftC1).names.map (·.1)).Nodup := by decide +kernel
    have hkl : (Str.ofString "k", NameKind.local) ∈ (cscOf ftC1).names := by decide +kernel
    have hkg : (Str.ofString "max", NameKind.globalImplicit) ∈ (cscOf ftC1).names := by decide +kernel
    have hne := O.neNil (prog := prog) (w := w) (mg := mg) (G := G) (k := k) (S := S ++ [.list []]) (n := n) (m := S.length) (app_get hn) (by simp) (fun p hp => by
      obtain ⟨x, hx, rfl⟩ := List.mem_map.mp hp
      rfl)
    have hw := V.fresh (xs := xT1) (vs := [none, some (.obj n)]) (x := "k") (p := .int i) (vs' := [some (.int i), some (.obj n)]) .hd .hd nm.nd
    have he : ∀ C, EV prog w mg G k (cenvOf (cscOf ftC1) env C) (V xT1 [some (.int i), some (.obj n)]) (S ++ [.list []]) (eltOf ftC1) (.int i) (S ++ [.list []]) := fun C => by
      generalize cenvOf (cscOf ftC1) env C = ce
      conv in (eltOf _) => whnf
      repeat' array_get_dec
    have ht : ∀ C, EIfs prog w mg G k (cenvOf (cscOf ftC1) env C) (V xT1 [some (.int i), some (.obj n)]) S (genOf ftC1).ifs (starB sp i).isSome (S ++ [.list []]) := fun C => by
      have gmin : (cenvOf (cscOf ftC1) env C).kindOf "max" = some .globalImplicit := kindG nd1 hkg
      generalize cenvOf (cscOf ftC1) env C = ce at gmin
      conv in (Comprehension.ifs _) => whnf
      apply EIfs.one
      cases hm : sp.max? with
      | none =>
        have e1 : (starB sp i).isSome = false := by unfold starB; rw [hm]; rfl
        rw [e1]
        have e0 : sp = [] := List.max?_eq_none_iff.mp hm
        subst e0
        refine EB.and (x := false) (S₁ := S ++ [.list []]) ?_ (fun h => nomatch h) (fun _ => ⟨rfl, rfl⟩)
        have hne' : OP2 prog w mg G k (S ++ [.list []]) (.obj n) (.obj S.length) (compareOp .NotEq) (.bool false) (S ++ [.list []]) := hne
        repeat' array_get_dec
      | some m =>
        have e0 : (!(sp.map PV.int).isEmpty) = true := by cases sp with | nil => simp at hm | cons => rfl
        rw [e0] at hne
        have hmin := OPL.maxI (prog := prog) (w := w) (mg := mg) (G := G) (k := k) (S := S ++ [.list []]) (app_get hn) hm
        have e1 : (starB sp i).isSome = decide (i ≤ m) := by unfold starB; rw [hm]; by_cases h : i ≤ m <;> simp [h]
        rw [e1]
        refine EB.and (x := true) (S₁ := S ++ [.list []]) ?_ (fun _ => ?_) (fun h => nomatch h)
        · repeat' array_get_dec
        · refine EB.cmp (S₁ := S ++ [.list []]) (S₂ := S ++ [.list []]) ?_ (EV.callB T gmin (by decide +kernel) (by decide +kernel) Kp.builtin (ELs.cons ?_ ELs.nil) hmin (by decide +kernel) (by decide +kernel)) O.leI rfl
          · repeat' array_get_dec
          · repeat' array_get_dec
    have hf : starB sp i = none ∨ starB sp i = some i := by
      unfold starB
      cases sp.max? with
      | none => exact .inl rfl
      | some m => by_cases h : i ≤ m <;> simp [h]
    rw [List.map_cons, List.filterMap_cons]
    rcases hf with hf | hf
    · rw [hf]
      rw [hf] at ht
      exact .skip (.skip _ hw fun C => ⟨ASG.nm nm (.inl (kindC nd1 hkl)) .hd, ht C⟩) trivial L
    · rw [hf]
      rw [hf] at ht
      exact .take (.take _ (S ++ [PO.list []]) hw fun C => ⟨ASG.nm nm (.inl (kindC nd1 hkl)) .hd, ht C, he C⟩) trivial L

theorem ft_set {env : Env} {n : Nat} {name signs : Str} {all : List PV} {S : List PO} (hn : S[n]? = some (.list all)) (hz : name.length ≤ sizeLine) : ∀ (ks : List Int), (∀ i ∈ ks, i ≤ name.length) →
    CompR (CompStep prog w mg G k env (cscOf ftC2) (V xF2 [none, some (.str name), some (.str signs)]) (genOf ftC2).target (genOf ftC2).ifs (eltOf ftC2)) (fun S => S[n]? = some (.list all)) (ks.map .int) S ((ks.filterMap (backF name signs)).map .int) S
  | [], _ => .nil
  | i :: ks, h0 => by
    have L := ft_set (env := env) (signs := signs) hn hz ks fun j hj => h0 j (.tail _ hj)
    have i0 := h0 i (.head _)
    have nm := nmF2
    have nd1 : ((cscOf ftC2).names.map (·.1)).Nodup := by decide +kernel
    have hkl : (Str.ofString "k", NameKind.local) ∈ (cscOf ftC2).names := by decide +kernel
    have hw := V.fresh (xs := xF2) (vs := [none, some (.str name), some (.str signs)]) (x := "k") (p := .int i) (vs' := [some (.int i), some (.str name), some (.str signs)]) .hd .hd nm.nd
    have he : ∀ C, EV prog w mg G k (cenvOf (cscOf ftC2) env C) (V xF2 [some (.int i), some (.str name), some (.str signs)]) S (eltOf ftC2) (.int (i - 1)) S := fun C => by
      generalize cenvOf (cscOf ftC2) env C = ce
      conv in (eltOf _) => whnf
      repeat' array_get_dec
    have ht : ∀ C, EIfs prog w mg G k (cenvOf (cscOf ftC2) env C) (V xF2 [some (.int i), some (.str name), some (.str signs)]) S (genOf ftC2).ifs (backF name signs i).isSome S := fun C => by
      generalize cenvOf (cscOf ftC2) env C = ce
      conv in (Comprehension.ifs _) => whnf
      apply EIfs.one
      by_cases hlt : 0 < i
      · have n1 : SUB prog w mg G k S (.str name) (.int (i - 1)) (.str (chAt name (i - 1).toNat)) S := chSub (by omega) (by omega) hz
        have e1 : (backF name signs i).isSome = occ signs (chAt name (i - 1).toNat) := by
          unfold backF
          cases hq : occ signs (chAt name (i - 1).toNat) <;> simp [hlt]
        rw [e1]
        refine EB.and (x := decide (0 < i)) (S₁ := S) ?_ (fun _ => ?_) (fun h => absurd (of_decide_eq_false h) (by simpa using hlt))
        · repeat' array_get_dec
        · unfold occ
          repeat' array_get_dec
      · have e1 : (backF name signs i).isSome = false := by unfold backF; simp [hlt]
        rw [e1]
        refine EB.and (x := decide (0 < i)) (S₁ := S) ?_ (fun h => absurd (of_decide_eq_true h) hlt) (fun _ => ⟨rfl, rfl⟩)
        repeat' array_get_dec
    have hf : backF name signs i = none ∨ backF name signs i = some (i - 1) := by
      unfold backF
      split
      · exact .inr rfl
      · exact .inl rfl
    rw [List.map_cons, List.filterMap_cons]
    rcases hf with hf | hf
    · rw [hf]
      rw [hf] at ht
      exact .skip (.skip _ hw fun C => ⟨ASG.nm nm (.inl (kindC nd1 hkl)) .hd, ht C⟩) hn L
    · rw [hf]
      rw [hf] at ht
      exact .take (.take _ S hw fun C => ⟨ASG.nm nm (.inl (kindC nd1 hkl)) .hd, ht C, he C⟩) hn L
end
set_option tactic.hygienic true
set_option tactic.hygienic false
section
variable {K : Type} [DecidableEq K]
theorem valueAt_map (k : K) (v : Value) (x : K) : ∀ acc : List (K × Value), (acc.any fun kv => kv.1 = k) = true → valueAt (acc.map fun kv => if kv.1 = k then (kv.1, v) else kv) x = if x = k then some v else valueAt acc x
  | [], h => by simp at h
  | a :: acc, h => by
    unfold valueAt
    rw [List.map_cons, List.find?_cons, List.find?_cons]
    by_cases hak : a.1 = k
    · rw [if_pos hak]
      by_cases hx : x = k
      · subst hx; simp [hak]
      · have h1 : ¬ a.1 = x := fun e => hx (e ▸ hak)
        simp only [h1, decide_false, if_neg hx]
        by_cases hr : (acc.any fun kv => kv.1 = k) = true
        · have := valueAt_map k v x acc hr
          rw [if_neg hx] at this
          exact this
        · have e : (acc.map fun kv => if kv.1 = k then (kv.1, v) else kv) = acc := by
            refine (List.map_congr_left fun q hq => ?_).trans (List.map_id _)
            have : ¬ q.1 = k := fun e => hr (List.any_eq_true.mpr ⟨q, hq, by simpa using e⟩)
            rw [if_neg this]; rfl
          rw [e]
    · rw [if_neg hak]
      have hr : (acc.any fun kv => kv.1 = k) = true := by
        rw [List.any_cons] at h
        simpa [hak] using h
      have := valueAt_map k v x acc hr
      by_cases hax : a.1 = x
      · have hx : ¬ x = k := fun e => hak (hax.trans e)
        simp only [hax, decide_true, if_neg hx]
      · simp only [hax, decide_false]
        exact this
theorem valueAt_stored (acc : List (K × Value)) (k : K) (v : Value) (x : K) : valueAt (stored acc k v) x = if x = k then some v else valueAt acc x := by
  unfold stored
  split
  · rename_i h; exact valueAt_map k v x acc h
  · rename_i h
    unfold valueAt
    rw [List.find?_append]
    by_cases hx : x = k
    · subst hx
      have : acc.find? (fun kv => decide (kv.1 = x)) = none := by
        rw [List.find?_eq_none]
        intro q hq hd
        exact h (List.any_eq_true.mpr ⟨q, hq, hd⟩)
      rw [this]; simp
    · rw [if_neg hx]
      have : ¬ k = x := fun e => hx e.symm
      cases acc.find? (fun kv => decide (kv.1 = x)) <;> simp [this]
noncomputable def tabLook (tab : List (K × Str)) (f : K → Option Str) : K → Option Str := tab.foldl (fun f p => fun x => if x = p.1 then some p.2 else f x) f
noncomputable def Rel1 (o : Option Value) : Option Str → Prop | none => o = none | some y => ∃ t, o = some (.str y t)
inductive Like : List (K × Value) → List (K × Str) → Prop where
  | nil : Like [] []
  | cons {k : K} {y : Str} {t : Tok} {kvs : List (K × Value)} {tab : List (K × Str)} (h : Like kvs tab) : Like ((k, .str y t) :: kvs) ((k, y) :: tab)
theorem Like.look {kvs : List (K × Value)} {tab : List (K × Str)} (H : Like kvs tab) : ∀ (acc : List (K × Value)) (f : K → Option Str), (∀ x, Rel1 (valueAt acc x) (f x)) → ∀ x, Rel1 (valueAt (merged acc kvs) x) (tabLook tab f x) := by
  induction H with
  | nil => intro acc f h x; exact h x
  | @cons k y t kvs tab H ih =>
    intro acc f h x
    refine ih (stored acc k (.str y t)) (fun x => if x = k then some y else f x) (fun x => ?_) x
    rw [valueAt_stored]
    by_cases hx : x = k
    · rw [if_pos hx]; simp only [hx, if_true]; exact ⟨t, rfl⟩
    · rw [if_neg hx]; simp only [hx, if_false]; exact h x
end
section
variable {prog : Program} {w : World} {mg : Str → Option Value} {G : Heap} {k : Nat} {env : Env} {ρ : Vars} {S S₁ S₂ S' : List PO} {K : Type} [DecidableEq K] {knd : KeyKind prog w K}
inductive Disp (prog : Program) (w : World) (knd : KeyKind prog w K) (env : Env) (pos : Pos) : List (Sem Value × Sem Value) → List (K × Str) → Prop where
  | nil : Disp prog w knd env pos [] []
  | cons {x : K} {y : Str} {ke : Expr} {n : Nat} {p : Pos} {rest : List (Sem Value × Sem Value)} {tab : List (K × Str)}
      (hk : ∀ (A : Around) (E : Value → Shared → Prop) (s : Shared) (Q : Value → Shared → Prop), (∀ v tk, knd.is x v = true → Q v { s with toks := tk }) → wpAny (model prog w) A (eval ke env) Q E s) (r : Disp prog w knd env pos rest tab) :
      Disp prog w knd env pos ((eval ke env, (do let z ← eval (.Constant (.str y) n p) env; standAt pos; pure z : Sem Value)) :: rest) ((x, y) :: tab)
theorem Disp.run {pos : Pos} {pairs : List (Sem Value × Sem Value)} {tab : List (K × Str)} (D : Disp prog w knd env pos pairs tab) {A : Around} {E : Value → Shared → Prop} : ∀ (s : Shared) (Q : List (Value × Value) → Shared → Prop), (∀ vs kvs tk, Carries knd vs kvs → Like kvs tab → Q vs { s with toks := tk }) →
    wpAny (model prog w) A (evalPairs pairs) Q E s := by
  induction D with
  | nil => intro s Q H; exact evalPairs_nil (H [] [] s.toks trivial .nil)
  | @cons x y ke n p rest tab hk r ih =>
    intro s Q H
    refine evalPairs_cons (hk A E s _ fun v tk hv => ?_)
    refine wpAny_bind (wpAny_Constant_str (wpAny_bind (wpAny_standAt (wpAny_pure ?_))))
    exact ih _ _ fun vs kvs tk' hc hl => H _ ((x, .str y _) :: kvs) tk' ⟨hv, rfl, hc⟩ (.cons hl)
end
set_option tactic.hygienic true
set_option tactic.hygienic false
section
variable {prog : Program} {w : World} {mg : Str → Option Value} {G : Heap} {k : Nat} {env : Env} {ρ : Vars} {S S₁ S₂ S' : List PO} {K : Type} [DecidableEq K] {knd : KeyKind prog w K}
noncomputable def tabGet (tab : List (K × Str)) (x : K) (d : PV) : PV := match tabLook tab (fun _ => none) x with | some y => .str y | none => d
noncomputable def dispPairs (env : Env) (dpos : Pos) : List (Option Expr) → List Expr → List (Sem Value × Sem Value)
  | some ke :: ks, v :: vs => (eval ke env, (do let z ← eval v env; standAt dpos; pure z : Sem Value)) :: dispPairs env dpos ks vs
  | _, _ => []
/-- pairs' arguments that leave an object as it is -/
noncomputable def ELk (prog : Program) (w : World) (mg : Str → Option Value) (G : Heap) (k : Nat) (env : Env) (ρ : Vars) (S : List PO) (pos : Pos) (es : List Expr) (ps : List PV) (S' : List PO) (good : Obj → Prop) : Prop :=
  ∀ A σ s, Sit w.params mg G A k env ρ σ S s.heap → ∀ D od, s.heap.get? D = some od → (∀ i, i < S.length → D ≠ σ.p i) → good od → ∀ Q E,
    (∀ vs σ' h' tk', Rel w.params G σ' S' h' → Ext σ S.length s.heap σ' S'.length h' → VRs σ' S'.length h' vs.toArray ps → h'.get? D = some od → Q vs { s with heap := h', toks := tk' }) → wpAny (model prog w) A (spliced (backTo pos (starEach es env))) Q E s
theorem ELk.of {pos : Pos} {es : List Expr} {ps : List PV} (h : ELs prog w mg G k env ρ S pos es ps S') : ELk prog w mg G k env ρ S pos es ps S' (fun od => ∀ es n, od.data = .dict es n → ¬ StrKeys es) := fun A σ s T D od hD off hg Q E H =>
  h.run A σ s T Q E fun vs σ' h' tk' R X V => H vs σ' h' tk' R X V ((X.keep D od hD off).same hg)
theorem ELk.names {pos : Pos} {x y : Str} {p1 p2 : Pos} {p q : PV} (hx : ρ.lookup x = some p) (hy : ρ.lookup y = some q) (hdx : (x == ("__debug__" : Str)) = false := by decide) (hnx : (x == ("__classdict__" : Str)) = false := by decide) (hdy : (y == ("__debug__" : Str)) = false := by decide) (hny : (y == ("__classdict__" : Str)) = false := by decide) :
    ELk prog w mg G k env ρ S pos [.Name x p1, .Name y p2] [p, q] S (fun _ => True) := fun A σ s T D od hD off hg Q E H => by
  have one : ∀ {x : Str} {pos : Pos} {p : PV} (hx : ρ.lookup x = some p) (hd : (x == ("__debug__" : Str)) = false) (hn : (x == ("__classdict__" : Str)) = false) (Q : Value → Shared → Prop), (∀ v, VR σ S.length s.heap v p → Q v s) → wpAny (model prog w) A (eval (.Name x pos) env) Q E s := by
    intro x pos p hx hd hn Q H
    refine wpAny_Name ?_ hd
    rcases T.er.dom x p hx with hk | hk | hk
    · obtain ⟨m, hm, hv⟩ := T.er.ns
      obtain ⟨v, e, V⟩ := hv x p hx hk
      exact wpAny_loadName_local T.er.kind hk hm e (H _ V)
    · obtain ⟨c, vo, h1, h2, h3⟩ := T.er.cell x (.inl hk)
      obtain ⟨v, e, V⟩ := h3 p hx
      subst e
      exact wpAny_loadName_cell T.er.kind hk h1 h2 (H _ V)
    · obtain ⟨c, vo, h1, h2, h3⟩ := T.er.cell x (.inr hk)
      obtain ⟨v, e, V⟩ := h3 p hx
      subst e
      exact wpAny_loadName_free T.er.kind hk h1 h2 (H _ V) hn
  exact Calls.spliced_cons (one hx hdx hnx _ fun v V => Calls.spliced_cons (one hy hdy hny _ fun u U => Calls.spliced_nil (H [v, u] σ s.heap s.toks T.rel Ext.refl (.cons V (.cons U .nil)) hD)))
theorem merged_ne {K : Type} [DecidableEq K] : ∀ (more acc : List (K × Value)), acc ≠ [] → merged acc more ≠ []
  | [], acc, h => h
  | kv :: r, acc, h => merged_ne r (stored acc kv.1 kv.2) (by unfold stored; split <;> simp [h])
theorem merged_cons {K : Type} [DecidableEq K] (kv : K × Value) (r : List (K × Value)) : merged [] (kv :: r) ≠ [] := merged_ne r (stored [] kv.1 kv.2) (by unfold stored; simp)
theorem EV.dispGet {keys : List (Option Expr)} {vals : List Expr} {dpos apos pos : Pos} {a b : Expr} {tab : List (K × Str)} {x : K} {kp dp : PV}
    (hshape : (evalEachOpt keys env).zip ((evalEach vals env).map fun v => do let x ← v; standAt dpos; pure x) = (dispPairs env dpos keys vals).map fun p => (some p.1, p.2)) (hne : dispPairs env dpos keys vals ≠ []) (hlen : (dispPairs env dpos keys vals).length ≤ 15) (D : Disp prog w knd env dpos (dispPairs env dpos keys vals) tab)
    {good : Obj → Prop} (h1 : ELk prog w mg G k env ρ S pos [a, b] [kp, dp] S₁ good) (hgood : ∀ (od : Obj) es ep e (x : K), od.data = .dict es ep → e ∈ es → knd.is x e.key = true → good od) (htab : tab ≠ []) (hkey : ∀ (σ : Lo) (N : Nat) (h : Heap) v, VR σ N h v kp → knd.is x v = true) {pl : Sem Bool}
    (hev : eval (.Call (.Attribute (.Dict keys vals dpos) "get" apos) [a, b] [] pos) env = (do
      let ov ← eval (.Dict keys vals dpos) env
      standAt apos.atName
      let (f, first) ← holding [ov] (getMethod ov "get" pl)
      callWith pos f first (backTo pos (starEach [a, b] env)) []) := by rfl)
    (he : starEach [a, b] env = (false, eval a env) :: starEach [b] env := by rfl) (hp : (backTo pos (starEach [b] env)).any (·.1) = false := by rfl) :
    EV prog w mg G k env ρ S (.Call (.Attribute (.Dict keys vals dpos) "get" apos) [a, b] [] pos) (tabGet tab x dp) S₁ := Lock.mk fun A σ s T Q E H => by
  obtain ⟨fr, frG⟩ := frOf T.rel (a := s.heap.objs.size) (Nat.le_refl _)
  refine MethodCall_ (pl := pl) (wpAny_Dict_pairs (knd := knd) hshape hne hlen (D.run _ _ fun vs kvs tk hc hl => ⟨kvs, hc, Heap.DictOf.new s.heap, fun h' hm hs => ?_⟩)) hev
  have hk : ∀ c o, s.heap.get? c = some o → h'.get? c = some o := fun c o e => hs.extBut c o (fun q => by rw [q, fr] at e; cases e) (Heap.get?_push_of_some _ e)
  have T' : Sit w.params mg G A k env ρ σ S h' := T.keeps hk
  obtain ⟨od, es, ep, ho, hx, hr⟩ := id hm
  refine getMethod_builtin (hm.typeIs (s := { s with heap := h', toks := tk + vs.length })) PySem.F.plainAttrs_dict PySem.F.slot_dict_get PySem.F.type_dict_get (fun c e => by cases e; exact ⟨_, ho, hx.2.1⟩) ?_
  have off : ∀ i, i < S.length → s.heap.objs.size ≠ σ.p i := fun i hi q => by
    obtain ⟨o, e⟩ := T.rel.alive hi
    rw [← q, fr] at e; cases e
  have hg : good od := by
    have hkn : kvs ≠ [] := by
      intro q; subst q
      cases hl
      exact htab rfl
    cases kvs with
    | nil => exact absurd rfl hkn
    | cons kv r =>
      have hm0 := merged_cons kv r
      have hr2 := hr.2.2.1
      cases hmm : merged [] (kv :: r) with
      | nil => exact absurd hmm hm0
      | cons kv' r' =>
        rw [hmm] at hr2
        generalize hes : es.toList = el at hr2
        cases hr2 with
        | @cons e' _ es' _ h1 _ _ => exact hgood od es ep e' kv'.1 hr.1 (by rw [← Array.mem_toList_iff, hes]; exact .head _) h1
  refine callWith_method1 (h1 A σ { s with heap := h', toks := tk + vs.length } T' _ od ho off hg _ _ fun us σ₁ h₁ tk₁ R₁ X₁ V₁ ho1 => ?_) he hp
  obtain ⟨v1, us, rfl, U1, V₁⟩ := V₁.uncons
  obtain ⟨v2, us, rfl, U2, V₁⟩ := V₁.uncons
  rw [V₁.unnil]
  have hm1 : h₁.DictOf knd s.heap.objs.size (merged [] kvs) := ⟨od, es, ep, ho1, hx, hr⟩
  show wpAny _ A (PySem.call (.builtin "dict.get") [.ref s.heap.objs.size, v1, v2]) Q E _
  refine call_meetsIn PySem.F.slot_dict_get (hm1.typeIs (s := { s with heap := h₁, toks := tk₁ })) PySem.F.entry_dict_get (PySem.F.args_dict_get_3 _ _ _) (meets_dict_get_default knd _ (k := x) (hkey _ _ _ _ U1) (notMods T.gd frG) v2) ⟨_, hm1.mapOf, ?_⟩
  have X0 : Ext σ S.length s.heap σ₁ S₁.length h₁ := Ext.trans T'.rel (Ext.ofKeeps hk) X₁
  have L := hl.look [] (fun _ => Option.none) (fun x => rfl) x
  unfold tabGet at H
  cases hq : tabLook tab (fun _ => Option.none) x with
  | none =>
    rw [hq] at L H
    have L' : valueAt (merged [] kvs) x = Option.none := L
    rw [L']
    exact H _ σ₁ h₁ _ R₁ X0 U2
  | some y =>
    rw [hq] at L H
    obtain ⟨t, L'⟩ := L
    rw [L']
    exact H _ σ₁ h₁ _ R₁ X0 (.str _ _)
theorem Disp.strK {env : Env} {x y : Str} {n m : Nat} {p q pos : Pos} {rest : List (Sem Value × Sem Value)} {tab : List (Str × Str)} (r : Disp prog w (strKind prog w) env pos rest tab) :
    Disp prog w (strKind prog w) env pos ((eval (.Constant (.str x) n p) env, (do let z ← eval (.Constant (.str y) m q) env; standAt pos; pure z : Sem Value)) :: rest) ((x, y) :: tab) :=
  .cons (fun A E s Q h => wpAny_Constant_str (h _ _ (by show (x == x) = true; simp))) r
theorem Disp.intK {env : Env} {x : Int} {y : Str} {n m : Nat} {p q pos : Pos} {rest : List (Sem Value × Sem Value)} {tab : List (Int × Str)} (r : Disp prog w (intKind prog w) env pos rest tab) :
    Disp prog w (intKind prog w) env pos ((eval (.Constant (.int x) n p) env, (do let z ← eval (.Constant (.str y) m q) env; standAt pos; pure z : Sem Value)) :: rest) ((x, y) :: tab) :=
  .cons (fun A E s Q h => wpAny_Constant_int (h _ _ (by show (x == x) = true; simp))) r
end
set_option tactic.hygienic true
set_option tactic.hygienic false

noncomputable def signsTab : List (Str × Str) := [("?", "ab\"*"), ("[ab]", "ab"), ("[!ab]", "\"*"), ("[*]", "*")]
noncomputable def signsOf (p : Str) : Str := match tabLook signsTab (fun _ => none) p with | some y => y | none => p
noncomputable def ftStep (name : Str) (p : Str) (sp : List Int) : List Int := if (p == "*") = true then (upTo (name.length + 1)).filterMap (starB sp) else sp.filterMap (backF name (signsOf p))
noncomputable def ftAll (name : Str) : List Str → List Int → List Int
  | [], sp => sp
  | p :: ps, sp => ftAll name ps (ftStep name p sp)
noncomputable def fits (name : Str) (ps : List Str) : Bool := (ftAll name ps [(name.length : Int)]).any (· == (0 : Int))
noncomputable def ftGrow (name p : Str) : Nat := if (p == "*") = true then name.length + 1 else 0
structure FtEnv (env : Env) : Prop where
  hk : ∀ x ∈ xFt, env.kindOf x = some .local ∨ env.kindOf x = some .cell
  gr : env.kindOf "range" = some .globalImplicit
  gl : env.kindOf "len" = some .globalImplicit
  hc : env.kindOf "spots" = some .cell
  hs : env.scope = sc 26
section
variable {prog : Program} {w : World} {mg : Str → Option Value} {G : Heap} {k : Nat}
theorem ft_case (T : Top mg G) {env : Env} (he : FtEnv env) {pt m : Nat} {name : Str} {sp : List Int} {S : List PO} (hm : S[m]? = some (.list (sp.map .int))) (h0 : ∀ i ∈ sp, i ≤ name.length) (hz : name.length ≤ 1000) (hsp : sp.length ≤ sizeLine) (p : Str) {op os : Option PV} :
    ∃ os', ForStep prog w mg G k env (tgtOf ftFor) (bodyOf ftFor) (.str p) (V xFt [some (.obj pt), some (.str name), some (.obj m), op, os]) S
      (.next (V xFt [some (.obj pt), some (.str name), some (.obj (S.length + ftGrow name p)), some (.str p), os']) (S ++ List.replicate (ftGrow name p) (PO.list []) ++ [PO.list ((ftStep name p sp).map .int)])) := by
  have nm := nmFt
  obtain ⟨hk, gr, gl, hc, hs⟩ := he
  have hbig : 2000 ≤ sizeLine := Nat.le_of_ble_eq_true rfl
  have hz' : name.length ≤ sizeLine := by omega
  have hlen := OPL.lenS (prog := prog) (w := w) (mg := mg) (G := G) (k := k) (S := S) hz'
  have ha : ASG prog w mg G k env (tgtOf ftFor) (.str p) (V xFt [some (.obj pt), some (.str name), some (.obj m), op, os]) (V xFt [some (.obj pt), some (.str name), some (.obj m), some (.str p), os]) S := by
    conv in (tgtOf _) => whnf
    exact ASG.nm nm (hk _ (by decide +kernel)) (.tl (.tl (.tl .hd)))
  cases hb : (p == Str.ofString "*") with
  | true =>
    have eg : ftGrow name p = name.length + 1 := by unfold ftGrow; rw [if_pos hb]
    have es : ftStep name p sp = (upTo (name.length + 1)).filterMap (starB sp) := by unfold ftStep; rw [if_pos hb]
    rw [eg, es]
    refine ⟨os, _, ha, ?_⟩
    have hC := ft_star (prog := prog) (w := w) (mg := mg) (G := G) (k := k) T (env := env) (n := m) (sp := sp) (upTo (name.length + 1)) S hm
    rw [upTo_map, show (upTo (name.length + 1)).length = name.length + 1 from by unfold upTo; simp] at hC
    sizeOf_list_dec
    refine EXs.cons (EX.ifT (b := p == Str.ofString "*") (S₁ := S) ?_ hb ?_) EXs.nil
    · repeat' array_get_dec
    · refine EXs.cons (EX.asg nm hk (p := .obj (S ++ List.replicate (name.length + 1) (PO.list [])).length) ?_ (.tl (.tl .hd)) (swapsCell hc)) (by
        rw [show (S ++ List.replicate (name.length + 1) (PO.list [])).length = S.length + (name.length + 1) from by simp]
        exact EXs.nil)
      refine EV.comp (S₁ := S) ?_ ?_ ?_ ?_ hC ?_ ?_
      · refine ITR.range1 (b := (((name.length + 1 : Nat)) : Int)) ?_ ?_ (by omega) (by omega)
        · exact EV.builtin gr (T.bi _ (by decide +kernel)) (by decide +kernel) (by decide +kernel) (by decide +kernel)
        · rw [show (((name.length + 1 : Nat)) : Int) = (name.length : Int) + 1 from by omega]
          repeat' array_get_dec
      · exact ScOk.mk' 26 hs rfl (by decide +kernel) (by decide +kernel)
      · exact (Sub.no (Sub.take (.tl (.tl .hd)) (by decide +kernel) Sub.nil)).use nm.nd
      · decide +kernel
      · rw [rangeL_len]; omega
      · intro _; rfl
  | false =>
    have eg : ftGrow name p = 0 := by unfold ftGrow; rw [hb]; rfl
    have es : ftStep name p sp = sp.filterMap (backF name (signsOf p)) := by unfold ftStep; rw [hb]; rfl
    rw [eg, es, List.replicate_zero, List.append_nil, Nat.add_zero]
    refine ⟨some (.str (signsOf p)), _, ha, ?_⟩
    have hC := ft_set (prog := prog) (w := w) (mg := mg) (G := G) (k := k) (env := env) (signs := signsOf p) hm hz' sp h0
    sizeOf_list_dec
    refine EXs.cons (EX.ifF (b := p == Str.ofString "*") (S₁ := S) ?_ hb ?_) EXs.nil
    · repeat' array_get_dec
    · refine EXs.cons (EX.asg nm hk (p := .str (signsOf p)) (S₁ := S) ?_ (.tl (.tl (.tl (.tl .hd)))) rfl) ?_
      · have e : tabGet signsTab p (.str p) = .str (signsOf p) := by
          unfold tabGet signsOf
          cases tabLook signsTab (fun _ => none) p <;> rfl
        rw [← e]
        refine EV.dispGet (knd := strKind prog w) (x := p) rfl (List.cons_ne_nil _ _) (Nat.le_of_ble_eq_true rfl) (Disp.strK (Disp.strK (Disp.strK (Disp.strK .nil)))) (kp := .str p) (good := fun _ => True) ?_ (fun _ _ _ _ _ _ _ _ => trivial) (List.cons_ne_nil _ _) (fun σ N h v V => by (first | (obtain ⟨_, rfl⟩ := VR.inv V) | (obtain rfl := VR.inv V)); show (p == p) = true; simp)
        exact ELk.names (V.look (by (repeat (first | exact At.hd | apply At.tl))) nm.nd) (V.look (by (repeat (first | exact At.hd | apply At.tl))) nm.nd)
      · refine EXs.cons (EX.asg nm hk (p := .obj S.length) ?_ (.tl (.tl .hd)) (swapsCell hc)) EXs.nil
        refine EV.comp (S₁ := S) ?_ ?_ ?_ ?_ hC ?_ ?_
        · refine ITR.list (n := m) ?_ hm
          repeat' array_get_dec
        · exact ScOk.mk' 26 hs rfl (by decide +kernel) (by decide +kernel)
        · exact (Sub.no (Sub.take (.tl .hd) (by decide +kernel) (Sub.take (.tl (.tl (.tl (.tl .hd)))) (by decide +kernel) Sub.nil))).use nm.nd
        · decide +kernel
        · rw [List.length_map]; exact hsp
        · intro _; rfl
end
set_option tactic.hygienic true
set_option tactic.hygienic false

theorem ftStep_le (name : Str) (p : Str) (sp : List Int) (h0 : ∀ i ∈ sp, i ≤ name.length) : ∀ i ∈ ftStep name p sp, i ≤ name.length := by
  intro i hi
  unfold ftStep at hi
  split at hi
  · obtain ⟨j, hj, e⟩ := List.mem_filterMap.mp hi
    unfold upTo at hj
    obtain ⟨a, ha, rfl⟩ := List.mem_map.mp hj
    rw [List.mem_range] at ha
    unfold starB at e
    cases hm : sp.max? with
    | none => rw [hm] at e; cases e
    | some m =>
      rw [hm] at e
      dsimp only at e
      split at e
      · cases e; omega
      · cases e
  · obtain ⟨j, hj, e⟩ := List.mem_filterMap.mp hi
    have := h0 j hj
    unfold backF at e
    split at e
    · cases e; omega
    · cases e
theorem ftStep_len (name : Str) (p : Str) (sp : List Int) : (ftStep name p sp).length ≤ max (name.length + 1) sp.length := by
  unfold ftStep
  split
  · refine Nat.le_trans (List.length_filterMap_le _ _) ?_
    unfold upTo
    simp
    omega
  · exact Nat.le_trans (List.length_filterMap_le _ _) (Nat.le_max_right _ _)
section
variable {prog : Program} {w : World} {mg : Str → Option Value} {G : Heap} {k : Nat}
theorem ft_for (T : Top mg G) {pt rt : Nat} {name : Str} {all : List PV} (hz : name.length ≤ 1000) : ∀ (ps : List Str) (S : List PO) (m : Nat) (sp : List Int), S[m]? = some (.list (sp.map .int)) → S[rt]? = some (.list all) → (∀ i ∈ sp, i ≤ name.length) → sp.length ≤ 1001 →
    ∃ g m', (S ++ g)[m']? = some (.list ((ftAll name ps sp).map .int)) ∧ ∀ env, FtEnv env → ∀ op os : Option PV, ∃ op' os', LoopR (ForStep prog w mg G k env (tgtOf ftFor) (bodyOf ftFor)) (fun S => S[rt]? = some (.list all)) (ps.map .str) (V xFt [some (.obj pt), some (.str name), some (.obj m), op, os]) S
      (.next (V xFt [some (.obj pt), some (.str name), some (.obj m'), op', os']) (S ++ g))
  | [], S, m, sp, hm, hpt, h0, hl => ⟨[], m, by rw [List.append_nil]; exact hm, fun env he op os => ⟨op, os, by rw [List.append_nil]; exact .nil⟩⟩
  | p :: ps, S, m, sp, hm, hpt, h0, hl => by
    have hbig : 2000 ≤ sizeLine := Nat.le_of_ble_eq_true rfl
    have hm' : (S ++ List.replicate (ftGrow name p) (PO.list []) ++ [PO.list ((ftStep name p sp).map .int)])[S.length + ftGrow name p]? = some (.list ((ftStep name p sp).map .int)) := by
      rw [List.getElem?_append_right (by simp)]; simp
    obtain ⟨g, m', h1, h2⟩ := ft_for T (pt := pt) hz ps (S ++ List.replicate (ftGrow name p) (PO.list []) ++ [PO.list ((ftStep name p sp).map .int)]) (S.length + ftGrow name p) (ftStep name p sp) hm' (app_get (app_get hpt)) (ftStep_le name p sp h0) (by have := ftStep_len name p sp; omega)
    refine ⟨List.replicate (ftGrow name p) (PO.list []) ++ [PO.list ((ftStep name p sp).map .int)] ++ g, m', by rw [← List.append_assoc, ← List.append_assoc]; exact h1, fun env he op os => ?_⟩
    obtain ⟨os1, h3⟩ := ft_case (prog := prog) (w := w) (mg := mg) (G := G) (k := k) T he (pt := pt) hm h0 hz (by omega) p (op := op) (os := os)
    obtain ⟨op', os', L⟩ := h2 env he (some (.str p)) os1
    rw [← List.append_assoc, ← List.append_assoc]
    exact ⟨op', os', .next h3 (app_get (app_get hpt)) L⟩

theorem fits_ok (T : Top mg G) : ∃ f, mg "_law_fits" = some (.ref f) ∧ Kp G (.ref f) ∧ ∀ (k : Nat) (S : List PO) (pt : Nat) (name : Str) (row ps : List Str), S[pt]? = some (.list (row.map .str)) → name.length ≤ 1000 → row.length ≤ 1000 → pick (row.map .str) none none (some (-1)) = ps.map .str →
    ∃ g, OPL prog w mg G (k + 1) S [.obj pt, .str name] (fun vs => PySem.call (.ref f) vs) (.bool (fits name ps)) (S ++ g) := by
  obtain ⟨f, fd, hm, D, hs⟩ := T.fn 26 (by decide)
  refine ⟨f, hm, D.kp, fun k S pt name row ps hpt hz hrow hps => ?_⟩
  have hbig : 2000 ≤ sizeLine := Nat.le_of_ble_eq_true rfl
  obtain ⟨g, m', h1, h2⟩ := ft_for (prog := prog) (w := w) (mg := mg) (G := G) (k := k) T (pt := pt) (rt := (S ++ [PO.list [.int name.length]]).length) (all := ps.map .str) hz ps (S ++ [PO.list [.int name.length]] ++ [PO.list (ps.map .str)]) S.length [(name.length : Int)] (app_get (by simp)) (by simp) (by simp) (by simp)
  refine ⟨[PO.list [.int name.length]] ++ [PO.list (ps.map .str)] ++ g, ?_⟩
  rw [← List.append_assoc, ← List.append_assoc]
  refine FN.go (as := ["row", "name"]) (ys := ["spots", "piece", "signs"]) D rfl fun L => ?_
  have he : FtEnv (fenv fd f L) := ⟨kinds 26 xFt (by decide +kernel) hs, by unfold Env.kindOf; show fd.scope.names.lookup _ = _; rw [hs]; decide +kernel, by unfold Env.kindOf; show fd.scope.names.lookup _ = _; rw [hs]; decide +kernel, by unfold Env.kindOf; show fd.scope.names.lookup _ = _; rw [hs]; decide +kernel, hs⟩
  generalize fenv fd f L = env at he
  obtain ⟨op', os', W⟩ := h2 env he none none
  have hlen := OPL.lenS (prog := prog) (w := w) (mg := mg) (G := G) (k := k) (S := S) (x := name) (by omega)
  have hin := O.inInts (prog := prog) (w := w) (mg := mg) (G := G) (k := k) (x := 0) h1
  obtain ⟨hk, gr, gl, hc, hs'⟩ := he
  have nm := nmFt
  show EXs prog w mg G k env (V xFt [some (.obj pt), some (.str name), none, none, none]) S (bd 26) _
  conv in (bd 26) => whnf
  refine EXs.asg nm hk (p := .obj S.length) (S₁ := S ++ [PO.list [.int name.length]]) ?_ (.tl (.tl .hd)) rfl ?_
  · repeat' array_get_dec
  · have hsl := EV.sliceL (prog := prog) (w := w) (mg := mg) (G := G) (k := k) (env := env) (ρ := V xFt [some (.obj pt), some (.str name), some (.obj S.length), none, none]) (S := S ++ [PO.list [.int name.length]]) (S₁ := S ++ [PO.list [.int name.length]]) (S₂ := S ++ [PO.list [.int name.length]]) (S₃ := S ++ [PO.list [.int name.length]]) (S' := S ++ [PO.list [.int name.length]]) (n := pt) (l := row.map .str) (c := some (-1))
      (value := match iterOf ftFor with | .Subscript v _ _ => v | e => e) (lo := none) (hi := none) (st := match iterOf ftFor with | .Subscript _ (.Slice _ _ st _) _ => st | _ => none) (p := match iterOf ftFor with | .Subscript _ (.Slice _ _ _ p) _ => p | _ => ⟨0,0,0,0⟩) (pos := match iterOf ftFor with | .Subscript _ _ p => p | _ => ⟨0,0,0,0⟩) (i := none) (j := none)
      (EV.nm nm .hd) .no .no (.some (EV.neg EV.int)) (app_get hpt) (by decide) (by rw [List.length_map]; omega)
    rw [hps] at hsl
    refine EXs.cons (EX.for_ (S₁ := S ++ [PO.list [.int name.length]] ++ [PO.list (ps.map .str)]) (ITR.list (n := (S ++ [PO.list [.int name.length]]).length) hsl (by simp)) W (fun _ => rfl) (.inl ⟨_, _, rfl⟩)) ?_
    unfold fits
    repeat' array_get_dec
end
set_option tactic.hygienic true
section
variable {prog : Program} {w : World} {mg : Str → Option Value} {G : Heap} {k : Nat} {env : Env} {ρ : Vars} {S S₁ S₂ S' : List PO}
/-- a list's item by a truth value -/
theorem getItem_list_bool {A : Around} {E : Value → Shared → Prop} {s : Shared} {l : Addr} {items : Array Value} {b : Bool} {x : Value} {Q : Value → Shared → Prop} (hl : s.heap.IsList l items) (hx : items[if b then 1 else 0]? = some x) (h : Q x s) :
    wpAny (model prog w) A (getItem (.ref l) (.bool b)) Q E s := by
  obtain ⟨o, ho, hc, ne, hd⟩ := id hl
  unfold getItem
  try with_reducible refine wpAny_holding ?_
  first | refine wpAny_bind (wpAny_pure ?_) | skip
  refine wpAny_bind (wpAny_sequenceKey hl.typeIs (by decide) ?_)
  refine wpAny_bind (wpAny_callSpecial?_slot (name := Str.ofString "__getitem__") hl.typeIs slot_list_getitem (wpAny_call_entry slot_list_getitem hl.typeIs entry_list_getitem ?_ (args_list_getitem _ _)))
  show wpAny _ _ (Builtin.List.listSubscript? (.bool b) >>= _) _ _ s
  refine wpAny_bind ?_
  unfold Builtin.List.listSubscript?
  refine wpAny_bind (wpAny_specialOf (T := "bool") rfl PySem.F.slot_bool_index.lookup ?_)
  cases b with
  | true =>
    show wpAny _ _ (asIndex (.bool true) >>= _) _ _ s
    refine wpAny_bind (wpAny_of_eq (a := (1 : Int)) rfl ?_)
    show wpAny _ _ (if (!Builtin.List.listFitsIndex 1) = true then _ else _) _ _ s
    rw [if_neg (by decide)]
    refine wpAny_pure ?_
    show wpAny _ _ ((seqItemAt l 1 >>= fun r => pure (r.map (1, ·))) >>= _) _ _ s
    refine wpAny_bind (wpAny_bind (wpAny_seqItemAt ho hd (wpAny_pure ?_)))
    simp only [if_true] at hx
    rw [hx]
    first
      | exact wpAny_bind (wpAny_pure (wpAny_pure ⟨x, rfl, wpAny_pure h⟩))
      | exact wpAny_pure ⟨x, rfl, wpAny_pure h⟩
  | false =>
    show wpAny _ _ (asIndex (.bool false) >>= _) _ _ s
    refine wpAny_bind (wpAny_of_eq (a := (0 : Int)) rfl ?_)
    show wpAny _ _ (if (!Builtin.List.listFitsIndex 0) = true then _ else _) _ _ s
    rw [if_neg (by decide)]
    refine wpAny_pure ?_
    show wpAny _ _ ((seqItemAt l 0 >>= fun r => pure (r.map (0, ·))) >>= _) _ _ s
    refine wpAny_bind (wpAny_bind (wpAny_seqItemAt ho hd (wpAny_pure ?_)))
    simp only [Bool.false_eq_true, if_false] at hx
    rw [hx]
    first
      | exact wpAny_bind (wpAny_pure (wpAny_pure ⟨x, rfl, wpAny_pure h⟩))
      | exact wpAny_pure ⟨x, rfl, wpAny_pure h⟩
theorem SUB.listB {n : Nat} {l : List PV} {b : Bool} {p : PV} (hn : S[n]? = some (.list l)) (hp : l[if b then 1 else 0]? = some p) : SUB prog w mg G k S (.obj n) (.bool b) p S := Lock.mk fun A σ s v u _ _ _ R V U => by
  (first | (obtain ⟨_, rfl⟩ := VR.inv V) | (obtain rfl := VR.inv V)); (first | (obtain ⟨_, rfl⟩ := VR.inv U) | (obtain rfl := VR.inv U))
  obtain ⟨vs, m, ho, hv⟩ := R.objs n _ hn
  have hl : s.heap.IsList (σ.p n) vs := ⟨_, ho, rfl, m, rfl⟩
  have hjl : (if b then 1 else 0) < l.length := (List.getElem?_eq_some_iff.mp hp).1
  have hjv : (if b then 1 else 0) < vs.size := by rw [hv.1]; exact hjl
  have hx : vs[if b then 1 else 0]? = some vs[if b then 1 else 0] := by simp [hjv]
  exact ⟨⟨_, _, hl.typeIs, slot_list_getitem.lookup⟩, fun Q E H => getItem_list_bool hl hx (H _ σ s.heap s.toks R Ext.refl (hv.2 _ _ p hx hp))⟩
theorem O.mulS {x : Str} {n : Int} (hm : PySem.MulOk x n) : OP2 prog w mg G k S (.str x) (.int n) (binaryOp .Mult) (.str (Txt.mul x n)) S := Lock.mk fun A σ s v u _ _ _ R V U Q E H => by
  (first | (obtain ⟨_, rfl⟩ := VR.inv V) | (obtain rfl := VR.inv V)); (first | (obtain ⟨_, rfl⟩ := VR.inv U) | (obtain rfl := VR.inv U))
  exact PySem.SB.mul hm (fun t' k => H _ σ s.heap _ R Ext.refl (.str _ _))
theorem OPL.strI {i : Int} (hi : i.natAbs.log2 < 1920) : OPL prog w mg G k S [.int i] (fun vs => PySem.call (.type "str") vs) (.str (toString i)) S := Lock.mk fun A σ s vs g _ _ R V0 Q E H => by
  obtain ⟨v, vs, rfl, V, V'⟩ := V0.uncons
  rw [V'.unnil]
  (first | (obtain ⟨_, rfl⟩ := VR.inv V) | (obtain rfl := VR.inv V))
  exact PySem.P.str_of_int hi (H _ σ s.heap _ R Ext.refl (.str _ _))
end
set_option tactic.hygienic false
section
variable {prog : Program} {w : World} {mg : Str → Option Value} {G : Heap} {k : Nat} {env : Env} {ρ : Vars} {S S₁ S₂ S' : List PO}
/-- l + 'q' + Y.replace('y', 'z'): the literals' tokens are at hand here alone -/
theorem EV.addReplace {l Y : Expr} {q y z a b : Str} {n1 n2 n3 : Nat} {p1 p2 p3 pl pm pa pc : Pos} (hl : EV prog w mg G k env ρ S l (.str a) S₁) (hY : EV prog w mg G k env ρ S₁ Y (.str b) S') (h1 : a.length + q.length ≤ sizeLine) (h2 : (a ++ q).length + (Txt.replace b y z).length ≤ sizeLine)
    (hyz : (y == z) = false) (hb : b.length + (b.length + 1) * z.length ≤ 16777216) {plm : Sem Bool}
    (hev : eval (.Call (.Attribute Y "replace" pa) [.Constant (.str y) n2 p2, .Constant (.str z) n3 p3] [] pc) env = (do
      let ov ← eval Y env
      standAt pa.atName
      let (f, first) ← holding [ov] (getMethod ov "replace" plm)
      callWith pc f first (backTo pc (starEach [.Constant (.str y) n2 p2, .Constant (.str z) n3 p3] env)) []) := by rfl) :
    EV prog w mg G k env ρ S (.BinOp (.BinOp l .Add (.Constant (.str q) n1 p1) pl) .Add (.Call (.Attribute Y "replace" pa) [.Constant (.str y) n2 p2, .Constant (.str z) n3 p3] [] pc) pm) (.str ((a ++ q) ++ Txt.replace b y z)) S' := Lock.mk fun A σ s T Q E H => by
  refine wpAny_BinOp (wpAny_BinOp (hl.run A σ s T _ _ fun v σ₁ h₁ tk₁ R₁ X₁ V₁ => wpAny_Constant_str ?_))
  (first | (obtain ⟨_, rfl⟩ := VR.inv V₁) | (obtain rfl := VR.inv V₁))
  have T₁ := T.ext R₁ X₁
  refine wpAny_with_toks (n := 1) (s := { s with heap := h₁, toks := tk₁ + 1 }) (Nat.succ_le_succ (Nat.zero_le _)) (add_str (fun t' tk2 htk => ?_) h1)
  refine MethodCall_ (pl := plm) (wpAny_with_toks (n := 1) (s := { s with heap := h₁, toks := tk2 }) htk (hY.run A σ₁ { s with heap := h₁, toks := tk2 } T₁ _ _ fun v₂ σ₂ h₂ tk₃ R₂ X₂ V₂ htk3 => ?_)) hev
  (first | (obtain ⟨_, rfl⟩ := VR.inv V₂) | (obtain rfl := VR.inv V₂))
  refine getMethod_builtin (typeIs_str _ _ _) PySem.F.plainAttrs_str PySem.F.slot_str_replace PySem.F.type_str_replace (fun a e => by cases e) ?_
  refine callWith_method1 (Calls.spliced_cons (wpAny_Constant_str (k := n2) (pos := p2) (Calls.spliced_cons (wpAny_Constant_str (k := n3) (pos := p3) (Calls.spliced_nil ?_))))) rfl rfl
  have htk3' : 1 ≤ tk₃ := htk3
  show wpAny _ A (PySem.call (.builtin "str.replace") [.str b _, .str y tk₃, .str z (tk₃ + 1)]) _ E _
  refine PySem.SC.replace (by (show @Ne Nat _ _); omega) (by (show @Ne Nat _ _); omega) (by (show @Ne Nat _ _); omega) hyz hb fun t2 tk4 => ?_
  refine add_str (fun t3 tk5 => ?_) h2
  exact H _ σ₂ h₂ tk5 R₂ (Ext.trans R₁ X₁ X₂) (.str _ _)
end
set_option tactic.hygienic true
set_option tactic.hygienic false

/-! exceptions of own classes -/
noncomputable def frs (l : List Env) : List Addr := l.filterMap (·.frame)

structure Fly (P : Params) (G : Heap) (l₀ l : List Env) (σ : Lo) (S : List PO) (h₀ h : Heap) (e C : Addr) : Prop where
  rel0 : Rel P G σ S h₀
  fr0 : ∀ a ∈ frs l₀, (∀ i, i < S.length → a ≠ σ.p i) ∧ G.get? a = none ∧ ∃ o es n, h₀.get? a = some o ∧ o.data = .dict es n ∧ StrKeys es
  fly : ∃ B a0, (∀ a o, h₀.get? a = some o → a ∉ frs l₀ → B.get? a = some o) ∧ Heap.FlyingW B l e (.ref C) a0 h
  up : h₀.UpToSlots h
section
variable {P : Params} {G : Heap} {l₀ l : List Env} {σ : Lo} {S : List PO} {h₀ h h' : Heap} {e C : Addr}
theorem up_keep (R : Rel P G σ S h₀) (fr0 : ∀ a ∈ frs l₀, (∀ i, i < S.length → a ≠ σ.p i) ∧ G.get? a = none ∧ ∃ o es n, h₀.get? a = some o ∧ o.data = .dict es n ∧ StrKeys es) {B : Heap} (hB : ∀ a o, h₀.get? a = some o → a ∉ frs l₀ → B.get? a = some o) (st : B.StaysIn h) (up : h₀.UpToSlots h) :
    (∀ a o, h₀.get? a = some o → a ∉ frs l₀ → h.get? a = some o) ∧ Ext σ S.length h₀ σ S.length h ∧ Rel P G σ S h := by
  have k1 : ∀ a o, h₀.get? a = some o → a ∉ frs l₀ → h.get? a = some o := fun a o ho hn => st _ _ (hB a o ho hn)
  have X : Ext σ S.length h₀ σ S.length h := ⟨Nat.le_refl _, fun _ _ => rfl, fun _ => Iff.rfl, fun i h1 h2 => absurd h2 (Nat.not_lt.mpr h1), fun a o ho _ => by
    by_cases hm : a ∈ frs l₀
    · obtain ⟨_, _, o', es, n, ho', hd, hks⟩ := fr0 a hm
      rw [ho] at ho'; cases ho'
      obtain ⟨sl, hs⟩ := up a o ho fun vs q => by rw [hd] at q; cases q
      exact ⟨_, hs, rfl, rfl, fun q => absurd hks (q es n hd)⟩
    · exact KeepO.refl (k1 a o ho hm)⟩
  refine ⟨k1, X, ⟨fun b o hb => k1 b o (R.ground b o hb) (fun hm => by rw [(fr0 b hm).2.1] at hb; cases hb), fun i o ho => ?_, R.fresh, R.inj, fun a q => ?_⟩⟩
  · have hi : i < S.length := (List.getElem?_eq_some_iff.mp ho).1
    have hni : σ.p i ∉ frs l₀ := fun hm => (fr0 _ hm).1 i hi rfl
    have Q := R.objs i o ho
    cases o with
    | list l =>
      obtain ⟨us, n, h1, h2, h3⟩ := Q
      exact ⟨us, n, k1 _ _ h1 hni, h2, fun i v p a b => (h3 i v p a b).ext R X⟩
    | dict l ep =>
      obtain ⟨es, n, h1, h2, h3⟩ := Q
      exact ⟨es, n, k1 _ _ h1 hni, h2, fun i e kv a b => ⟨⟨(h3 i e kv a b).1.1.ext R X, (h3 i e kv a b).1.2.ext R X⟩, (h3 i e kv a b).2⟩⟩
    | blank =>
      obtain ⟨o, h1, h2⟩ := Q
      exact ⟨o, k1 _ _ h1 hni, h2⟩
    | bound n id =>
      obtain ⟨v, h1, h2⟩ := Q
      exact ⟨v, k1 _ _ h1 hni, h2.ext R X⟩
    | tab p =>
      obtain ⟨ha, v, h1, h2⟩ := Q
      exact ⟨ha, v, k1 _ _ h1 hni, h2⟩
  · obtain ⟨o, ho⟩ := R.fb a q
    by_cases hm : a ∈ frs l₀
    · obtain ⟨_, _, o', es, n, ho', hd, hks⟩ := fr0 a hm
      obtain ⟨sl, hs⟩ := up a o' ho' fun vs q => by rw [hd] at q; cases q
      exact ⟨_, hs⟩
    · exact ⟨o, k1 a o ho hm⟩
theorem Fly.all (F : Fly P G l₀ l σ S h₀ h e C) : (∀ a o, h₀.get? a = some o → a ∉ frs l₀ → h.get? a = some o) ∧ Ext σ S.length h₀ σ S.length h ∧ Rel P G σ S h := by
  obtain ⟨B, a0, hB, hf⟩ := F.fly
  exact up_keep F.rel0 F.fr0 hB hf.1 F.up
end

noncomputable def PostR (P : Params) (G : Heap) (A : Around) (σ : Lo) (S : List PO) (s : Shared) (C : Addr) (S' : List PO) (E : Value → Shared → Prop) : Prop :=
  ∀ e σ' h₀ h' tk' l₀ l, A.frames = some l → Fly P G l₀ l σ' S' h₀ h' e C → Ext σ S.length s.heap σ' S'.length h₀ → E (.ref e) { s with heap := h', toks := tk' }
section
variable (prog : Program) (w : World) (mg : Str → Option Value) (G : Heap)
/-- a call that raises -/
noncomputable def OPR (k : Nat) (S : List PO) (ps : List PV) (t : List Value → Sem Value) (C : Addr) (S' : List PO) : Prop :=
  Lock (∀ A σ s vs, Gd mg G → Room k A → Stk G A σ S.length s.heap → Rel w.params G σ S s.heap → VRs σ S.length s.heap vs.toArray ps → ∀ Q E, PostR w.params G A σ S s C S' E → wpAny (model prog w) A (t vs) Q E s)
noncomputable def EVR (k : Nat) (env : Env) (ρ : Vars) (S : List PO) (e : Expr) (C : Addr) (S' : List PO) : Prop :=
  Lock (∀ A σ s, Sit w.params mg G A k env ρ σ S s.heap → ∀ Q E, PostR w.params G A σ S s C S' E → wpAny (model prog w) A (eval e env) Q E s)
noncomputable def ELsR (k : Nat) (env : Env) (ρ : Vars) (S : List PO) (pos : Pos) (es : List Expr) (C : Addr) (S' : List PO) : Prop :=
  Lock (∀ A σ s, Sit w.params mg G A k env ρ σ S s.heap → ∀ Q E, PostR w.params G A σ S s C S' E → wpAny (model prog w) A (spliced (backTo pos (starEach es env))) Q E s)
/-- a statement that raises here -/
noncomputable def EXR (k : Nat) (env : Env) (ρ : Vars) (S : List PO) (st : Stmt) (C : Addr) (S' : List PO) : Prop :=
  Lock (∀ A σ s, Sit w.params mg G A k env ρ σ S s.heap → Own G env → ∀ Q E, (∀ e σ' ρ' h₀ h₁ tk' args, Rel w.params G σ' S' h₀ → ExtX env σ S.length s.heap σ' S'.length h₀ → ER env ρ' σ' S'.length h₀ → Heap.MadeExcOf h₀ h₁ e (.ref C) args → E (.ref e) { s with heap := h₁, toks := tk' }) → wpAny (model prog w) A (exec st env) Q E s)
noncomputable def EXsR (k : Nat) (env : Env) (ρ : Vars) (S : List PO) (st : List Stmt) (C : Addr) (S' : List PO) : Prop :=
  Lock (∀ A σ s, Sit w.params mg G A k env ρ σ S s.heap → Own G env → ∀ Q E, (∀ e σ' ρ' h₀ h₁ tk' args, Rel w.params G σ' S' h₀ → ExtX env σ S.length s.heap σ' S'.length h₀ → ER env ρ' σ' S'.length h₀ → Heap.MadeExcOf h₀ h₁ e (.ref C) args → E (.ref e) { s with heap := h₁, toks := tk' }) → wpAny (model prog w) A (execs st env) Q E s)
end

noncomputable abbrev bmExc : List Value := [.type "Exception", .type "BaseException", .type "object"]
section
variable {prog : Program} {w : World} {mg : Str → Option Value} {G : Heap} {k : Nat} {env : Env} {ρ ρ₁ : Vars} {S S₁ S' : List PO} {C : Addr}
theorem EXR.raise {x : Str} {np cpos pos : Pos} {e : Expr} {ps : List PV} (O : OwnClsQ x C bmExc "Exception.__new__" mg G) (hx : env.kindOf x = some .globalImplicit) (h1 : ELs prog w mg G k env ρ S cpos [e] ps S') (hd : (x == ("__debug__" : Str)) = false := by decide) (hl : ps.length ≤ sizeLine)
    (he : starEach [e] env = (false, eval e env) :: starEach [] env := by rfl) : EXR prog w mg G k env ρ S (.Raise (some (.Call (.Name x np) [e] [] cpos)) none pos) C S' := Lock.mk fun A σ s T Ow Q E H => by
  obtain ⟨bm, N, nm, q, bs, hdct, sn, sub, ab, col, dd, k0, k1, k2, k3, k5, mN, hC, hN, hq, T2⟩ := O.obj
  refine wpAny_Raise_call_subU (Bn := "Exception") (B := "Exception") (C := C) (nm := nm) (q := q) (N := N) (bs := bs) (bm := bm) (hdct := hdct) (sn := sn) (sub := sub) (ab := ab) (col := col) (dd := dd) (k0 := k0) (k1 := k1) (k2 := k2) (k3 := k3) (k5 := k5) PySem.F.excBase_Exception (by decide) PySem.F.excBase_Exception (mN := mN) (T2.tail.hasType rfl) T.room.hh (by rw [he]; rfl) (hq _ (.head _))
    (Name_function_global T.er.kind hx (loadGlobal_global (env := env) (by rw [T.er.gl]; exact T.gd.g.keeps T.rel.ground) O.bound ⟨rfl, ?_⟩) hd)
  have h2 := h1.run A σ s T (fun vs s₂ => vs.length ≤ sizeLine ∧ s₂.heap.get? C = some (excClassObj nm q C N bs bm hdct sn sub ab col dd k0 k1 k2 k3 k5 "Exception.__new__") ∧ s₂.heap.Ns N mN ∧ OwnTail s₂.heap bmExc bm ∧ ∀ h' e, Heap.MadeExcOf s₂.heap h' e (.ref C) vs → E (.ref e) { s₂ with heap := h' }) E
    (fun vs σ₁ h₁ tk₁ R₁ X₁ V₁ => ⟨by have := V₁.1; simp at this; omega, R₁.ground _ _ hC, hN.keeps R₁.ground, T2.tail.keeps R₁.ground, fun h' e hm => H e σ₁ ρ h₁ h' tk₁ vs R₁ X₁.toX (T.ext R₁ X₁).er hm⟩)
  rw [he] at h2 ⊢
  exact Calls.evalArgs_plain (wpAny_mono h2 (fun vs s₂ h₃ => ⟨rfl, h₃⟩) fun _ _ y => y)
theorem EXR.ifT {test : Expr} {body orelse : List Stmt} {pos : Pos} {b : Bool} (h1 : EB prog w mg G k env ρ S test b S₁) (hb : b = true) (h2 : EXsR prog w mg G k env ρ S₁ body C S') : EXR prog w mg G k env ρ S (.If test body orelse pos) C S' := Lock.mk fun A σ s T O Q E H => by
  refine wpAny_If (h1.run A σ s T _ _ fun σ₁ h₁ tk₁ R₁ X₁ => ?_)
  have T₁ := T.ext R₁ X₁
  subst hb
  exact h2.run A σ₁ _ T₁ O Q E fun e σ' ρ' h₀ h₂ tk' args R X V M => H e σ' ρ' h₀ h₂ tk' args R (ExtX.trans R₁ T₁.er X₁.toX X) V M
theorem EXsR.here {st : Stmt} {rest : List Stmt} (h1 : EXR prog w mg G k env ρ S st C S') : EXsR prog w mg G k env ρ S (st :: rest) C S' := Lock.mk fun A σ s T O Q E H => wpAny_execs_cons (h1.run A σ s T O _ _ H)
theorem EXsR.cons {st : Stmt} {rest : List Stmt} (h1 : EX prog w mg G k env ρ S st (.next ρ₁ S₁)) (h2 : EXsR prog w mg G k env ρ₁ S₁ rest C S') : EXsR prog w mg G k env ρ S (st :: rest) C S' := Lock.mk fun A σ s T O Q E H => by
  refine wpAny_execs_cons (h1.run A σ s T O _ _ fun σ₁ h₁ tk₁ R₁ X₁ E₁ => ?_)
  exact h2.run A σ₁ _ (T.extX R₁ X₁ E₁) O Q E fun e σ' ρ' h₀ h₂ tk' args R X V M => H e σ' ρ' h₀ h₂ tk' args R (ExtX.trans R₁ E₁ X₁ X) V M

theorem frs_of {A : Around} {σ : Lo} {h : Heap} {N : Nat} (F : FrOk G A σ N h) {l : List Env} (hl : A.frames = some l) : h.FunFrames G l ∧ ∀ a ∈ frs l, (∀ i, i < N → a ≠ σ.p i) ∧ G.get? a = none ∧ ∃ o es n, h.get? a = some o ∧ o.data = .dict es n ∧ StrKeys es := by
  obtain ⟨l', hl', hf, ho⟩ := F
  rw [hl] at hl'; cases hl'
  refine ⟨hf, fun a ha => ?_⟩
  obtain ⟨env, he, hL⟩ := List.mem_filterMap.mp ha
  exact ⟨(ho env he a hL).1, (hf.mem ha).1, (ho env he a hL).2⟩

theorem FN.goR {f : Addr} {fd : FuncData} {body : List Stmt} {as ys : List Str} {ps : List PV} (D : DefAt G f fd body as) (hl : as.length = ps.length)
    (h : ∀ L, EXsR prog w mg G k (fenv fd f L) (V (as ++ ys) (ps.map some ++ ys.map fun _ => Option.none)) S body C S') : OPR prog w mg G (k + 1) S ps (fun vs => PySem.call (.ref f) vs) C S' := by
  refine Lock.mk ?_
  intro A σ s vs hG hA hS hR hV Q E H
  refine wpAny_call (enter D hl hG hA hS.fr hR hV fun L h₁ tk₁ T O hL hk hsz => ?_)
  have hb := (h L).run
  rw [V.zip as ys ps hl] at hb
  refine hb _ σ _ T O _ _ fun e σ' ρ' h₀ h₂ tk' args R' X' V' M => ?_
  · have T' := T.stk.extX X' T.er V'
    obtain ⟨l, hl', _⟩ := hS.fr
    have hfl := Around.frames_deeper (env := fenv fd f L) hl'
    obtain ⟨hf, ho⟩ := frs_of T'.fr hfl
    have hin : ∀ env ∈ (fenv fd f L :: l), ∀ b, env.frame = some b → b ∈ frs (fenv fd f L :: l) := fun env he b hb => List.mem_filterMap.mpr ⟨env, he, hb⟩
    refine wpAny_leaves_madeW (base := hideAll h₀ (frs (fenv fd f L :: l))) hfl rfl (fun b o q => of_hideAll _ q) (funFrames_hide hf hin) M fun h' t x1 x2 x3 x4 => ?_
    exact H e σ' h₀ h' tk' _ l hl' ⟨R', ho, ⟨_, _, fun a o q n => hideAll_get _ q n, x1⟩, (Heap.UpToSlots.of_keeps M.keeps).trans x4⟩ (backExt hk X')
end
set_option tactic.hygienic true
set_option tactic.hygienic false
section
variable {prog : Program} {w : World} {mg : Str → Option Value} {G : Heap} {k : Nat} {env : Env} {ρ ρ₁ : Vars} {S S₁ S' : List PO} {C : Addr}
theorem PostR.ofExt {P : Params} {A : Around} {σ σ₁ : Lo} {s : Shared} {h₁ : Heap} {tk : Nat} {E : Value → Shared → Prop} (R₁ : Rel P G σ₁ S₁ h₁) (X : Ext σ S.length s.heap σ₁ S₁.length h₁) (H : PostR P G A σ S s C S' E) :
    PostR P G A σ₁ S₁ { s with heap := h₁, toks := tk } C S' E := fun e σ' h₀ h' tk' l₀ l hl F X' => H e σ' h₀ h' tk' l₀ l hl F (Ext.trans R₁ X X')
theorem EVR.callN {id : Str} {p pos : Pos} {e : Expr} {es : List Expr} {f : Value} {ps : List PV} (h0 : EV prog w mg G k env ρ S (.Name id p) (.fn f) S) (hk : Kp G f) (h1 : ELs prog w mg G k env ρ S pos (e :: es) ps S₁)
    (h2 : OPR prog w mg G k S₁ ps (fun vs => PySem.call f vs) C S')
    (he : starEach (e :: es) env = (false, eval e env) :: starEach es env := by rfl) (hp : (backTo pos (starEach es env)).any (·.1) = false := by rfl) :
    EVR prog w mg G k env ρ S (.Call (.Name id p) (e :: es) [] pos) C S' := Lock.mk fun A σ s T Q E H => by
  refine wpAny_Call_Name_kw (h0.run A σ s T _ _ fun v σ₁ h₁ tk₁ R₁ X₁ V₁ => ?_)
  (first | (obtain ⟨_, rfl⟩ := VR.inv V₁) | (obtain rfl := VR.inv V₁))
  have T₁ := T.ext R₁ X₁
  refine callWith_any hk (h1.run A σ₁ _ T₁ _ _ fun vs σ₂ h₂ tk₂ R₂ X₂ V₂ => ⟨R₂.ground, ?_⟩) he hp
  have T₂ := T₁.ext R₂ X₂
  exact h2.run A σ₂ _ _ T₂.gd T₂.room T₂.stk T₂.rel V₂ _ _ ((H.ofExt (h₁ := h₁) (tk := tk₁) R₁ X₁).ofExt (h₁ := h₂) (tk := tk₂) R₂ X₂)
theorem EVR.callF {x : Str} {p pos : Pos} {e : Expr} {es : List Expr} {f : Addr} {ps : List PV} (hk : env.kindOf x = some .globalImplicit) (hm : mg x = some (.ref f)) (hK : Kp G (.ref f)) (h1 : ELs prog w mg G k env ρ S pos (e :: es) ps S₁)
    (h2 : OPR prog w mg G k S₁ ps (fun vs => PySem.call (.ref f) vs) C S') (hd : (x == ("__debug__" : Str)) = false := by decide)
    (he : starEach (e :: es) env = (false, eval e env) :: starEach es env := by rfl) (hp : (backTo pos (starEach es env)).any (·.1) = false := by rfl) :
    EVR prog w mg G k env ρ S (.Call (.Name x p) (e :: es) [] pos) C S' := EVR.callN (EV.glob hk hm hd) hK h1 h2 he hp
theorem ELsR.here {pos : Pos} {e : Expr} {rest : List Expr} (h1 : EVR prog w mg G k env ρ S e C S') (he : starEach (e :: rest) env = (false, eval e env) :: starEach rest env := by rfl) : ELsR prog w mg G k env ρ S pos (e :: rest) C S' := Lock.mk fun A σ s T Q E H => by
  rw [he]
  exact Calls.spliced_cons (h1.run A σ s T _ _ H)
theorem ELsR.next {pos : Pos} {e : Expr} {rest : List Expr} {p : PV} (h1 : EV prog w mg G k env ρ S e p S₁) (h2 : ELsR prog w mg G k env ρ S₁ pos rest C S') (he : starEach (e :: rest) env = (false, eval e env) :: starEach rest env := by rfl) : ELsR prog w mg G k env ρ S pos (e :: rest) C S' := Lock.mk fun A σ s T Q E H => by
  rw [he]
  refine Calls.spliced_cons (h1.run A σ s T _ _ fun v σ₁ h₁ tk₁ R₁ X₁ V₁ => ?_)
  exact h2.run A σ₁ _ (T.ext R₁ X₁) _ _ (H.ofExt R₁ X₁)
theorem EVR.tup {es : List Expr} {x : Nat} {pos : Pos} (h1 : ELsR prog w mg G k env ρ S pos es C S') : EVR prog w mg G k env ρ S (.Tuple es x pos) C S' := Lock.mk fun A σ s T Q E H => wpAny_Tuple (h1.run A σ s T _ _ H)
theorem EX.tryRet {body : List Stmt} {h₀ : ExceptHandler} {hs : List ExceptHandler} {pos : Pos} {p : PV} (h : EXs prog w mg G k env ρ S body (.ret p S')) : EX prog w mg G k env ρ S (.Try body (h₀ :: hs) [] [] pos) (.ret p S') := Lock.mk fun A σ s T O Q E H =>
  wpAny_Try_except (h.run A σ s T O _ _ fun v σ' h' tk' R X V => H v σ' h' tk' R X V)
end

section
variable {M : Model} {A : Around} {E : Value → Shared → Prop} {h : Heap} {g : Array GenState} {d : Drawn} {t : Nat} {os : OsState}
variable {nm q : Str} {C N : Addr} {bs bm : List Value} {hdct : Bool} {sn : List Str} {sub : List Value} {ab : Bool} {col : Option Bool} {dd : Option Addr} {k0 k1 k2 k3 k5 : Option Value} {newId : String}
variable {nm' q' : Str} {C' N' : Addr} {bs' bm' : List Value} {hdct' : Bool} {sn' : List Str} {sub' : List Value} {ab' : Bool} {col' : Option Bool} {dd' : Option Addr} {k0' k1' k2' k3' k5' : Option Value} {newId' : String}
theorem excMatches_other {e : Addr} {oe : Obj} {Q : Bool → Shared → Prop}
    (hC : h.get? C = some (excClassObj nm q C N bs bm hdct sn sub ab col dd k0 k1 k2 k3 k5 newId)) (he : h.get? e = some oe) (hcls : oe.cls = .ref C)
    (hC' : h.get? C' = some (excClassObj nm' q' C' N' bs' bm' hdct' sn' sub' ab' col' dd' k0' k1' k2' k3' k5' newId')) (hbase : bm'.contains (.type "BaseException") = true)
    (hne : (Value.ref C :: bm).contains (.ref C') = false)
    (hq : Q false ⟨h, g, d, t, os⟩) : wpAny M A (excMatches (.ref e) (.ref C')) Q E ⟨h, g, d, t, os⟩ := by
  have hcB : (Value.ref C' :: bm').contains (.type "BaseException") = true := by rw [List.contains_cons, hbase, Bool.or_true]
  have f := tc_notTuple
  unfold excMatches
  repeat (first | (with_reducible refine wpAny_loadPart_at he ?_; rw [hcls]) | with_reducible refine wpAny_loadPart_at hC ?_ | with_reducible refine wpAny_loadPart_at hC' ?_ | (with_reducible refine wpAny_isSubtype_exc hC' ?_; rw [hcB]) | (with_reducible refine wpAny_isSubtype_exc hC ?_; rw [hne]) | wp_step)
  exact hq
end

/-- the two classes -/
structure TwoCls (mg : Str → Option Value) (G : Heap) (C₁ C₂ : Addr) : Prop where
  o1 : OwnClsQ "error_reply" C₁ bmExc "Exception.__new__" mg G
  o2 : OwnClsQ "error_proto" C₂ bmExc "Exception.__new__" mg G
  ne : ∀ bm N nm q bs hdct sn sub ab col dd k0 k1 k2 k3 k5, G.get? C₂ = some (excClassObj nm q C₂ N bs bm hdct sn sub ab col dd k0 k1 k2 k3 k5 "Exception.__new__") → (Value.ref C₂ :: bm).contains (.ref C₁) = false

section
variable {prog : Program} {w : World} {mg : Str → Option Value} {G : Heap} {P : Params} {A : Around} {E : Value → Shared → Prop} {s : Shared} {env : Env} {outer l₀ : List Env} {σ : Lo} {S : List PO} {h₀ : Heap} {e C L : Addr}
theorem Fly.looks (hfr : A.frames = some (env :: outer)) (hf : env.frame = some L) (F : Fly P G l₀ (env :: outer) σ S h₀ s.heap e C) {K : Shared → Prop} (h : ∀ h', Fly P G l₀ (env :: outer) σ S h₀ h' e C → K { s with heap := h' }) :
    wpAny (model prog w) A (noteFrame (.ref e) env) (fun _ s₂ => wpAny (model prog w) A (setFlight (.ref e) none) (fun _ s₃ => K s₃) E s₂) E s := by
  obtain ⟨B, a0, hB, hf1⟩ := F.fly
  refine wpAny_looks_onW hfr hf hf1 fun h₄ hh4 s4 => ?_
  refine wpAny_landsW hh4 fun h₅ hh5 s5 => ?_
  exact h h₅ ⟨F.rel0, F.fr0, ⟨B, a0, hB, hh5⟩, (F.up.trans s4).trans s5⟩
theorem Fly.lands (F : Fly P G l₀ (env :: outer) σ S h₀ s.heap e C) {K : Shared → Prop} (h : ∀ h', Fly P G l₀ (env :: outer) σ S h₀ h' e C → K { s with heap := h' }) :
    wpAny (model prog w) A (setFlight (.ref e) none) (fun _ s₃ => K s₃) E s := by
  obtain ⟨B, a0, hB, hf1⟩ := F.fly
  exact lands_againW hf1 fun h₅ hh5 s5 => h h₅ ⟨F.rel0, F.fr0, ⟨B, a0, hB, hh5⟩, F.up.trans s5⟩
theorem Fly.hit {x : Str} {np pos : Pos} {b₀ : Stmt} {suite : List Stmt} {rest : List ExceptHandler} {Q : Flow → Shared → Prop} (F : Fly w.params G l₀ (env :: outer) σ S h₀ s.heap e C) (O : OwnClsQ x C bmExc "Exception.__new__" mg G) (hg : Gd mg G)
    (hk : env.scope.kind = .function) (hgl : env.globals = mainGlobals) (hx : env.kindOf x = some .globalImplicit)
    (h : ∀ h' E', Fly w.params G l₀ (env :: outer) σ S h₀ h' e C → wpAny (model prog w) (A.mark (some (.ref e))) (execs (b₀ :: suite) env) Q E' { s with heap := h' }) (hd : (x == ("__debug__" : Str)) = false := by decide) :
    wpAny (model prog w) A (handleBy (.ref e) env (.ExceptHandler (some (.Name x np)) none (b₀ :: suite) pos :: rest)) Q E s := by
  have R := F.all.2.2
  obtain ⟨B, a0, hB, hf1⟩ := F.fly
  refine handleBy_own (C := C) (bmB := bmExc) (newId := "Exception.__new__") (mg := mg) (x := x) (by decide) (Name_function_global hk hx (loadGlobal_global (env := env) (by rw [hgl]; exact hg.g.keeps R.ground) O.bound ⟨rfl, O.keeps R.ground, hf1.there, ?_⟩) hd)
  exact F.lands fun h' F' => h h' _ F'
theorem Fly.miss {x : Str} {np pos : Pos} {body : List Stmt} {rest : List ExceptHandler} {Q : Flow → Shared → Prop} {C₁ : Addr} (F : Fly w.params G l₀ (env :: outer) σ S h₀ s.heap e C) (T2 : TwoCls mg G C₁ C) (hx' : x = "error_reply") (hg : Gd mg G)
    (hk : env.scope.kind = .function) (hgl : env.globals = mainGlobals) (hx : env.kindOf x = some .globalImplicit)
    (h : wpAny (model prog w) A (handleBy (.ref e) env rest) Q E s) (hd : (x == ("__debug__" : Str)) = false := by decide) :
    wpAny (model prog w) A (handleBy (.ref e) env (.ExceptHandler (some (.Name x np)) none body pos :: rest)) Q E s := by
  have R := F.all.2.2
  obtain ⟨B, a0, hB, hf1⟩ := F.fly
  subst hx'
  obtain ⟨bm, N, nm, q, bs, hdct, sn, sub, ab, col, dd, k0, k1, k2, k3, k5, mN, hC, hN, hq, T⟩ := T2.o1.obj
  obtain ⟨bm', N', nm', q', bs', hdct', sn', sub', ab', col', dd', k0', k1', k2', k3', k5', mN', hC', hN', hq', T'⟩ := T2.o2.obj
  have hne := T2.ne _ _ _ _ _ _ _ _ _ _ _ _ _ _ _ _ hC'
  obtain ⟨oe, he, hcls⟩ := hf1.there
  obtain ⟨hh, g, d, tk, os⟩ := s
  refine wpAny_handleBy_cons (codeAny_handlers_test (Name_function_global hk hx (loadGlobal_global (env := env) (by rw [hgl]; exact hg.g.keeps R.ground) T2.o1.bound ?_) hd)) (by intro q; cases q)
  exact excMatches_other (R.ground _ _ hC') he hcls (R.ground _ _ hC) (T.tail.hasType rfl) hne h
end

section
variable {prog : Program} {w : World} {mg : Str → Option Value} {G : Heap} {k : Nat} {S S' : List PO} {C C₁ C₂ : Addr}
theorem FN.caught {f : Addr} {fd : FuncData} {as : List Str} {ps : List PV} {e : Expr} {rp tp : Pos} {x1 x2 y1 y2 : Str} {np1 np2 rp1 rp2 cp1 cp2 pos1 pos2 : Pos} {n1 n2 : Nat} {hit : Bool}
    (D : DefAt G f fd [.Try [.Return (some e) rp] [.ExceptHandler (some (.Name x1 np1)) none [.Return (some (.Constant (.str y1) n1 cp1)) rp1] pos1, .ExceptHandler (some (.Name x2 np2)) none [.Return (some (.Constant (.str y2) n2 cp2)) rp2] pos2] [] [] tp] as) (hl : as.length = ps.length)
    (T2 : TwoCls mg G C₁ C₂) (hx1 : x1 = "error_reply") (hx2 : x2 = "error_proto") (k1 : fd.scope.names.lookup x1 = some .globalImplicit) (k2 : fd.scope.names.lookup x2 = some .globalImplicit)
    (h : ∀ L, EVR prog w mg G k (fenv fd f L) (V as (ps.map some)) S e (if hit then C₁ else C₂) S') : OPL prog w mg G (k + 1) S ps (fun vs => PySem.call (.ref f) vs) (.str (if hit then y1 else y2)) S' := by
  refine Lock.mk ?_
  intro A σ s vs hG hA hS hR hV Q E H
  refine wpAny_call (enter D hl hG hA hS.fr hR hV fun L h₁ tk₁ T O hL hk hsz => ?_)
  have hb := (h L).run
  have hz := V.zip as [] ps hl
  rw [List.append_nil, List.map_nil, List.append_nil] at hz
  rw [hz] at hb
  refine wpAny_execs_cons (wpAny_Try_except ?_)
  refine wpAny_execs_cons (wpAny_Return_some (hb _ σ _ T _ _ fun e σ' h₀ h' tk' l₀ l hl' F X' => ?_))
  obtain ⟨l', hl'', _⟩ := hS.fr
  have hfl := Around.frames_deeper (env := fenv fd f L) hl''
  rw [hfl] at hl'
  cases hl'
  refine Fly.looks (s := { s with heap := h', toks := tk' }) hfl rfl F fun h₂ F₂ => ?_
  cases hit with
  | true =>
    subst hx1
    refine Fly.hit (s := { s with heap := h₂, toks := tk' }) F₂ T2.o1 hG D.kind D.gl k1 fun h₃ E' F₃ => ?_
    obtain ⟨_, X3, R3⟩ := F₃.all
    refine wpAny_execs_cons (wpAny_Return_some (wpAny_Constant_str ?_))
    exact H _ σ' h₃ _ R3 (Ext.trans F₃.rel0 (backExt hk X'.toX) X3) (.str _ _)
  | false =>
    refine Fly.miss (s := { s with heap := h₂, toks := tk' }) F₂ T2 hx1 hG D.kind D.gl k1 ?_ (by rw [hx1]; decide)
    subst hx2
    refine Fly.hit (s := { s with heap := h₂, toks := tk' }) F₂ T2.o2 hG D.kind D.gl k2 fun h₃ E' F₃ => ?_
    obtain ⟨_, X3, R3⟩ := F₃.all
    refine wpAny_execs_cons (wpAny_Return_some (wpAny_Constant_str ?_))
    exact H _ σ' h₃ _ R3 (Ext.trans F₃.rel0 (backExt hk X'.toX) X3) (.str _ _)
end
set_option tactic.hygienic true
set_option tactic.hygienic false

/-! _law_replies -/
noncomputable def mkOf (cost : Int) : Str := ⟨#[if cost.fmod 2 = 1 then 33 else 124]⟩
noncomputable def portN (cost kind : Int) : Str := ((((("(" : Str) ++ Txt.mul (mkOf cost) (if kind == 2 then 2 else 3)) ++ toString cost) ++ mkOf cost) ++ (if kind == 5 then ("x" : Str) else "")) ++ (if kind == 7 then ("]" : Str) else ")")
noncomputable def port6 (cost : Int) : Str := (("2" : Str) ++ toString cost) ++ "2)"
noncomputable def portOf (cost kind : Int) : Str := if kind == 6 then port6 cost else portN cost kind
noncomputable def preOf (kind : Int) : Str := if kind == 1 then "250 " else if kind == 4 then "257-" else "257 "
noncomputable def nameAt (i : Int) : Str := names.getD i.toNat ""
noncomputable def rep1 (goal kind : Int) : Str := ((preOf kind ++ "\"") ++ Txt.replace (nameAt goal) "\"" "\"\"") ++ "\" ok"
noncomputable def rep2 (cost kind : Int) : Str := (if kind == 3 then ("227 " : Str) else "229 ") ++ portOf cost kind
noncomputable abbrev xRp : List Str := ["way", "start", "goal", "cost", "kind", "mark", "port"]
theorem nmRp : Nm xRp := ⟨by decide +kernel, by decide +kernel⟩
theorem bsel {x y : PV} {b : Bool} : [x, y][if b then 1 else 0]? = some (if b then y else x) := by cases b <;> rfl
noncomputable def valA : Stmt → Expr | .Assign _ e _ => e | _ => .Constant .none 0 ⟨0,0,0,0⟩
theorem mk1 (c : Int) : (mkOf c).length = 1 := rfl
theorem strLen (i : Int) (h0 : 0 ≤ i) (h1 : i < 32) : (toString i : Str).length ≤ 2 := by
  have : ∀ n : Nat, n < 32 → (toString ((n : Nat) : Int) : Str).length ≤ 2 := by decide +kernel
  have := this i.toNat (by omega)
  rwa [show ((i.toNat : Nat) : Int) = i from by omega] at this
section
variable {prog : Program} {w : World} {mg : Str → Option Value} {G : Heap} {k : Nat}
theorem EV.str1 {env : Env} {ρ : Vars} {S S₁ : List PO} {p pos : Pos} {e : Expr} {i : Int} (T : Top mg G) (hk : env.kindOf "str" = some .globalImplicit) (h1 : EV prog w mg G k env ρ S e (.int i) S₁) (hi : i.natAbs.log2 < 1920) (he : starEach [e] env = (false, eval e env) :: starEach [] env := by rfl) :
    EV prog w mg G k env ρ S (.Call (.Name "str" p) [e] [] pos) (.str (toString i)) S₁ :=
  EV.callB T hk (by decide) rfl Kp.type (.cons h1 .nil he) (OPL.strI hi) (he := he) (hp := rfl)
theorem lastGet {S : List PO} {x : PO} : (S ++ [x])[S.length]? = some x := by simp
theorem selI {S : List PO} {x y : Int} {b : Bool} : SUB prog w mg G k (S ++ [PO.list [.int x, .int y]]) (.obj S.length) (.bool b) (.int (if b then y else x)) (S ++ [PO.list [.int x, .int y]]) := SUB.listB lastGet (by cases b <;> rfl)
theorem selS {S : List PO} {x y : Str} {b : Bool} : SUB prog w mg G k (S ++ [PO.list [.str x, .str y]]) (.obj S.length) (.bool b) (.str (if b then y else x)) (S ++ [PO.list [.str x, .str y]]) := SUB.listB lastGet (by cases b <;> rfl)
theorem replies_ok (T : Top mg G) : ∃ f, mg "_law_replies" = some (.ref f) ∧ Kp G (.ref f) ∧ ∀ (k : Nat) (S : List PO) (st goal cost kind : Int), 0 ≤ goal → goal < 5 → 1 ≤ cost → cost ≤ 20 → 0 ≤ kind → kind < 8 →
    ∃ X, OPL prog w mg G (k + 2) S [encY (st, goal, cost, kind)] (fun vs => PySem.call (.ref f) vs) (.tup [.str (rep1 goal kind), .str (rep2 cost kind)]) (S ++ X) := by
  obtain ⟨f, fd, hm, D, hs⟩ := T.fn 21 (by decide)
  obtain ⟨fN, mN, KN, cN⟩ := names_ok (prog := prog) (w := w) T
  refine ⟨f, hm, D.kp, fun k S st goal cost kind g0 g1 c0 c1 k0 k1 => ?_⟩
  have hst : cost.natAbs.log2 < 1920 := by
    have : cost.natAbs < 2 ^ 5 := by omega
    by_cases h : cost.natAbs = 0
    · rw [h]; decide
    · exact Nat.lt_trans ((Nat.log2_lt h).mpr this) (by decide)
  have hsl := strLen cost (by omega) (by omega)
  have hmul : PySem.MulOk (mkOf cost) (if kind == 2 then 2 else 3) := by
    unfold PySem.MulOk
    rw [mk1]
    cases (kind == 2) <;> decide
  have hml : (Txt.mul (mkOf cost) (if kind == 2 then 2 else 3)).length ≤ 3 := by
    unfold mkOf
    by_cases h : cost.fmod 2 = 1
    · rw [if_pos h]; cases (kind == 2) <;> decide
    · rw [if_neg h]; cases (kind == 2) <;> decide
  have h0 : 0 ≤ cost.fmod 2 := Int.fmod_nonneg_of_pos _ (by decide)
  have h1 : cost.fmod 2 < 2 := Int.fmod_lt_of_pos _ (by decide)
  have hsz : (8 : Nat) * 8 ≤ sizeLine := Nat.le_of_ble_eq_true rfl
  have hna : (nameAt goal).length ≤ 3 ∧ (Txt.replace (nameAt goal) "\"" "\"\"").length ≤ 8 := by
    have : ∀ n : Nat, n < 5 → (names.getD n "").length ≤ 3 ∧ (Txt.replace (names.getD n "") "\"" "\"\"").length ≤ 8 := by decide +kernel
    exact this goal.toNat (by omega)
  have hpre : (preOf kind).length ≤ 4 := by unfold preOf; cases (kind == 1) <;> cases (kind == 4) <;> decide
  have hq1 : ("\"" : Str).length = 1 := rfl
  have hpl : (portOf cost kind).length ≤ 12 := by
    unfold portOf port6 portN
    have hl5 : (if (kind == 5) = true then ("x" : Str) else "").length ≤ 1 := by cases (kind == 5) <;> decide
    have hl7 : (if (kind == 7) = true then ("]" : Str) else ")").length ≤ 1 := by cases (kind == 7) <;> decide
    have hl1 : ("(" : Str).length = 1 := rfl
    have hl2 : ("2" : Str).length = 1 := rfl
    have hl3 : ("2)" : Str).length = 2 := rfl
    have hmk := mk1 cost
    split <;> simp only [PySem.Str.length_append] <;> omega
  have hport : ∀ S : List PO, ∃ X, ∀ env : Env, env.kindOf "str" = some .globalImplicit → ∀ p, EV prog w mg G (k + 1) env (V xRp [some (encY (st, goal, cost, kind)), some (.int st), some (.int goal), some (.int cost), some (.int kind), some (.str (mkOf cost)), p]) S (valA ((bd 21).getD 2 default)) (.str (portOf cost kind)) (S ++ X) := by
    intro S
    have nm := nmRp
    by_cases hq : (kind == 6) = true
    · refine ⟨[], fun env hgs p => ?_⟩
      rw [List.append_nil]
      have e : portOf cost kind = port6 cost := by unfold portOf; rw [if_pos hq]
      rw [e]
      conv in (valA _) => whnf
      refine EV.ifexp (x := kind == 6) (S₁ := S) ?_ (fun _ => ?_) (fun h => by rw [hq] at h; simp at h)
      · repeat' array_get_dec
      · unfold port6
        refine EV.bin (S₁ := S) (S₂ := S) (EV.bin (S₁ := S) (S₂ := S) EV.str (EV.str1 T hgs ?_ hst) (O.addS ?_)) EV.str (O.addS ?_)
        · repeat' array_get_dec
        · have h2 : ("2" : Str).length = 1 := rfl
          omega
        · rw [PySem.Str.length_append]
          have h2 : ("2" : Str).length = 1 := rfl
          have h3 : ("2)" : Str).length = 2 := rfl
          omega
    · refine ⟨[PO.list [.int 3, .int 2], PO.list [.str "", .str "x"], PO.list [.str ")", .str "]"]], fun env hgs p => ?_⟩
      have e : portOf cost kind = portN cost kind := by unfold portOf; rw [if_neg hq]
      rw [e]
      conv in (valA _) => whnf
      refine EV.ifexp (x := kind == 6) (S₁ := S) ?_ (fun h => absurd h hq) (fun _ => ?_)
      · repeat' array_get_dec
      · rw [show S ++ [PO.list [.int 3, .int 2], PO.list [.str "", .str "x"], PO.list [.str ")", .str "]"]] = S ++ [PO.list [.int 3, .int 2]] ++ [PO.list [.str "", .str "x"]] ++ [PO.list [.str ")", .str "]"]] from by simp]
        unfold portN
        have hl5 : (if (kind == 5) = true then ("x" : Str) else "").length ≤ 1 := by cases (kind == 5) <;> decide
        have hl7 : (if (kind == 7) = true then ("]" : Str) else ")").length ≤ 1 := by cases (kind == 7) <;> decide
        have hl1 : ("(" : Str).length = 1 := rfl
        have hmk := mk1 cost
        refine EV.bin (S₁ := S ++ [PO.list [.int 3, .int 2]] ++ [PO.list [.str "", .str "x"]]) (S₂ := S ++ [PO.list [.int 3, .int 2]] ++ [PO.list [.str "", .str "x"]] ++ [PO.list [.str ")", .str "]"]])
          (EV.bin (S₁ := S ++ [PO.list [.int 3, .int 2]]) (S₂ := S ++ [PO.list [.int 3, .int 2]] ++ [PO.list [.str "", .str "x"]])
            (EV.bin (S₁ := S ++ [PO.list [.int 3, .int 2]]) (S₂ := S ++ [PO.list [.int 3, .int 2]])
              (EV.bin (S₁ := S ++ [PO.list [.int 3, .int 2]]) (S₂ := S ++ [PO.list [.int 3, .int 2]])
                (EV.bin (S₁ := S) (S₂ := S ++ [PO.list [.int 3, .int 2]]) EV.str
                  (EV.bin (S₁ := S) (S₂ := S ++ [PO.list [.int 3, .int 2]]) ?m1 (EV.sub (S₁ := S ++ [PO.list [.int 3, .int 2]]) (S₂ := S ++ [PO.list [.int 3, .int 2]]) ?l1 ?c1 (selI (b := kind == 2))) (O.mulS hmul)) (O.addS ?z1))
                (EV.str1 T hgs ?c2 hst) (O.addS ?z2)) ?m2 (O.addS ?z3))
            (EV.sub (S₁ := S ++ [PO.list [.int 3, .int 2]] ++ [PO.list [.str "", .str "x"]]) (S₂ := S ++ [PO.list [.int 3, .int 2]] ++ [PO.list [.str "", .str "x"]]) ?l2 ?c3 (selS (b := kind == 5))) (O.addS ?z4))
          (EV.sub (S₁ := S ++ [PO.list [.int 3, .int 2]] ++ [PO.list [.str "", .str "x"]] ++ [PO.list [.str ")", .str "]"]]) (S₂ := S ++ [PO.list [.int 3, .int 2]] ++ [PO.list [.str "", .str "x"]] ++ [PO.list [.str ")", .str "]"]]) ?l3 ?c4 (selS (b := kind == 7))) (O.addS ?z5)
        case z1 => omega
        case z2 => simp only [PySem.Str.length_append]; omega
        case z3 => simp only [PySem.Str.length_append]; omega
        case z4 => simp only [PySem.Str.length_append]; omega
        case z5 => simp only [PySem.Str.length_append]; omega
        all_goals repeat' array_get_dec
  obtain ⟨X1, hport⟩ := hport S
  refine ⟨X1 ++ [PO.list [.str "257 ", .str "250 ", .str "257-"], PO.list (names.map .str), PO.list [.str "229 ", .str "227 "]], ?_⟩
  rw [show S ++ (X1 ++ [PO.list [.str "257 ", .str "250 ", .str "257-"], PO.list (names.map .str), PO.list [.str "229 ", .str "227 "]]) = S ++ X1 ++ [PO.list [.str "257 ", .str "250 ", .str "257-"]] ++ [PO.list (names.map .str)] ++ [PO.list [.str "229 ", .str "227 "]] from by simp]
  refine FN.go (as := ["way"]) (ys := ["start", "goal", "cost", "kind", "mark", "port"]) D rfl fun L => ?_
  have hk := kinds 21 xRp (by decide +kernel) (env := fenv fd f L) hs
  have hg : (fenv fd f L).kindOf "_law_names" = some .globalImplicit := by unfold Env.kindOf; show fd.scope.names.lookup _ = _; rw [hs]; decide +kernel
  have hgs : (fenv fd f L).kindOf "str" = some .globalImplicit := by unfold Env.kindOf; show fd.scope.names.lookup _ = _; rw [hs]; decide +kernel
  generalize fenv fd f L = env at hk hg hgs
  have nm := nmRp
  have hport := hport env hgs
  show EXs prog w mg G (k+1) env (V xRp [some (encY (st, goal, cost, kind)), none, none, none, none, none, none]) S (bd 21) _
  conv in (bd 21) => whnf
  conv at hport in (valA _) => whnf
  have hmk : SUB prog w mg G (k+1) S (.str "|!") (.int (cost.fmod 2)) (.str (mkOf cost)) S := by
    refine SUB.str (by omega) (by omega) ?_
    have : cost.fmod 2 = 0 ∨ cost.fmod 2 = 1 := by omega
    rcases this with h | h <;> rw [h] <;> rfl
  have hport := hport Option.none
  refine EXs.asgT nm hk (ps := [.int st, .int goal, .int cost, .int kind]) (vs' := [some (encY (st, goal, cost, kind)), some (.int st), some (.int goal), some (.int cost), some (.int kind), none, none]) (S₁ := S) ?_ ?_ ?_ ?_ ?_ ?_ ?_ ?_
  rotate_right
  · refine EXs.asg nm hk (p := .str (mkOf cost)) (S₁ := S) ?_ (.tl (.tl (.tl (.tl (.tl .hd))))) rfl ?_
    · repeat' array_get_dec
    · refine EXs.asg nm hk hport (.tl (.tl (.tl (.tl (.tl (.tl .hd)))))) rfl (EXs.ret_ (EV.tup (ELs.cons (S₁ := S ++ X1 ++ [PO.list [.str "257 ", .str "250 ", .str "257-"]] ++ [PO.list (names.map .str)]) ?A (ELs.cons ?B ELs.nil)) (Nat.le_of_ble_eq_true rfl)))
      case A =>
        unfold rep1
        refine EV.bin (S₁ := S ++ X1 ++ [PO.list [.str "257 ", .str "250 ", .str "257-"]] ++ [PO.list (names.map .str)]) (EV.addReplace (S₁ := S ++ X1 ++ [PO.list [.str "257 ", .str "250 ", .str "257-"]]) ?a1 ?a2 ?a3 ?a4 (by decide) ?a5) EV.str (O.addS ?a6)
        case a1 =>
          refine EV.sub (S₁ := S ++ X1 ++ [PO.list [.str "257 ", .str "250 ", .str "257-"]]) (S₂ := S ++ X1 ++ [PO.list [.str "257 ", .str "250 ", .str "257-"]]) ?_ (p := .obj (S ++ X1).length) (q := .int ((if kind == 1 then 1 else 0) + 2 * (if kind == 4 then 1 else 0))) ?_ ?_
          · repeat' array_get_dec
          · repeat' (first | exact O.mulIB | exact O.addBI | array_get_dec)
          · by_cases q1 : kind = 1
            · subst q1; exact SUB.list lastGet (by decide) (by decide) (j := 1) rfl rfl
            · by_cases q4 : kind = 4
              · subst q4; exact SUB.list lastGet (by decide) (by decide) (j := 2) rfl rfl
              · have e1 : (kind == 1) = false := by simpa using q1
                have e4 : (kind == 4) = false := by simpa using q4
                unfold preOf
                rw [e1, e4]
                exact SUB.list lastGet (by decide) (by decide) (j := 0) rfl rfl
        case a2 =>
          refine EV.sub (S₁ := S ++ X1 ++ [PO.list [.str "257 ", .str "250 ", .str "257-"]] ++ [PO.list (names.map .str)]) (S₂ := S ++ X1 ++ [PO.list [.str "257 ", .str "250 ", .str "257-"]] ++ [PO.list (names.map .str)]) (EV.callF0 hg mN KN (cN k _)) (q := .int goal) ?_ ?_
          · repeat' array_get_dec
          · refine SUB.list lastGet (by omega) (by omega) (j := goal.toNat) (seqIdx (by omega) ?_) ?_
            · show goal < ((5 : Nat) : Int); omega
            · have : goal.toNat = 0 ∨ goal.toNat = 1 ∨ goal.toNat = 2 ∨ goal.toNat = 3 ∨ goal.toNat = 4 := by omega
              unfold nameAt
              rcases this with h | h | h | h | h <;> rw [h] <;> rfl
        case a3 => omega
        case a4 => rw [PySem.Str.length_append]; omega
        case a5 =>
          have h2 : ("\"\"" : Str).length = 2 := rfl
          rw [h2]
          have := hna.1
          omega
        case a6 =>
          have h2 : ("\" ok" : Str).length = 4 := rfl
          rw [PySem.Str.length_append, PySem.Str.length_append, h2]; omega
      case B =>
        unfold rep2
        refine EV.bin (S₁ := S ++ X1 ++ [PO.list [.str "257 ", .str "250 ", .str "257-"]] ++ [PO.list (names.map .str)] ++ [PO.list [.str "229 ", .str "227 "]]) (S₂ := S ++ X1 ++ [PO.list [.str "257 ", .str "250 ", .str "257-"]] ++ [PO.list (names.map .str)] ++ [PO.list [.str "229 ", .str "227 "]]) (EV.sub (S₁ := S ++ X1 ++ [PO.list [.str "257 ", .str "250 ", .str "257-"]] ++ [PO.list (names.map .str)] ++ [PO.list [.str "229 ", .str "227 "]]) (S₂ := S ++ X1 ++ [PO.list [.str "257 ", .str "250 ", .str "257-"]] ++ [PO.list (names.map .str)] ++ [PO.list [.str "229 ", .str "227 "]]) ?_ ?_ (selS (b := kind == 3))) ?_ (O.addS ?_)
        · repeat' array_get_dec
        · repeat' array_get_dec
        · repeat' array_get_dec
        · have : (if (kind == 3) = true then ("227 " : Str) else "229 ").length ≤ 4 := by cases (kind == 3) <;> decide
          omega
  all_goals repeat' array_get_dec
end
set_option tactic.hygienic true
set_option tactic.hygienic false

/-! parse257 -/
noncomputable def sgn (c : Nat) : Str := ⟨#[c]⟩
/-- none: refused -/
noncomputable def scan (r : Str) : Nat → Nat → Str → Str
  | 0, _, d => d
  | f + 1, i, d =>
    if i < r.length then
      if sgn (r.cps.getD i 0) == "\"" then
        if i + 1 ≥ r.length || sgn (r.cps.getD (i + 1) 0) != "\"" then d else scan r f (i + 2) (d ++ sgn (r.cps.getD i 0))
      else scan r f (i + 1) (d ++ sgn (r.cps.getD i 0))
    else d
noncomputable def p257 (r : Str) : Option Str :=
  if Txt.slice r none (some 3) != "257" then none else
  if Txt.slice r (some 3) (some 5) != " \"" then some "" else some (scan r r.length 5 "")
noncomputable abbrev x57 : List Str := ["resp", "dirname", "i", "n", "c"]
theorem nm57 : Nm x57 := ⟨by decide +kernel, by decide +kernel⟩
noncomputable def tst57 : List Stmt → Expr | [_, _, .If _ (.If t _ _ _ :: _) _ _, _] => t | _ => .Constant .none 0 ⟨0,0,0,0⟩
noncomputable def w57 : Stmt := (bd 6).getD 5 default
theorem chN {r : Str} {i : Nat} (h : i < r.length) : (seqIndex? (i : Int) r.length).bind (r.cps[·]?) = some (r.cps.getD i 0) := by
  rw [seqIdx (by omega) (by omega), Int.toNat_natCast]
  show r.cps[i]? = _
  have h' : i < r.cps.size := h
  rw [Array.getD_eq_getD_getElem?]
  simp [h']
theorem app1 (d : Str) (c : Nat) : (d ++ sgn c).length = d.length + 1 := by
  show (d.cps ++ #[c]).size = d.cps.size + 1
  simp
section
variable {prog : Program} {w : World} {mg : Str → Option Value} {G : Heap} {k : Nat}
theorem loop57 {env : Env} (hk : ∀ x ∈ x57, env.kindOf x = some .local ∨ env.kindOf x = some .cell) {S : List PO} {r : Str} (hr : r.length ≤ 1000) : ∀ (f i : Nat) (d : Str) (oc : Option PV), r.length ≤ i + f → d.length ≤ i → i ≤ 1001 →
    ∃ i' oc', WLoop prog w mg G k env (testOf w57) (bodyOf w57) (V x57 [some (.str r), some (.str d), some (.int i), some (.int r.length), oc]) S
      (.next (V x57 [some (.str r), some (.str (scan r f i d)), some (.int i'), some (.int r.length), oc']) S) := by
  have nm := nm57
  have hb : (2000 : Nat) ≤ sizeLine := Nat.le_of_ble_eq_true rfl
  intro f
  induction f with
  | zero =>
    intro i d oc hf hd hi
    refine ⟨i, oc, WLoop.stop ?_⟩
    have ht : EB prog w mg G k env (V x57 [some (.str r), some (.str d), some (.int i), some (.int r.length), oc]) S (testOf w57) (decide ((i : Int) < r.length)) S := by
      sizeOf_list_dec
      repeat' array_get_dec
    rwa [decide_eq_false (by omega)] at ht
  | succ f ih =>
    intro i d oc hf hd hi
    have ht : EB prog w mg G k env (V x57 [some (.str r), some (.str d), some (.int i), some (.int r.length), oc]) S (testOf w57) (decide ((i : Int) < r.length)) S := by
      sizeOf_list_dec
      repeat' array_get_dec
    unfold scan
    by_cases h0 : i < r.length
    · rw [if_pos h0]
      rw [decide_eq_true (by omega)] at ht
      have hs : SUB prog w mg G k S (.str r) (.int i) (.str (sgn (r.cps.getD i 0))) S := SUB.str (by omega) (by omega) (chN h0)
      have hap := app1 d (r.cps.getD i 0)
      by_cases h1 : (sgn (r.cps.getD i 0) == "\"") = true
      · rw [if_pos h1]
        have hor : EB prog w mg G k env (V x57 [some (.str r), some (.str d), some (.int ((i : Int) + 1)), some (.int r.length), some (.str (sgn (r.cps.getD i 0)))]) S (tst57 (bodyOf w57)) (i + 1 ≥ r.length || sgn (r.cps.getD (i + 1) 0) != "\"") S := by
          conv in (tst57 _) => whnf
          refine EB.or (x := decide ((i : Int) + 1 ≥ r.length)) (S₁ := S) ?_ (fun hx => ?_) (fun hx => ?_)
          · repeat' array_get_dec
          · have h2 : i + 1 < r.length := by
              have := of_decide_eq_false hx
              omega
            have hs2 : SUB prog w mg G k S (.str r) (.int ((i : Int) + 1)) (.str (sgn (r.cps.getD (i + 1) 0))) S := SUB.str (by omega) (by omega) (chN h2)
            have e : (decide (i + 1 ≥ r.length) || sgn (r.cps.getD (i + 1) 0) != "\"") = (sgn (r.cps.getD (i + 1) 0) != "\"") := by rw [decide_eq_false (by omega), Bool.false_or]
            rw [e]
            repeat' array_get_dec
          · have := of_decide_eq_true hx
            exact ⟨by rw [decide_eq_true (by omega)]; rfl, rfl⟩
        by_cases h2 : (decide (i + 1 ≥ r.length) || sgn (r.cps.getD (i + 1) 0) != "\"") = true
        · rw [if_pos h2]
          refine ⟨((i + 1 : Nat) : Int), some (.str (sgn (r.cps.getD i 0))), WLoop.brk ht ?_⟩
          rw [h2] at hor
          sizeOf_list_dec
          conv at hor in (tst57 _) => whnf
          repeat' array_get_dec
          refine EXs.brk (EX.ifT (b := sgn (r.cps.getD i 0) == "\"") (S₁ := S) ?_ h1 (EXs.brk (EX.ifT (b := true) hor rfl ?_)))
          · repeat' array_get_dec
          · exact EXs.brk_
        · rw [if_neg h2]
          have h2' : (decide (i + 1 ≥ r.length) || sgn (r.cps.getD (i + 1) 0) != "\"") = false := by simpa using h2
          rw [h2'] at hor
          obtain ⟨i', oc', hw⟩ := ih (i + 2) (d ++ sgn (r.cps.getD i 0)) (some (.str (sgn (r.cps.getD i 0)))) (by omega) (by omega) (by
            have : ¬ i + 1 ≥ r.length := fun q => by rw [decide_eq_true q] at h2'; simp at h2'
            omega)
          refine ⟨i', oc', WLoop.next ht ?_ hw⟩
          sizeOf_list_dec
          conv at hor in (tst57 _) => whnf
          have key : EXs prog w mg G k env (V x57 [some (.str r), some (.str d), some (.int ((i : Int) + 1)), some (.int r.length), some (.str (sgn (r.cps.getD i 0)))]) S [((bodyOf w57).getD 2 default), ((bodyOf w57).getD 3 default)] (.next (V x57 [some (.str r), some (.str (d ++ sgn (r.cps.getD i 0))), some (.int ((i : Int) + 1 + 1)), some (.int r.length), some (.str (sgn (r.cps.getD i 0)))]) S) := by
            conv in (List.getD (bodyOf w57) 2 default) => whnf
            conv in (List.getD (bodyOf w57) 3 default) => whnf
            refine EXs.cons (ρ₁ := V x57 [some (.str r), some (.str d), some (.int ((i : Int) + 1 + 1)), some (.int r.length), some (.str (sgn (r.cps.getD i 0)))]) (S₁ := S) (EX.ifT (b := sgn (r.cps.getD i 0) == "\"") (S₁ := S) ?_ h1 (EXs.cons (EX.ifF (b := false) hor rfl EXs.nil) ?_)) ?_
            · repeat' array_get_dec
            · repeat' array_get_dec
            · repeat' (first | (with_reducible apply O.addS) | array_get_dec)
              have : (sgn (r.cps.getD i 0)).length = 1 := rfl
              omega
          rw [show ((i + 2 : Nat) : Int) = (i : Int) + 1 + 1 from by omega]
          conv at key in (List.getD (bodyOf w57) 2 default) => whnf
          conv at key in (List.getD (bodyOf w57) 3 default) => whnf
          repeat' array_get_dec
      · rw [if_neg h1]
        obtain ⟨i', oc', hw⟩ := ih (i + 1) (d ++ sgn (r.cps.getD i 0)) (some (.str (sgn (r.cps.getD i 0)))) (by omega) (by omega) (by omega)
        refine ⟨i', oc', WLoop.next ht ?_ hw⟩
        sizeOf_list_dec
        have key : EXs prog w mg G k env (V x57 [some (.str r), some (.str d), some (.int ((i : Int) + 1)), some (.int r.length), some (.str (sgn (r.cps.getD i 0)))]) S [((bodyOf w57).getD 2 default), ((bodyOf w57).getD 3 default)] (.next (V x57 [some (.str r), some (.str (d ++ sgn (r.cps.getD i 0))), some (.int ((i : Int) + 1)), some (.int r.length), some (.str (sgn (r.cps.getD i 0)))]) S) := by
          conv in (List.getD (bodyOf w57) 2 default) => whnf
          conv in (List.getD (bodyOf w57) 3 default) => whnf
          refine EXs.cons (EX.ifF (b := sgn (r.cps.getD i 0) == "\"") (S₁ := S) ?_ (by simpa using h1) EXs.nil) ?_
          · repeat' array_get_dec
          · repeat' (first | (with_reducible apply O.addS) | array_get_dec)
            have : (sgn (r.cps.getD i 0)).length = 1 := rfl
            omega
        rw [show ((i + 1 : Nat) : Int) = (i : Int) + 1 from by omega]
        conv at key in (List.getD (bodyOf w57) 2 default) => whnf
        conv at key in (List.getD (bodyOf w57) 3 default) => whnf
        repeat' array_get_dec
    · rw [if_neg h0]
      rw [decide_eq_false (by omega)] at ht
      exact ⟨i, oc, WLoop.stop ht⟩

theorem parse257_ok {C₁ C₂ : Addr} (T : Top mg G) (T2 : TwoCls mg G C₁ C₂) : ∃ f, mg "parse257" = some (.ref f) ∧ Kp G (.ref f) ∧ ∀ (k : Nat) (S : List PO) (r : Str), r.length ≤ 1000 →
    (∀ x, p257 r = some x → OPL prog w mg G (k + 1) S [.str r] (fun vs => PySem.call (.ref f) vs) (.str x) S) ∧ (p257 r = none → OPR prog w mg G (k + 1) S [.str r] (fun vs => PySem.call (.ref f) vs) C₁ S) := by
  obtain ⟨f, fd, hm, D, hs⟩ := T.fn 6 (by decide)
  refine ⟨f, hm, D.kp, fun k S r hr => ⟨fun x hx => ?_, fun hx => ?_⟩⟩
  · have hz : r.length ≤ sizeLine := Nat.le_trans hr (Nat.le_of_ble_eq_true rfl)
    refine FN.go (as := ["resp"]) (ys := ["dirname", "i", "n", "c"]) D rfl fun L => ?_
    have hk := kinds 6 x57 (by decide +kernel) (env := fenv fd f L) hs
    have hgl : (fenv fd f L).kindOf "len" = some .globalImplicit := by unfold Env.kindOf; show fd.scope.names.lookup _ = _; rw [hs]; decide +kernel
    generalize fenv fd f L = env at hk hgl
    have nm := nm57
    show EXs prog w mg G k env (V x57 [some (.str r), none, none, none, none]) S (bd 6) _
    unfold p257 at hx
    by_cases h1 : (Txt.slice r none (some 3) != "257") = true
    · rw [if_pos h1] at hx; cases hx
    · rw [if_neg h1] at hx
      have h1' : (Txt.slice r none (some 3) != "257") = false := by simpa using h1
      by_cases h2 : (Txt.slice r (some 3) (some 5) != " \"") = true
      · rw [if_pos h2] at hx; cases hx
        conv in (bd 6) => whnf
        refine EXs.cons (EX.ifF (b := Txt.slice r none (some 3) != "257") (S₁ := S) ?_ h1' EXs.nil) (EXs.stop (EX.ifT (b := Txt.slice r (some 3) (some 5) != " \"") (S₁ := S) ?_ h2 ?_))
        · repeat' array_get_dec
        · repeat' array_get_dec
        · repeat' array_get_dec
      · rw [if_neg h2] at hx; cases hx
        have h2' : (Txt.slice r (some 3) (some 5) != " \"") = false := by simpa using h2
        obtain ⟨i', oc', W⟩ := loop57 (prog := prog) (w := w) (mg := mg) (G := G) (k := k) hk (S := S) hr r.length 5 "" none (by omega) (by show (0 : Nat) ≤ 5; omega) (by omega)
        have hlen : OPL prog w mg G k S [.str r] (fun vs => PySem.call (.builtin "len") vs) (.int r.length) S := OPL.lenS hz
        have hW := EX.while_ (pos := (match w57 with | .While _ _ _ p => p | _ => ⟨0,0,0,0⟩)) W
        have e57 : (bd 6) = [(bd 6).getD 0 default, (bd 6).getD 1 default, (bd 6).getD 2 default, (bd 6).getD 3 default, (bd 6).getD 4 default, .While (testOf w57) (bodyOf w57) [] (match w57 with | .While _ _ _ p => p | _ => ⟨0,0,0,0⟩), (bd 6).getD 6 default] := rfl
        rw [e57]
        conv in (List.getD _ 0 default) => whnf
        refine EXs.cons (EX.ifF (b := Txt.slice r none (some 3) != "257") (S₁ := S) ?_ h1' EXs.nil) ?_
        · repeat' array_get_dec
        conv in (List.getD _ 1 default) => whnf
        refine EXs.cons (EX.ifF (b := Txt.slice r (some 3) (some 5) != " \"") (S₁ := S) ?_ h2' EXs.nil) ?_
        · repeat' array_get_dec
        conv in (List.getD _ 2 default) => whnf
        conv in (List.getD _ 3 default) => whnf
        conv in (List.getD _ 4 default) => whnf
        conv in (List.getD _ 6 default) => whnf
        refine EXs.asg nm hk (p := .str "") (S₁ := S) (by repeat' array_get_dec) (.tl .hd) rfl (EXs.asg nm hk (p := .int ((5 : Nat) : Int)) (S₁ := S) EV.int (.tl (.tl .hd)) rfl (EXs.asg nm hk (p := .int r.length) (S₁ := S) ?_ (.tl (.tl (.tl .hd))) rfl (EXs.cons hW ?_)))
        · repeat' array_get_dec
        · repeat' array_get_dec
  · have hz : r.length ≤ sizeLine := Nat.le_trans hr (Nat.le_of_ble_eq_true rfl)
    refine FN.goR (as := ["resp"]) (ys := ["dirname", "i", "n", "c"]) D rfl fun L => ?_
    have hk := kinds 6 x57 (by decide +kernel) (env := fenv fd f L) hs
    have hge : (fenv fd f L).kindOf "error_reply" = some .globalImplicit := by unfold Env.kindOf; show fd.scope.names.lookup _ = _; rw [hs]; decide +kernel
    generalize fenv fd f L = env at hk hge
    have nm := nm57
    show EXsR prog w mg G k env (V x57 [some (.str r), none, none, none, none]) S (bd 6) C₁ S
    unfold p257 at hx
    by_cases h1 : (Txt.slice r none (some 3) != "257") = true
    · conv in (bd 6) => whnf
      refine EXsR.here (EXR.ifT (b := Txt.slice r none (some 3) != "257") (S₁ := S) ?_ h1 (EXsR.here (EXR.raise T2.o1 hge (ps := [.str r]) ?_ (by decide) (Nat.le_of_ble_eq_true rfl))))
      · repeat' array_get_dec
      · repeat' array_get_dec
    · rw [if_neg h1] at hx
      by_cases h2 : (Txt.slice r (some 3) (some 5) != " \"") = true
      · rw [if_pos h2] at hx; cases hx
      · rw [if_neg h2] at hx; cases hx
end
set_option tactic.hygienic true

/-! parse229 -/
section
variable {prog : Program} {w : World} {mg : Str → Option Value} {G : Heap} {k : Nat} {S : List PO}
theorem OPL.find {x y : Str} : OPL prog w mg G k S [.str x, .str y] (fun vs => PySem.call (.builtin "str.find") vs) (.int (Txt.find x y)) S := Lock.mk fun A σ s vs _ _ _ R V0 Q E H => by
  obtain ⟨v, vs, rfl, V, V0⟩ := V0.uncons
  obtain ⟨u, vs, rfl, U, V0⟩ := V0.uncons
  rw [V0.unnil]
  (first | (obtain ⟨_, rfl⟩ := VR.inv V) | (obtain rfl := VR.inv V)); (first | (obtain ⟨_, rfl⟩ := VR.inv U) | (obtain rfl := VR.inv U))
  exact call_gives PySem.F.slot_str_find (typeIs_str _ _ _) PySem.F.entry_str_find (PySem.F.args_str_find_2 _ _) (gives_str_find _ _ _ _) (H _ σ s.heap _ R Ext.refl (.int _ _))
theorem OPL.find3 {x y : Str} {i : Int} : OPL prog w mg G k S [.str x, .str y, .int i] (fun vs => PySem.call (.builtin "str.find") vs) (.int (Txt.find3 x y i)) S := Lock.mk fun A σ s vs _ _ _ R V0 Q E H => by
  obtain ⟨v, vs, rfl, V, V0⟩ := V0.uncons
  obtain ⟨u, vs, rfl, U, V0⟩ := V0.uncons
  obtain ⟨z, vs, rfl, Z, V0⟩ := V0.uncons
  rw [V0.unnil]
  (first | (obtain ⟨_, rfl⟩ := VR.inv V) | (obtain rfl := VR.inv V)); (first | (obtain ⟨_, rfl⟩ := VR.inv U) | (obtain rfl := VR.inv U)); cases Z
  exact PySem.SC.find3 (H _ σ s.heap _ R Ext.refl (.int _ _))
theorem VRs.strs {σ : Lo} {N : Nat} {h : Heap} : ∀ (tk : Nat) (xs : List Str), VRs σ N h (strsFrom tk xs).toArray (xs.map .str)
  | tk, [] => VRs.nil
  | tk, x :: r => .cons (.str x tk) (VRs.strs (tk + 1) r)
theorem OPL.split {x y : Str} (h1 : (decide (x.length < y.length) || decide (Builtin.Str.strKind x < Builtin.Str.strKind y)) = false) (hy : (y.length == 0) = false) (hf : (Builtin.Str.occurrences x y 0 x.length (x.length + 1)).isEmpty = false) (hz : x.length + 2 ≤ sizeLine) :
    OPL prog w mg G k S [.str x, .str y] (fun vs => PySem.call (.builtin "str.split") vs) (.obj S.length) (S ++ [.list ((Txt.split x y).map .str)]) := Lock.mk fun A σ s vs _ _ _ R V0 Q E H => by
  obtain ⟨v, vs, rfl, V, V0⟩ := V0.uncons
  obtain ⟨u, vs, rfl, U, V0⟩ := V0.uncons
  rw [V0.unnil]
  (first | (obtain ⟨_, rfl⟩ := VR.inv V) | (obtain rfl := VR.inv V)); (first | (obtain ⟨_, rfl⟩ := VR.inv U) | (obtain rfl := VR.inv U))
  rename_i t u _
  have hn : (Builtin.Str.partsBetween x (Builtin.Str.occurrences x y 0 x.length (x.length + 1)) y.length).length ≤ sizeLine := by
    have e1 := PySem.StrLaws.occ_length_le x y 0 x.length (x.length + 1)
    rw [PySem.length_partsBetween]; omega
  have e : Txt.split x y = Builtin.Str.partsBetween x (Builtin.Str.occurrences x y 0 x.length (x.length + 1)) y.length := by
    unfold Txt.split
    rw [if_neg (by rw [h1]; simp), if_neg (by rw [hf]; simp)]
  refine call_meets PySem.F.slot_str_split (typeIs_str _ _ _) PySem.F.entry_str_split (PySem.F.args_str_split_2 _ _) (meets_str_split_sep x y t u h1 hy hf (by omega) hn) ?_
  show wants Q E _ { s with toks := _, heap := s.heap.push { cls := .type "list", data := .seq (strsFrom s.toks (Builtin.Str.partsBetween x (Builtin.Str.occurrences x y 0 x.length (x.length + 1)) y.length)).toArray } }
  rw [e] at H
  obtain ⟨R', X', V'⟩ := newListAt (A := A) R (VRs.strs (σ := σ) (N := S.length) (h := s.heap) s.toks (Builtin.Str.partsBetween x (Builtin.Str.occurrences x y 0 x.length (x.length + 1)) y.length)) rfl
  exact H _ _ _ _ R' X' V'
theorem OPL.intS {x : Str} {n : Int} (hn : PySem.intText? x = some n) (hl : x.length ≤ 640) : OPL prog w mg G k S [.str x] (fun vs => PySem.call (.type "int") vs) (.int n) S := Lock.mk fun A σ s vs _ _ _ R V0 Q E H => by
  obtain ⟨v, vs, rfl, V, V0⟩ := V0.uncons
  rw [V0.unnil]
  (first | (obtain ⟨_, rfl⟩ := VR.inv V) | (obtain rfl := VR.inv V))
  exact KIN.call_text hn hl (H _ σ s.heap _ R Ext.refl (.int _ _))
end
noncomputable def chI (r : Str) (i : Int) : Option Nat := (seqIndex? i r.length).bind (r.cps[·]?)
inductive R229 where
  | reply | proto | ok (n : Int)
  deriving DecidableEq
noncomputable def lf (r : Str) : Int := Txt.find r "("
noncomputable def rt (r : Str) : Int := Txt.find3 r ")" (lf r + 1)
noncomputable def x29s (r : Str) : Str := Txt.slice r (some (lf r + 1)) (some (rt r))
noncomputable def p229 (r : Str) : Option R229 :=
  if (Txt.slice r none (some 3) != "229") = true then some .reply else
  if lf r < 0 then some .proto else
  if rt r < 0 then some .proto else
  if lf r ≤ 2000 ∧ rt r ≤ 2000 then
    match chI r (lf r + 1), chI r (rt r - 1) with
    | some a, some b => if (sgn a != sgn b) = true then some .proto else
      if (decide ((x29s r).length < (sgn a).length) || decide (Builtin.Str.strKind (x29s r) < Builtin.Str.strKind (sgn a))) = false ∧ (Builtin.Str.occurrences (x29s r) (sgn a) 0 (x29s r).length ((x29s r).length + 1)).isEmpty = false ∧ (x29s r).length ≤ 1000 then
        if (((Txt.split (x29s r) (sgn a)).length : Int) != 5) = true then some .proto else
        match (Txt.split (x29s r) (sgn a))[3]? with
        | some p => if p.length ≤ 640 then (PySem.intText? p).map .ok else none
        | none => none
      else none
    | _, _ => none
  else none
noncomputable abbrev x29 : List Str := ["resp", "peer", "left", "right", "parts", "host", "port"]
theorem nm29 : Nm x29 := ⟨by decide +kernel, by decide +kernel⟩
noncomputable def s29 (i : Nat) : Stmt := (bd 5).getD i default
theorem bd5 : bd 5 = [s29 0, s29 1, s29 2, s29 3, s29 4, s29 5, s29 6, s29 7, s29 8, s29 9, s29 10] := rfl
noncomputable abbrev peerP : PV := .tup [.str "host", .int 21]
section
variable {prog : Program} {w : World} {mg : Str → Option Value} {G : Heap} {k : Nat} {env : Env}
structure E29 (env : Env) : Prop where
  hk : ∀ x ∈ x29, env.kindOf x = some .local ∨ env.kindOf x = some .cell
  gl : env.kindOf "len" = some .globalImplicit
  gi : env.kindOf "int" = some .globalImplicit
  gr : env.kindOf "error_reply" = some .globalImplicit
  gp : env.kindOf "error_proto" = some .globalImplicit
theorem a29 (he : E29 env) {S : List PO} {r : Str} (hz : r.length ≤ sizeLine) (h1 : (Txt.slice r none (some 3) != "229") = false) : 
    EX prog w mg G k env (V x29 [some (.str r), some peerP, none, none, none, none, none]) S (s29 0) (.next (V x29 [some (.str r), some peerP, none, none, none, none, none]) S) ∧
    EX prog w mg G k env (V x29 [some (.str r), some peerP, none, none, none, none, none]) S (s29 1) (.next (V x29 [some (.str r), some peerP, some (.int (lf r)), none, none, none, none]) S) := by
  have nm := nm29
  obtain ⟨hk, gl, gi, gr, gp⟩ := he
  have hf : OPL prog w mg G k S [.str r, .str "("] (fun vs => PySem.call (.builtin "str.find") vs) (.int (lf r)) S := OPL.find
  refine ⟨?_, ?_⟩
  · conv in (s29 0) => whnf
    refine EX.ifF (b := Txt.slice r none (some 3) != "229") (S₁ := S) ?_ h1 EXs.nil
    repeat' array_get_dec
  · conv in (s29 1) => whnf
    refine EX.asg nm hk (p := .int (lf r)) (S₁ := S) ?_ (.tl (.tl .hd)) rfl
    refine EV.meth (S₁ := S) (S₂ := S) (p := .str r) (ps := [.str "("]) ?_ (MT.str PySem.F.slot_str_find PySem.F.type_str_find) ?_ hf
    · repeat' array_get_dec
    · repeat' array_get_dec
theorem b29 (he : E29 env) {S : List PO} {r : Str} (h1 : ¬ lf r < 0) : 
    EX prog w mg G k env (V x29 [some (.str r), some peerP, some (.int (lf r)), none, none, none, none]) S (s29 2) (.next (V x29 [some (.str r), some peerP, some (.int (lf r)), none, none, none, none]) S) ∧
    EX prog w mg G k env (V x29 [some (.str r), some peerP, some (.int (lf r)), none, none, none, none]) S (s29 3) (.next (V x29 [some (.str r), some peerP, some (.int (lf r)), some (.int (rt r)), none, none, none]) S) := by
  have nm := nm29
  obtain ⟨hk, gl, gi, gr, gp⟩ := he
  have hf : OPL prog w mg G k S [.str r, .str ")", .int (lf r + 1)] (fun vs => PySem.call (.builtin "str.find") vs) (.int (rt r)) S := OPL.find3
  refine ⟨?_, ?_⟩
  · conv in (s29 2) => whnf
    refine EX.ifF (b := decide (lf r < 0)) (S₁ := S) ?_ (decide_eq_false h1) EXs.nil
    repeat' array_get_dec
  · conv in (s29 3) => whnf
    refine EX.asg nm hk (p := .int (rt r)) (S₁ := S) ?_ (.tl (.tl (.tl .hd))) rfl
    refine EV.meth (S₁ := S) (S₂ := S) (p := .str r) (ps := [.str ")", .int (lf r + 1)]) ?_ (MT.str PySem.F.slot_str_find PySem.F.type_str_find) ?_ hf
    · repeat' array_get_dec
    · repeat' array_get_dec
theorem c29 (he : E29 env) {S : List PO} {r : Str} (hz : r.length ≤ 1000) (h1 : ¬ rt r < 0) {a b : Nat} (ha : chI r (lf r + 1) = some a) (hb : chI r (rt r - 1) = some b) (hl1 : -1 ≤ lf r ∧ lf r ≤ 2000) (hl2 : -1 ≤ rt r ∧ rt r ≤ 2000) : 
    EX prog w mg G k env (V x29 [some (.str r), some peerP, some (.int (lf r)), some (.int (rt r)), none, none, none]) S (s29 4) (.next (V x29 [some (.str r), some peerP, some (.int (lf r)), some (.int (rt r)), none, none, none]) S) ∧
    EB prog w mg G k env (V x29 [some (.str r), some peerP, some (.int (lf r)), some (.int (rt r)), none, none, none]) S (testOf (s29 5)) (sgn a != sgn b) S := by
  have nm := nm29
  obtain ⟨hk, gl, gi, gr, gp⟩ := he
  have hsa : SUB prog w mg G k S (.str r) (.int (lf r + 1)) (.str (sgn a)) S := SUB.str (by omega) (by omega) ha
  have hsb : SUB prog w mg G k S (.str r) (.int (rt r - 1)) (.str (sgn b)) S := SUB.str (by omega) (by omega) hb
  refine ⟨?_, ?_⟩
  · conv in (s29 4) => whnf
    refine EX.ifF (b := decide (rt r < 0)) (S₁ := S) ?_ (decide_eq_false h1) EXs.nil
    repeat' array_get_dec
  · sizeOf_list_dec
    repeat' array_get_dec
theorem d29 (he : E29 env) {S : List PO} {r : Str} (hz : r.length ≤ 1000) {a : Nat} (ha : chI r (lf r + 1) = some a) (hl1 : -1 ≤ lf r ∧ lf r ≤ 2000) (hs : (decide ((x29s r).length < (sgn a).length) || decide (Builtin.Str.strKind (x29s r) < Builtin.Str.strKind (sgn a))) = false) (ho : (Builtin.Str.occurrences (x29s r) (sgn a) 0 (x29s r).length ((x29s r).length + 1)).isEmpty = false) (hx : (x29s r).length ≤ 1000) :
    EX prog w mg G k env (V x29 [some (.str r), some peerP, some (.int (lf r)), some (.int (rt r)), none, none, none]) S (s29 6) (.next (V x29 [some (.str r), some peerP, some (.int (lf r)), some (.int (rt r)), some (.obj S.length), none, none]) (S ++ [.list ((Txt.split (x29s r) (sgn a)).map .str)])) := by
  have nm := nm29
  have hb : (3000 : Nat) ≤ sizeLine := Nat.le_of_ble_eq_true rfl
  have hz' : r.length ≤ sizeLine := by omega
  obtain ⟨hk, gl, gi, gr, gp⟩ := he
  have hsa : SUB prog w mg G k S (.str r) (.int (lf r + 1)) (.str (sgn a)) S := SUB.str (by omega) (by omega) ha
  have hf : OPL prog w mg G k S [.str (x29s r), .str (sgn a)] (fun vs => PySem.call (.builtin "str.split") vs) (.obj S.length) (S ++ [.list ((Txt.split (x29s r) (sgn a)).map .str)]) := OPL.split hs rfl ho (by omega)
  conv in (s29 6) => whnf
  refine EX.asg nm hk (p := .obj S.length) (S₁ := S ++ [.list ((Txt.split (x29s r) (sgn a)).map .str)]) ?_ (.tl (.tl (.tl (.tl .hd)))) ?_
  rotate_left
  · exact rfl
  refine EV.meth (S₁ := S) (S₂ := S) (p := .str (x29s r)) (ps := [.str (sgn a)]) ?_ (MT.str PySem.F.slot_str_split PySem.F.type_str_split) ?_ hf
  · unfold x29s
    repeat' array_get_dec
  · repeat' array_get_dec
theorem split_len (T : Top mg G) (he : E29 env) {S : List PO} {r : Str} {L : List PV} (hL : L.length ≤ sizeLine) :
    EB prog w mg G k env (V x29 [some (.str r), some peerP, some (.int (lf r)), some (.int (rt r)), some (.obj S.length), none, none]) (S ++ [.list L]) (testOf (s29 7)) ((L.length : Int) != 5) (S ++ [.list L]) := by
  have nm := nm29
  obtain ⟨hk, gl, gi, gr, gp⟩ := he
  have hlen : OPL prog w mg G k (S ++ [.list L]) [.obj S.length] (fun vs => PySem.call (.builtin "len") vs) (.int L.length) (S ++ [.list L]) := OPL.lenL lastGet hL
  sizeOf_list_dec
  repeat' array_get_dec

theorem parse229_ok {C₁ C₂ : Addr} (T : Top mg G) (T2 : TwoCls mg G C₁ C₂) : ∃ f, mg "parse229" = some (.ref f) ∧ Kp G (.ref f) ∧ ∀ (k : Nat) (S : List PO) (r : Str), r.length ≤ 1000 →
    (∀ n, p229 r = some (.ok n) → ∃ X, OPL prog w mg G (k + 1) S [.str r, peerP] (fun vs => PySem.call (.ref f) vs) (.tup [.str "host", .int n]) (S ++ X)) ∧
    (p229 r = some .reply → OPR prog w mg G (k + 1) S [.str r, peerP] (fun vs => PySem.call (.ref f) vs) C₁ S) ∧
    (p229 r = some .proto → ∃ X, OPR prog w mg G (k + 1) S [.str r, peerP] (fun vs => PySem.call (.ref f) vs) C₂ (S ++ X)) := by
  obtain ⟨f, fd, hm, D, hs⟩ := T.fn 5 (by decide)
  refine ⟨f, hm, D.kp, fun k S r hr => ?_⟩
  have hz : r.length ≤ sizeLine := Nat.le_trans hr (Nat.le_of_ble_eq_true rfl)
  have hE : ∀ L, E29 (fenv fd f L) := fun L => by
    refine ⟨kinds 5 x29 (by decide +kernel) (env := fenv fd f L) hs, ?_, ?_, ?_, ?_⟩ <;> (unfold Env.kindOf; show fd.scope.names.lookup _ = _; rw [hs]; decide +kernel)
  have raiseP : ∀ {env : Env} {vs : List (Option PV)} {S : List PO} {st : Stmt}, E29 env → At x29 vs "resp" (some (.str r)) → (∀ b, EB prog w mg G k env (V x29 vs) S (testOf st) b S → b = true → st ∈ [s29 2, s29 4, s29 5, s29 7] → EXR prog w mg G k env (V x29 vs) S st C₂ S) := by
    intro env vs S st he hat b hb hbt hst
    have nm := nm29
    have key : ∀ {np cp pos rp}, EXsR prog w mg G k env (V x29 vs) S [.Raise (some (.Call (.Name "error_proto" np) [.Name "resp" rp] [] cp)) none pos] C₂ S := fun {np cp pos rp} =>
      EXsR.here (EXR.raise T2.o2 he.gp (ps := [.str r]) (ELs.cons (EV.nm nm hat) ELs.nil) (by decide) (Nat.le_of_ble_eq_true rfl))
    simp only [List.mem_cons, List.not_mem_nil, or_false] at hst
    rcases hst with rfl | rfl | rfl | rfl
    · exact EXR.ifT hb hbt key
    · exact EXR.ifT hb hbt key
    · exact EXR.ifT hb hbt key
    · exact EXR.ifT hb hbt key
  have hbb : (3000 : Nat) ≤ sizeLine := Nat.le_of_ble_eq_true rfl
  have lo : ∀ x y, -1 ≤ Txt.find x y := fun x y => by unfold Txt.find; split <;> omega
  have lo3 : ∀ x y i, -1 ≤ Txt.find3 x y i := fun x y i => by unfold Txt.find3; split <;> omega
  have lol := lo r "("
  have lor := lo3 r ")" (lf r + 1)
  refine ⟨fun n hn => ?_, fun hn => ?_, fun hn => ?_⟩
  · unfold p229 at hn
    split at hn
    · cases hn
    rename_i h1
    split at hn
    · cases hn
    rename_i h2
    split at hn
    · cases hn
    rename_i h3
    split at hn
    rotate_left
    · cases hn
    rename_i h4
    split at hn
    rotate_left
    · cases hn
    rename_i a b ha hb
    split at hn
    · cases hn
    rename_i h5
    split at hn
    rotate_left
    · cases hn
    rename_i h6
    split at hn
    · cases hn
    rename_i h7
    split at hn
    rotate_left
    · cases hn
    rename_i q hq
    split at hn
    rotate_left
    · cases hn
    rename_i h8
    obtain ⟨v, hv, hvn⟩ := Option.map_eq_some_iff.mp hn
    cases hvn
    refine ⟨[.list ((Txt.split (x29s r) (sgn a)).map .str)], ?_⟩
    refine FN.go (as := ["resp", "peer"]) (ys := ["left", "right", "parts", "host", "port"]) D rfl fun L => ?_
    have he := hE L
    generalize fenv fd f L = env at he
    have nm := nm29
    show EXs prog w mg G k env (V x29 [some (.str r), some peerP, none, none, none, none, none]) S (bd 5) _
    rw [bd5]
    obtain ⟨A0, A1⟩ := a29 (prog := prog) (w := w) (mg := mg) (G := G) (k := k) he (S := S) hz (by simpa using h1)
    obtain ⟨B0, B1⟩ := b29 (prog := prog) (w := w) (mg := mg) (G := G) (k := k) he (S := S) (r := r) h2
    obtain ⟨C0, C1⟩ := c29 (prog := prog) (w := w) (mg := mg) (G := G) (k := k) he (S := S) hr h3 ha hb ⟨lol, h4.1⟩ ⟨lor, h4.2⟩
    have D0 := d29 (prog := prog) (w := w) (mg := mg) (G := G) (k := k) he (S := S) hr ha ⟨lol, h4.1⟩ h6.1 h6.2.1 h6.2.2
    have h5' : (sgn a != sgn b) = false := by simpa using h5
    rw [h5'] at C1
    have h7' : (((Txt.split (x29s r) (sgn a)).length : Int) != 5) = false := by simpa using h7
    have h7l : (Txt.split (x29s r) (sgn a)).length = 5 := by
      have : ((Txt.split (x29s r) (sgn a)).length : Int) = 5 := by simpa using h7
      omega
    have D1 := split_len (prog := prog) (w := w) (mg := mg) (G := G) (k := k) T he (S := S) (r := r) (L := (Txt.split (x29s r) (sgn a)).map .str) (by rw [List.length_map, h7l]; omega)
    rw [List.length_map, h7'] at D1
    have hint : OPL prog w mg G k (S ++ [.list ((Txt.split (x29s r) (sgn a)).map .str)]) [.str q] (fun vs => PySem.call (.type "int") vs) (.int n) (S ++ [.list ((Txt.split (x29s r) (sgn a)).map .str)]) := OPL.intS hv h8
    have hsub : SUB prog w mg G k (S ++ [.list ((Txt.split (x29s r) (sgn a)).map .str)]) (.obj S.length) (.int 3) (.str q) (S ++ [.list ((Txt.split (x29s r) (sgn a)).map .str)]) := SUB.list lastGet (by decide) (by decide) (j := 3) (by rw [List.length_map, h7l]; rfl) (by rw [List.getElem?_map, hq]; rfl)
    have hsub0 : SUB prog w mg G k (S ++ [.list ((Txt.split (x29s r) (sgn a)).map .str)]) peerP (.int 0) (.str "host") (S ++ [.list ((Txt.split (x29s r) (sgn a)).map .str)]) := SUB.tup (by decide) (by decide) (j := 0) rfl rfl
    refine EXs.cons A0 (EXs.cons A1 (EXs.cons B0 (EXs.cons B1 (EXs.cons C0 (EXs.cons (ρ₁ := V x29 [some (.str r), some peerP, some (.int (lf r)), some (.int (rt r)), none, none, none]) (S₁ := S) (EX.ifF (b := false) C1 rfl EXs.nil) (EXs.cons D0 (EXs.cons (EX.ifF (b := false) D1 rfl EXs.nil) ?_)))))))
    generalize S ++ [PO.list ((Txt.split (x29s r) (sgn a)).map .str)] = S2 at *
    obtain ⟨hk, gl, gi, gr, gp⟩ := he
    conv in (s29 8) => whnf
    conv in (s29 9) => whnf
    conv in (s29 10) => whnf
    refine EXs.asg nm hk (p := .str "host") (S₁ := S2) ?_ (.tl (.tl (.tl (.tl (.tl .hd))))) rfl (EXs.asg nm hk (p := .int n) (S₁ := S2) ?_ (.tl (.tl (.tl (.tl (.tl (.tl .hd)))))) rfl ?_)
    · repeat' array_get_dec
    · refine EV.callB T gi (by decide) rfl Kp.type (ELs.cons (p := .str q) (S₁ := S2) ?_ ELs.nil) hint
      repeat' array_get_dec
    · repeat' array_get_dec
  · unfold p229 at hn
    split at hn
    · rename_i h1
      refine FN.goR (as := ["resp", "peer"]) (ys := ["left", "right", "parts", "host", "port"]) D rfl fun L => ?_
      have he := hE L
      generalize fenv fd f L = env at he
      have nm := nm29
      show EXsR prog w mg G k env (V x29 [some (.str r), some peerP, none, none, none, none, none]) S (bd 5) C₁ S
      rw [bd5]
      obtain ⟨hk, gl, gi, gr, gp⟩ := he
      conv in (s29 0) => whnf
      refine EXsR.here (EXR.ifT (b := Txt.slice r none (some 3) != "229") (S₁ := S) ?_ h1 (EXsR.here (EXR.raise T2.o1 gr (ps := [.str r]) ?_ (by decide) (Nat.le_of_ble_eq_true rfl))))
      · repeat' array_get_dec
      · repeat' array_get_dec
    · exfalso
      repeat' split at hn
      all_goals first | (cases hn; done) | skip
      all_goals (obtain ⟨v, hv, hvn⟩ := Option.map_eq_some_iff.mp hn; cases hvn)
  · unfold p229 at hn
    split at hn
    · cases hn
    rename_i h1
    have start : ∀ {env : Env}, E29 env → _ := fun {env} he => a29 (prog := prog) (w := w) (mg := mg) (G := G) (k := k) (env := env) he (S := S) hz (by simpa using h1)
    have enter : ∀ X, (∀ env, E29 env → EXsR prog w mg G k env (V x29 [some (.str r), some peerP, some (.int (lf r)), none, none, none, none]) S [s29 2, s29 3, s29 4, s29 5, s29 6, s29 7, s29 8, s29 9, s29 10] C₂ (S ++ X)) → ∃ X, OPR prog w mg G (k + 1) S [.str r, peerP] (fun vs => PySem.call (.ref f) vs) C₂ (S ++ X) := fun X h => by
      refine ⟨X, ?_⟩
      refine FN.goR (as := ["resp", "peer"]) (ys := ["left", "right", "parts", "host", "port"]) D rfl fun L => ?_
      have he := hE L
      generalize fenv fd f L = env at he
      show EXsR prog w mg G k env (V x29 [some (.str r), some peerP, none, none, none, none, none]) S (bd 5) C₂ (S ++ X)
      rw [bd5]
      exact EXsR.cons (start he).1 (EXsR.cons (start he).2 (h env he))
    split at hn
    · rename_i h2
      refine enter [] fun env he => ?_
      rw [List.append_nil]
      refine EXsR.here (raiseP he .hd (decide (lf r < 0)) ?_ (decide_eq_true h2) (by simp))
      have nm := nm29
      sizeOf_list_dec
      repeat' array_get_dec
    rename_i h2
    split at hn
    · rename_i h3
      refine enter [] fun env he => ?_
      rw [List.append_nil]
      obtain ⟨B0, B1⟩ := b29 (prog := prog) (w := w) (mg := mg) (G := G) (k := k) he (S := S) (r := r) h2
      refine EXsR.cons B0 (EXsR.cons B1 (EXsR.here (raiseP he .hd (decide (rt r < 0)) ?_ (decide_eq_true h3) (by simp))))
      have nm := nm29
      sizeOf_list_dec
      repeat' array_get_dec
    rename_i h3
    split at hn
    rotate_left
    · cases hn
    rename_i h4
    split at hn
    rotate_left
    · cases hn
    rename_i a b ha hb
    split at hn
    · rename_i h5
      refine enter [] fun env he => ?_
      rw [List.append_nil]
      obtain ⟨B0, B1⟩ := b29 (prog := prog) (w := w) (mg := mg) (G := G) (k := k) he (S := S) (r := r) h2
      obtain ⟨C0, C1⟩ := c29 (prog := prog) (w := w) (mg := mg) (G := G) (k := k) he (S := S) hr h3 ha hb ⟨lol, h4.1⟩ ⟨lor, h4.2⟩
      exact EXsR.cons B0 (EXsR.cons B1 (EXsR.cons C0 (EXsR.here (raiseP he .hd _ C1 h5 (by simp)))))
    rename_i h5
    split at hn
    rotate_left
    · cases hn
    rename_i h6
    split at hn
    · rename_i h7
      refine enter [.list ((Txt.split (x29s r) (sgn a)).map .str)] fun env he => ?_
      obtain ⟨B0, B1⟩ := b29 (prog := prog) (w := w) (mg := mg) (G := G) (k := k) he (S := S) (r := r) h2
      obtain ⟨C0, C1⟩ := c29 (prog := prog) (w := w) (mg := mg) (G := G) (k := k) he (S := S) hr h3 ha hb ⟨lol, h4.1⟩ ⟨lor, h4.2⟩
      have D0 := d29 (prog := prog) (w := w) (mg := mg) (G := G) (k := k) he (S := S) hr ha ⟨lol, h4.1⟩ h6.1 h6.2.1 h6.2.2
      have h5' : (sgn a != sgn b) = false := by simpa using h5
      rw [h5'] at C1
      have hsz : (Txt.split (x29s r) (sgn a)).length ≤ sizeLine := by
        have e1 := PySem.StrLaws.occ_length_le (x29s r) (sgn a) 0 (x29s r).length ((x29s r).length + 1)
        unfold Txt.split
        rw [if_neg (by rw [h6.1]; simp), if_neg (by rw [h6.2.1]; simp), PySem.length_partsBetween]
        have := h6.2.2
        omega
      have D1 := split_len (prog := prog) (w := w) (mg := mg) (G := G) (k := k) T he (S := S) (r := r) (L := (Txt.split (x29s r) (sgn a)).map .str) (by rw [List.length_map]; exact hsz)
      rw [List.length_map] at D1
      exact EXsR.cons B0 (EXsR.cons B1 (EXsR.cons C0 (EXsR.cons (ρ₁ := V x29 [some (.str r), some peerP, some (.int (lf r)), some (.int (rt r)), none, none, none]) (S₁ := S) (EX.ifF (b := false) C1 rfl EXs.nil) (EXsR.cons D0 (EXsR.here (raiseP he .hd _ D1 h7 (by simp)))))))
    · exfalso
      repeat' split at hn
      all_goals first | (cases hn; done) | skip
      all_goals (obtain ⟨v, hv, hvn⟩ := Option.map_eq_some_iff.mp hn; cases hvn)
end
set_option tactic.hygienic false

/-! _law_heard -/
noncomputable abbrev x22 : List Str := ["first", "second"]
theorem nm22 : Nm x22 := ⟨by decide +kernel, by decide +kernel⟩
section
variable {prog : Program} {w : World} {mg : Str → Option Value} {G : Heap} {k : Nat}
theorem heard_ok {C₁ C₂ : Addr} (T : Top mg G) (T2 : TwoCls mg G C₁ C₂) : ∃ f, mg "_law_heard" = some (.ref f) ∧ Kp G (.ref f) ∧ ∀ (k : Nat) (S : List PO) (r1 r2 : Str), r1.length ≤ 1000 → r2.length ≤ 1000 →
    (∀ x n, p257 r1 = some x → p229 r2 = some (.ok n) → ∃ X, OPL prog w mg G (k + 2) S [.str r1, .str r2] (fun vs => PySem.call (.ref f) vs) (.tup [.str x, .tup [.str "host", .int n]]) (S ++ X)) ∧
    (p257 r1 = none → OPL prog w mg G (k + 2) S [.str r1, .str r2] (fun vs => PySem.call (.ref f) vs) (.str "reply") S) ∧
    (∀ x, p257 r1 = some x → p229 r2 = some .reply → OPL prog w mg G (k + 2) S [.str r1, .str r2] (fun vs => PySem.call (.ref f) vs) (.str "reply") S) ∧
    (∀ x, p257 r1 = some x → p229 r2 = some .proto → ∃ X, OPL prog w mg G (k + 2) S [.str r1, .str r2] (fun vs => PySem.call (.ref f) vs) (.str "proto") (S ++ X)) := by
  obtain ⟨f, fd, hm, D, hs⟩ := T.fn 22 (by decide)
  obtain ⟨f5, m5, K5, c5⟩ := parse257_ok (prog := prog) (w := w) T T2
  obtain ⟨f9, m9, K9, c9⟩ := parse229_ok (prog := prog) (w := w) T T2
  refine ⟨f, hm, D.kp, fun k S r1 r2 z1 z2 => ?_⟩
  obtain ⟨v5, n5⟩ := c5 k S r1 z1
  obtain ⟨v9, y9, p9⟩ := c9 k S r2 z2
  have h5 : ∀ L, (fenv fd f L).kindOf "parse257" = some .globalImplicit := fun L => by unfold Env.kindOf; show fd.scope.names.lookup _ = _; rw [hs]; decide +kernel
  have h9 : ∀ L, (fenv fd f L).kindOf "parse229" = some .globalImplicit := fun L => by unfold Env.kindOf; show fd.scope.names.lookup _ = _; rw [hs]; decide +kernel
  have k1 : fd.scope.names.lookup (Str.ofString "error_reply") = some .globalImplicit := by rw [hs]; decide +kernel
  have k2 : fd.scope.names.lookup (Str.ofString "error_proto") = some .globalImplicit := by rw [hs]; decide +kernel
  have nm := nm22
  have D' := D
  conv at D' in (bd 22) => whnf
  refine ⟨fun x n hx hn => ?_, fun hx => ?_, fun x hx hn => ?_, fun x hx hn => ?_⟩
  · obtain ⟨X, hX⟩ := v9 n hn
    have hA := v5 x hx
    refine ⟨X, ?_⟩
    refine FN.go (as := ["first", "second"]) (ys := []) D' rfl fun L => ?_
    have h5 := h5 L
    have h9 := h9 L
    generalize fenv fd f L = env at h5 h9
    show EXs prog w mg G (k + 1) env (V x22 [some (.str r1), some (.str r2)]) S _ _
    refine EXs.stop (EX.tryRet (EXs.stop (EX.ret (EV.tup (S₁ := S ++ X) (ELs.cons (S₁ := S) (p := .str x) (EV.callF h5 m5 K5 (ELs.cons (p := .str r1) (EV.nm nm .hd) ELs.nil) hA) (ELs.cons (p := .tup [.str "host", .int n]) (S₁ := S ++ X) (EV.callF h9 m9 K9 (ELs.cons (p := .str r2) (S₁ := S) (EV.nm nm (.tl .hd)) (ELs.cons (p := peerP) (S₁ := S) ?_ ELs.nil)) hX) ELs.nil)) (Nat.le_of_ble_eq_true rfl)))))
    repeat' array_get_dec
  · refine FN.caught (hit := true) D' rfl T2 rfl rfl k1 k2 fun L => ?_
    have h5 := h5 L
    have h9 := h9 L
    generalize fenv fd f L = env at h5 h9
    show EVR prog w mg G (k + 1) env (V x22 [some (.str r1), some (.str r2)]) S _ C₁ _
    exact EVR.tup (ELsR.here (EVR.callF h5 m5 K5 (ELs.cons (p := .str r1) (EV.nm nm .hd) ELs.nil) (n5 hx)))
  · refine FN.caught (hit := true) D' rfl T2 rfl rfl k1 k2 fun L => ?_
    have h5 := h5 L
    have h9 := h9 L
    generalize fenv fd f L = env at h5 h9
    show EVR prog w mg G (k + 1) env (V x22 [some (.str r1), some (.str r2)]) S _ C₁ _
    refine EVR.tup (ELsR.next (p := .str x) (S₁ := S) (EV.callF h5 m5 K5 (ELs.cons (p := .str r1) (EV.nm nm .hd) ELs.nil) (v5 x hx)) (ELsR.here (EVR.callF h9 m9 K9 (ELs.cons (p := .str r2) (S₁ := S) (EV.nm nm (.tl .hd)) (ELs.cons (p := peerP) (S₁ := S) ?_ ELs.nil)) (y9 hn))))
    repeat' array_get_dec
  · obtain ⟨X, hX⟩ := p9 hn
    refine ⟨X, ?_⟩
    refine FN.caught (hit := false) D' rfl T2 rfl rfl k1 k2 fun L => ?_
    have h5 := h5 L
    have h9 := h9 L
    generalize fenv fd f L = env at h5 h9
    show EVR prog w mg G (k + 1) env (V x22 [some (.str r1), some (.str r2)]) S _ C₂ _
    refine EVR.tup (ELsR.next (p := .str x) (S₁ := S) (EV.callF h5 m5 K5 (ELs.cons (p := .str r1) (EV.nm nm .hd) ELs.nil) (v5 x hx)) (ELsR.here (EVR.callF h9 m9 K9 (ELs.cons (p := .str r2) (S₁ := S) (EV.nm nm (.tl .hd)) (ELs.cons (p := peerP) (S₁ := S) ?_ ELs.nil)) hX)))
    repeat' array_get_dec

/-- what is heard of a way -/
noncomputable def dueOf (goal cost kind : Int) : PV :=
  if kind == 1 || kind == 3 then .str "reply" else if kind == 2 || kind == 5 || kind == 6 || kind == 7 then .str "proto" else .tup [.str (if kind == 0 then nameAt goal else ""), .tup [.str "host", .int cost]]
noncomputable def facts1 (goal kind : Int) : Bool := (rep1 goal kind).length ≤ 1000 && (if kind == 1 then p257 (rep1 goal kind) == none else p257 (rep1 goal kind) == some (if kind == 4 then ("" : Str) else nameAt goal))
noncomputable def facts2 (cost kind : Int) : Bool := (rep2 cost kind).length ≤ 1000 && (if kind == 3 then decide (p229 (rep2 cost kind) = some .reply) else if kind == 2 || kind == 5 || kind == 6 || kind == 7 then decide (p229 (rep2 cost kind) = some .proto) else decide (p229 (rep2 cost kind) = some (.ok cost)))
theorem all1 : ∀ g : Nat, g < 5 → ∀ k : Nat, k < 8 → facts1 g k = true := by decide +kernel
theorem all2 : ∀ c : Nat, c < 21 → 1 ≤ c → ∀ k : Nat, k < 8 → facts2 c k = true := by decide +kernel
theorem heardWay_ok {C₁ C₂ : Addr} (T : Top mg G) (T2 : TwoCls mg G C₁ C₂) : ∃ f, mg "_law_heard" = some (.ref f) ∧ Kp G (.ref f) ∧ ∀ (k : Nat) (S : List PO) (goal cost kind : Int), 0 ≤ goal → goal < 5 → 1 ≤ cost → cost ≤ 20 → 0 ≤ kind → kind < 8 →
    ∃ X, OPL prog w mg G (k + 2) S [.str (rep1 goal kind), .str (rep2 cost kind)] (fun vs => PySem.call (.ref f) vs) (dueOf goal cost kind) (S ++ X) := by
  obtain ⟨f, hm, K, c⟩ := heard_ok (prog := prog) (w := w) T T2
  refine ⟨f, hm, K, fun k S goal cost kind g0 g1 c0 c1 k0 k1 => ?_⟩
  have F1 := all1 goal.toNat (by omega) kind.toNat (by omega)
  have F2 := all2 cost.toNat (by omega) (by omega) kind.toNat (by omega)
  rw [Int.toNat_of_nonneg g0, Int.toNat_of_nonneg k0] at F1
  rw [Int.toNat_of_nonneg (by omega), Int.toNat_of_nonneg k0] at F2
  unfold facts1 at F1
  unfold facts2 at F2
  simp only [Bool.and_eq_true, decide_eq_true_eq] at F1 F2
  obtain ⟨z1, F1⟩ := F1
  obtain ⟨z2, F2⟩ := F2
  obtain ⟨d1, d2, d3, d4⟩ := c k S _ _ z1 z2
  have hk : kind = 0 ∨ kind = 1 ∨ kind = 2 ∨ kind = 3 ∨ kind = 4 ∨ kind = 5 ∨ kind = 6 ∨ kind = 7 := by omega
  rcases hk with rfl | rfl | rfl | rfl | rfl | rfl | rfl | rfl
  all_goals simp at F1 F2
  · exact d1 _ _ F1 F2
  · exact ⟨[], by rw [List.append_nil]; exact d2 F1⟩
  · exact d4 _ F1 F2
  · exact ⟨[], by rw [List.append_nil]; exact d3 _ F1 F2⟩
  · exact d1 _ _ F1 F2
  · exact d4 _ F1 F2
  · exact d4 _ F1 F2
  · exact d4 _ F1 F2
end
set_option tactic.hygienic true
set_option tactic.hygienic false
theorem md_get : typeLookup (.type "method_descriptor") "__get__" = pure (some (.builtin "method_descriptor.__get__")) := by rw [typeLookup_type, builtinLookup_eq_fast]; kernel_rfl
theorem md_set : typeLookup (.type "method_descriptor") "__set__" = pure none := by rw [typeLookup_type, builtinLookup_eq_fast]; kernel_rfl
theorem md_del : typeLookup (.type "method_descriptor") "__delete__" = pure none := by rw [typeLookup_type, builtinLookup_eq_fast]; kernel_rfl
theorem slot_mdget : Slot "method_descriptor" "__get__" "method_descriptor.__get__" :=
  .of (owner := "method_descriptor") (n := "__get__") (by rw [typeLookup_type, builtinLookup_eq_fast]; kernel_rfl) (by decide +kernel) (by decide +kernel) (by decide +kernel)
    (by first | exact .inl (by decide +kernel) | exact .inr (by decide +kernel)) (by rw [isSubtype_type]; kernel_rfl)
theorem entry_mdget : entryFor table "method_descriptor.__get__" = some Builtin.«method_descriptor.__get__» := entryFor_of_tree (by kernel_rfl)
theorem args_mdget (a b c : Value) : argsOk "method_descriptor.__get__" ⟨[a, b, c], []⟩ := by unfold argsOk; kernel_rfl
theorem owner_app : (kfb_private% "ownerAndName") "list.append" = ("list", "append") := by first | decide +kernel | kernel_rfl
theorem told_app : Manifest.toldItsClass.contains "list.append" = false := by decide +kernel
section
variable {prog : Program} {w : World} {M : Model} {A : Around} {E : Value → Shared → Prop} {s : Shared}
noncomputable def boundObj (id : String) (v : Value) : Obj := { cls := .type "builtin_function_or_method", data := .fields #[.builtin id, v] }
theorem run_mdget {a : Addr} {P : Fin → Shared → Prop} (hT : s.TypeIs (.ref a) "list") (h : P (.done (.ret (.ref s.heap.objs.size))) { s with heap := s.heap.push (boundObj "list.append" (.ref a)) }) :
    wpAny M A (Builtin.«method_descriptor.__get__» ⟨[.builtin "list.append", .ref a, .type "list"], []⟩) P E s := by
  unfold Builtin.«method_descriptor.__get__»
  refine wpAny_bind (wpAny_of_eq (a := (.builtin "list.append", some (.ref a), some (.type "list"))) (by first | rfl | kernel_rfl) ?_)
  dsimp only
  rw [told_app]
  simp only [Bool.false_eq_true, if_false]
  refine wpAny_bind (m := (kfb_private% "checkInstance") (.builtin "list.append") (.ref a)) ?_
  refine wpAny_bind (m := (kfb_private% "nameAndClass") (.builtin "list.append")) (wpAny_of_eq (a := (Str.ofString "append", .type "list")) ?_ ?_)
  · show (pure (Str.ofString ((kfb_private% "ownerAndName") "list.append").2, Value.type ((kfb_private% "ownerAndName") "list.append").1) : Sem (Str × Value)) = _
    rw [owner_app]
  dsimp only
  refine wpAny_bind (wpAny_isInstance hT (b := true) (by rw [isSubtype_type]; kernel_rfl) ?_)
  refine KFB.if_not rfl ?_
  refine wpAny_pure ?_
  exact wpAny_bind (wpAny_newObj_type (wpAny_pure h))

theorem meets_getattribute_append (a : Addr) (xs : Array Value) (k : Nat) (sl : Array (Option Value)) (u : Tok) :
    Meets (Builtin.«object.__getattribute__» ⟨[.ref a, .str "append" u], []⟩) (fun A R s => s.heap.get? a = some { cls := .type "list", dict := none, data := .seq xs k, slots := sl } ∧ R (.ok (.ret (.ref s.heap.objs.size))) { s with heap := s.heap.push (boundObj "list.append" (.ref a)) }) :=
  Meets.of_wp fun prog w A R s hs => by
    obtain ⟨hp, g, d, tk, os⟩ := s
    obtain ⟨hx, hs⟩ := hs
    have hT : (⟨hp, g, d, tk, os⟩ : Shared).TypeIs (.ref a) "list" := ⟨_, hx, rfl⟩
    have f1 := PySem.F.slot_list_append.lookup
    have f2 := md_get
    have f3 := md_set
    have f4 := md_del
    have f5 := PySem.F.type_list_append
    unfold Builtin.«object.__getattribute__»
    repeat (any_goals (first | assumption | ((with_reducible show wpAny _ _ (call (Value.builtin "method_descriptor.__get__") _ _) _ _ _); refine wpAny_call_entry slot_mdget PySem.F.type_list_append entry_mdget (run_mdget hT ?_) (args_mdget _ _ _)) | wp_step))
    exact ⟨_, rfl, wpAny_pure ⟨_, rfl, hs⟩⟩
theorem getAttr_append {a : Addr} {xs : Array Value} {k : Nat} {Q : Value → Shared → Prop}
    (hx : s.heap.get? a = some { cls := .type "list", data := .seq xs k })
    (h : ∀ tk, Q (.ref s.heap.objs.size) { s with heap := s.heap.push (boundObj "list.append" (.ref a)), toks := tk }) :
    wpAny (model prog w) A (getAttr (.ref a) "append" true) Q E s := by
  obtain ⟨hp, g, d, tk, os⟩ := s
  have hT : ∀ tk', (⟨hp, g, d, tk', os⟩ : Shared).TypeIs (.ref a) "list" := fun _ => ⟨_, hx, rfl⟩
  have f3 := PySem.F.slot_list_getattribute.lookup
  have f4 := PySem.F.slot_list_getattribute.bind (.ref a)
  have f5 := am_list_getattr_none
  unfold getAttr getAttrBy
  repeat (any_goals (first | assumption | exact hT _ | ((with_reducible show wpAny _ _ (call (Value.builtin "list.__getattribute__") _ _) _ _ _); refine call_meets PySem.F.slot_list_getattribute (hT _) am_entry_list_getattribute (PySem.F.args_list_getattribute_2 _ _) (meets_getattribute_append a xs k #[] _) ⟨hx, ?_⟩) | wp_step))
  exact wpAny_pure (h _)
theorem sig_app : Manifest.signature? "list.append" = some ⟨.oneArg, "list.append", "append", .self, [⟨"object", .posOnly, true⟩]⟩ := by kernel_rfl
theorem kind_app : builtinKind "list.append" = some .method := by decide +kernel
theorem last_app : Bind.lastOf "list.append" = "append" := by decide +kernel
theorem va_app : Manifest.varargsMethods.contains "list.append" = false := by decide +kernel
theorem list_nomod : isSubtype (.type "list") (.type "module") = pure false := by rw [isSubtype_type]; kernel_rfl
theorem list_notype : isSubtype (.type "list") (.type "type") = pure false := by rw [isSubtype_type]; kernel_rfl
theorem check_app {l : Addr} {o : Obj} {xs : Array Value} {n : Nat} {x : Value} {Q : Unit → Shared → Prop} (ho : s.heap.get? l = some o) (hc : o.cls = .type "list") (hd : o.data = .seq xs n) (h : Q () s) : wpAny M A (checkBoundCall "list.append" ⟨[.ref l, x], []⟩) Q E s := by
  obtain ⟨hp, g, d, tk, os⟩ := s
  have hT : (⟨hp, g, d, tk, os⟩ : Shared).TypeIs (.ref l) "list" := ⟨_, ho, hc⟩
  unfold checkBoundCall
  simp only [sig_app, kind_app, last_app, va_app]
  refine wpAny_bind (wpAny_isInstance hT list_nomod ?_)
  repeat (any_goals (first | assumption | exact list_notype | wp_step))
theorem call_boundApp {u l : Addr} {items : Array Value} {n : Nat} {x : Value} {Q : Value → Shared → Prop} (hu : s.heap.get? u = some (boundObj "list.append" (.ref l))) (hl : s.heap.get? l = some { cls := .type "list", data := .seq items n }) (hz : items.size ≤ sizeLine)
    (h : ∀ h', h'.get? l = some { cls := .type "list", data := .seq (items.push x) (n + 1) } → Heap.SameBut l s.heap h' → Q .none { s with heap := h' }) : wpAny (model prog w) A (call (.ref u) [x]) Q E s := by
  refine wpAny_call (codeAny_of_tree ?_)
  show wpAny _ A.in1 (callAny (.ref u) ⟨[x], []⟩) _ _ s
  simp only [callAny]
  refine wpAny_bind (wpAny_load hu ?_)
  simp only [boundObj]
  refine KFB.if_so (by decide) ?_
  refine KFB.if_so (by decide) ?_
  refine wpAny_bind (check_app hl rfl rfl ?_)
  refine wpAny_bind (wpAny_pure (wpAny_pure ?_))
  refine ⟨Code.quiet_builtin _ (by decide +kernel), codeAny_builtin PySem.entry_list_append ?_⟩
  show wpAny _ _ (updateSeq l (·.push x) >>= fun _ => ret .none) _ _ s
  refine wpAny_bind ?_
  refine wpAny_updateSeq hl rfl (wpAny_pure ?_)
  refine h _ ?_ (Heap.SameBut.update ..)
  rw [Heap.get?_update_self _ hl (by rw [Obj.mapSeq_push_plain]; rfl), Obj.mapSeq_push_plain]
end
set_option tactic.hygienic true
set_option tactic.hygienic false
theorem plain_pat : PlainAttrs "re.Pattern" :=
  ⟨⟨"object.__getattribute__", by rw [typeLookup_type, builtinLookup_eq_fast]; kernel_rfl, by decide +kernel⟩, by rw [typeLookup_type, builtinLookup_eq_fast]; kernel_rfl⟩
theorem slot_sub : Slot "re.Pattern" "sub" "re.Pattern.sub" :=
  .of (owner := "re.Pattern") (n := "sub") (by rw [typeLookup_type, builtinLookup_eq_fast]; kernel_rfl) (by decide +kernel) (by decide +kernel) (by decide +kernel)
    (by first | exact .inl (by decide +kernel) | exact .inr (by decide +kernel)) (by rw [isSubtype_type]; kernel_rfl)
theorem type_sub : typeOf (.builtin "re.Pattern.sub") = pure (.type "method_descriptor") := by show builtinType _ = _; rw [builtinType_eq_fast]; kernel_rfl
theorem entry_sub : entryFor table "re.Pattern.sub" = some Builtin.«re.Pattern.sub» := entryFor_of_tree (by kernel_rfl)
theorem entry_loop : entryFor table "re.Pattern.sub.loop" = some Builtin.«re.Pattern.sub.loop» := entryFor_of_tree (by kernel_rfl)
theorem args_sub (a b c : Value) : argsOk "re.Pattern.sub" ⟨[a, b, c], []⟩ := by unfold argsOk; kernel_rfl
theorem fn_call : typeLookup (.type "function") "__call__" = pure (some (.builtin "function.__call__")) := by rw [typeLookup_type, builtinLookup_eq_fast]; kernel_rfl
theorem re_named (a b : Value) : Builtin.Re.reNamed "re.Pattern.sub" "sub" ["repl", "string", "count"] 2 [a, b] [] = pure [some a, some b, none] := by kernel_rfl
noncomputable def driveP : Nat → Sre.M → Option Sre.M
  | 0, _ => none
  | n + 1, m => let m := m.runFor Builtin.Re.reTurnSteps; if m.outcome.isSome then some m else driveP n m
noncomputable def failsB (n : Nat) (m : Sre.M) : Bool := match driveP n m with | some m => (match m.outcome with | some .failed => true | _ => false) | none => false
section
variable {prog : Program} {w : World} {M : Model} {A : Around} {E : Value → Shared → Prop} {s : Shared}
noncomputable def tgt (P : Addr) (x : Str) (t : Tok) (ws : Array Value) : Builtin.Re.ReTarget := { pattern := .ref P, string := .str x t, code := (ws.map Builtin.Re.reRawOf).map (·.toNat), text := x.cps, kind := 0, groups := 1, pos := 0, lim := x.cps.size }
theorem whole_target {P T : Addr} {pat x : Str} {t t1 t2 : Tok} {ws : Array Value} {Q : Builtin.Re.ReTarget → Shared → Prop}
    (hP : s.heap.get? P = some { cls := .type "re.Pattern", data := .fields #[.str pat t1, .int 32 t2, .int 1 0, .none, .none, .ref T, .int 0 0] })
    (hT : s.heap.get? T = some { cls := .type "tuple", data := .seq ws })
    (h : Q (tgt P x t ws) s) : wpAny M A (Builtin.Re.reWholeTarget (.ref P) (.str x t)) Q E s := by
  unfold Builtin.Re.reWholeTarget Builtin.Re.reTextOf Builtin.Re.reNoCollectionInside Builtin.Re.reRawItems
  repeat (any_goals (first | assumption | (with_reducible refine wpAny_loadPart_at hP ?_) | (with_reducible refine wpAny_loadPart_at hT ?_) | wp_step))
theorem drive_is {Q : Sre.M → Shared → Prop} : ∀ (n k : Nat) (m m' : Sre.M), driveP n m = some m' → n ≤ k → Q m' s → wpAny M A (Builtin.Re.reDrive k m) Q E s
  | 0, _, _, _, e, _, _ => nomatch e
  | n + 1, 0, _, _, _, hk, _ => absurd hk (by omega)
  | n + 1, k + 1, m, m', e, hk, h => by
    unfold driveP at e
    show wpAny M A (if (m.runFor Builtin.Re.reTurnSteps).outcome.isSome = true then pure (m.runFor Builtin.Re.reTurnSteps) else (do rule "sre.turn"; Builtin.Re.reDrive k (m.runFor Builtin.Re.reTurnSteps))) Q E s
    dsimp only at e
    by_cases ho : (m.runFor Builtin.Re.reTurnSteps).outcome.isSome = true
    · rw [if_pos ho] at e ⊢
      cases e
      exact wpAny_pure h
    · rw [if_neg ho] at e ⊢
      exact wpAny_bind (wpAny_rule (drive_is n k _ _ e (by omega) h))
theorem rules_pass {α : Type} {b : α → Bool} {f : α → String} {Q : PUnit → Shared → Prop} (h : Q ⟨⟩ s) : ∀ l : List α, wpAny M A (forIn l PUnit.unit (fun i _ => (if b i = true then (do rule (f i); pure (ForInStep.yield PUnit.unit)) else pure (ForInStep.yield PUnit.unit) : Sem (ForInStep PUnit)))) Q E s
  | [] => by rw [List.forIn_nil]; exact wpAny_pure h
  | x :: l => by
    rw [List.forIn_cons]
    by_cases hb : b x = true
    · rw [if_pos hb]
      exact wpAny_bind (wpAny_bind (wpAny_rule (wpAny_pure (rules_pass h l))))
    · rw [if_neg hb]
      exact wpAny_bind (wpAny_pure (rules_pass h l))
theorem run_fails {m : Sre.M} {n : Nat} {Q : Option Sre.M → Shared → Prop} (hf : failsB n m = true) (hn : n ≤ 2 ^ 64) (h : Q none s) : wpAny M A (Builtin.Re.reRunToEnd m) Q E s := by
  unfold failsB at hf
  cases hd : driveP n m with
  | none => rw [hd] at hf; cases hf
  | some m' =>
    rw [hd] at hf
    dsimp only at hf
    unfold Builtin.Re.reRunToEnd
    refine wpAny_bind (drive_is n _ m m' hd hn ?_)
    refine wpAny_bind (wpAny_mono (Q := fun _ s' => s' = s) (E := E) ?_ (fun _ s' q => ?_) (fun _ _ q => q))
    · exact rules_pass (b := fun i => m'.seen.has i) (f := fun i => Sre.names.getD i "") rfl _
    · subst q
      cases ho : m'.outcome with
      | none => rw [ho] at hf; simp at hf
      | some o =>
        rw [ho] at hf
        cases o with
        | failed => exact wpAny_pure h
        | matched => simp at hf
        | stuck w => simp at hf
theorem str_nobytearray : isSubtype (.type "str") (.type "bytearray") = pure false := by rw [isSubtype_type]; kernel_rfl
theorem re_sub_none {P lam T : Addr} {ol : Obj} {pat x : Str} {t t1 t2 : Tok} {ws : Array Value} {n : Nat} {Q : Value → Shared → Prop}
    (hP : s.heap.get? P = some { cls := .type "re.Pattern", data := .fields #[.str pat t1, .int 32 t2, .int 1 0, .none, .none, .ref T, .int 0 0] })
    (hT : s.heap.get? T = some { cls := .type "tuple", data := .seq ws })
    (hl : s.heap.get? lam = some ol) (hlc : ol.cls = .type "function") (hn : n ≤ 1000) (hx0 : 0 < x.cps.size) (hx1 : x.cps.size ≤ 1000)
    (hf : failsB n (Sre.forSearch ((ws.map Builtin.Re.reRawOf).map (·.toNat)) x.cps 1 0 x.cps.size false) = true)
    (h : ∀ h' t' tk', (∀ a o, s.heap.get? a = some o → h'.get? a = some o) → Q (.str x t') { s with heap := h', toks := tk' }) :
    wpAny (model prog w) A (call (.builtin "re.Pattern.sub") [.ref P, .ref lam, .str x t]) Q E s := by
  obtain ⟨hp, g, d, tk, os⟩ := s
  have hTy : (⟨hp, g, d, tk, os⟩ : Shared).TypeIs (.ref lam) "function" := ⟨_, hl, hlc⟩
  have hTP : (⟨hp, g, d, tk, os⟩ : Shared).TypeIs (.ref P) "re.Pattern" := ⟨_, hP, rfl⟩
  refine wpAny_call (codeAny_call_builtin slot_sub.plain entry_sub (slot_sub.check _ _ _ _ _ _ _ _ hTP (args_sub _ _ _) ?_))
  unfold Builtin.«re.Pattern.sub» Builtin.Re.reSubstitute
  dsimp only
  refine wpAny_bind (wpAny_of_eq (re_named _ _) ?_)
  dsimp only
  refine wpAny_bind (wpAny_pure ?_)
  refine wpAny_bind (wpAny_specialOf hTy fn_call ?_)
  simp only [Option.isSome_some, if_true]
  refine wpAny_bind (wpAny_pure ?_)
  refine wpAny_bind (wpAny_pure ?_)
  dsimp only
  refine wpAny_bind (wpAny_holding (whole_target hP hT ?_))
  refine KFB.if_so (by decide) ?_
  refine wpAny_bind (m := Builtin.Re.reNotHeld "re.Pattern.sub" (.str x t)) ?_
  unfold Builtin.Re.reNotHeld
  refine wpAny_bind (wpAny_isInstance (typeIs_str _ x t) str_nobytearray ?_)
  refine KFB.if_not rfl ?_
  refine wpAny_pure ?_
  refine wpAny_bind (wpAny_newList ?_)
  refine wpAny_pure ⟨Code.quiet_builtin _ (by decide +kernel), codeAny_builtin entry_loop ?_⟩
  have hP' := Heap.get?_push_of_some (h := hp) { cls := .type "list", data := .seq ([] : List Value).toArray } hP
  have hT' := Heap.get?_push_of_some (h := hp) { cls := .type "list", data := .seq ([] : List Value).toArray } hT
  have hk' : ∀ a o, hp.get? a = some o → (hp.push { cls := .type "list", data := .seq ([] : List Value).toArray }).get? a = some o := fun a o e => Heap.get?_push_of_some _ e
  have hL' : (hp.push { cls := .type "list", data := .seq ([] : List Value).toArray }).get? hp.objs.size = some { cls := .type "list", data := .seq ([] : List Value).toArray } := Heap.get?_push_size _ rfl
  have hLn : hp.get? hp.objs.size = none := Heap.get?_none_of_le (Nat.le_refl _)
  show wpAny _ _ _ _ _ ⟨hp.push { cls := .type "list", data := .seq ([] : List Value).toArray }, g, d, tk, os⟩
  generalize hp.push { cls := .type "list", data := .seq ([] : List Value).toArray } = h1 at hP' hT' hk' hL' ⊢
  show wpAny _ _ (Builtin.«re.Pattern.sub.loop» ⟨[.ref P, .str x t, .ref lam, .int 1 0, .int 0 0, .int 0 0, .int 0 0, .int 0 0, .bool false, .ref hp.objs.size, .bool false], []⟩) _ _ _
  unfold Builtin.«re.Pattern.sub.loop»
  dsimp only
  refine wpAny_bind (whole_target (s := ⟨h1, g, d, tk, os⟩) hP' hT' ?_)
  refine KFB.if_not rfl ?_
  refine wpAny_bind (m := Builtin.Re.reNextFound (tgt P x t ws) 0 false) (run_fails hf (by omega) ?_)
  dsimp only
  rw [if_pos (show Int.toNat 0 < (tgt P x t ws).lim from hx0)]
  refine wpAny_bind (m := Builtin.Re.reSlice x.cps 0 0 x.cps.size) ?_
  unfold Builtin.Re.reSlice
  refine KFB.if_so rfl ?_
  rw [show x.cps.extract 0 x.cps.size = x.cps from by simp]
  refine wpAny_mkStr ?_ (Nat.le_trans hx1 (Nat.le_of_ble_eq_true rfl))
  refine wpAny_bind (wpAny_updateSeq (s := ⟨h1, g, d, tk + 1, os⟩) hL' rfl ?_)
  have e2 : (h1.update hp.objs.size (Obj.mapSeq fun x_1 => x_1.push (Value.str ⟨x.cps⟩ tk))).get? hp.objs.size = some { cls := .type "list", data := .seq (#[].push (Value.str ⟨x.cps⟩ tk)) 1 } := by
    rw [Heap.get?_update_self _ hL' (by rw [Obj.mapSeq_push_plain]; rfl), Obj.mapSeq_push_plain]
  have k2 : ∀ a o, hp.get? a = some o → (h1.update hp.objs.size (Obj.mapSeq fun x_1 => x_1.push (Value.str ⟨x.cps⟩ tk))).get? a = some o := fun a o e => by
    rw [Heap.get?_update_other _ _ (fun q => by rw [← q, hLn] at e; cases e)]
    exact hk' a o e
  show wpAny _ _ _ _ _ ⟨h1.update hp.objs.size (Obj.mapSeq fun x_1 => x_1.push (Value.str ⟨x.cps⟩ tk)), g, d, tk + 1, os⟩
  generalize h1.update hp.objs.size (Obj.mapSeq fun x_1 => x_1.push (Value.str ⟨x.cps⟩ tk)) = h2 at e2 k2 ⊢
  refine wpAny_bind (KFB.if_so rfl (wpAny_mkStr ?_ (by rw [Array.extract_zero]; exact Nat.zero_le _)))
  refine wpAny_bind (wpAny_seqItems (s := ⟨h2, g, d, tk + 1 + 1, os⟩) e2 rfl ?_)
  refine KFB.if_not rfl ?_
  have hl2 : h2.IsList hp.objs.size (strValues [(⟨x.cps⟩, tk)]).toArray := ⟨_, e2, rfl, 1, rfl⟩
  refine wpAny_bind (m := call (.builtin "str.join") [.str ⟨(tgt P x t ws).text.extract 0 0⟩ (tk + 1), .ref hp.objs.size]) ?_
  refine PySem.SC.join (s := ⟨h2, g, d, tk + 1 + 1, os⟩) hl2 rfl ?_ fun t' k => ?_
  · have hx2 : x.length ≤ 1000 := hx1
    refine joinOk_of ?_
    show (x.cps.size + 0) + 1 * ((tgt P x t ws).text.extract 0 0).size ≤ 16777216
    have : ((tgt P x t ws).text.extract 0 0).size = 0 := by simp
    omega
  · refine KFB.if_not rfl ?_
    have e : Txt.join ⟨(tgt P x t ws).text.extract 0 0⟩ ([((⟨x.cps⟩ : Str), tk)].map (·.1)) = x := rfl
    rw [e]
    exact wpAny_pure (h h2 t' k k2)
end
set_option tactic.hygienic true
set_option tactic.hygienic false
theorem args_tr (a b : Value) : argsOk "str.translate" ⟨[a, b], []⟩ := PySem.F.args_str_translate_2 a b
theorem sub_KeyLook : isSubtype (.type "KeyError") (.type "LookupError") = pure true := by rw [isSubtype_type]; kernel_rfl
section
variable {prog : Program} {w : World} {A : Around} {E : Value → Shared → Prop} {s : Shared}
theorem table_keep {c : Nat} {d : Addr} {f : Int → Option Value} {Q : Builtin.Str.Mapped → Shared → Prop} (hh : A.handled = none) (hm : s.heap.MapOf (intKind prog w) d f) (hd : (d == sysModules) = false) (hv : f c = none)
    (h : ∀ h' tk', (∀ a o, s.heap.get? a = some o → h'.get? a = some o) → Q .keep { s with heap := h', toks := tk' }) :
    wpAny (model prog w) A (Builtin.Str.tableLookup (.ref d) c) Q E s := by
  unfold Builtin.Str.tableLookup
  refine wpAny_bind (wpAny_attempt ?_)
  refine wpAny_bind (wpAny_mkInt ?_)
  refine wpAny_getItem_missing_of (knd := intKind prog w) (k := (c : Int)) (s := { s with toks := s.toks + 1 }) (by first | rfl | exact beq_self_eq_true _ | (show ((c : Int) == (c : Int)) = true; simp) | (unfold intKind; simp [Value.isInt])) hd hh hm hv fun h' e hx => ?_
  dsimp only
  obtain ⟨t, u, he, hc, hf⟩ := hx.there
  refine wpAny_bind (wpAny_isInstance ⟨_, he, hc⟩ sub_KeyLook ?_)
  rw [if_pos rfl]
  exact wpAny_bind (wpAny_rule (wpAny_pure (h _ _ hx.keeps)))
theorem translate_one {c : Nat} {t : Tok} {d : Addr} {f : Int → Option Value} {Q : Value → Shared → Prop} (hh : A.handled = none) (hc : c < 128) (hm : s.heap.MapOf (intKind prog w) d f) (hd : (d == sysModules) = false) (hv : f c = none)
    (h : ∀ h' t' tk', (∀ a o, s.heap.get? a = some o → h'.get? a = some o) → Q (.str ⟨#[c]⟩ t') { s with heap := h', toks := tk' }) :
    wpAny (model prog w) A (call (.builtin "str.translate") [.str ⟨#[c]⟩ t, .ref d]) Q E s := by
  refine wpAny_call_entry PySem.F.slot_str_translate (typeIs_str _ _ _) PySem.F.entry_str_translate ?_ (args_tr _ _)
  unfold Builtin.«str.translate»
  refine wpAny_bind (wpAny_of_eq (a := (.str ⟨#[c]⟩ t, ⟨#[c]⟩, .ref d)) (by rfl) ?_)
  dsimp only
  refine KFB.if_not rfl ?_
  simp only [List.forIn_toArray, List.forIn_cons, List.forIn_nil]
  refine wpAny_bind (wpAny_bind ?_)
  refine KFB.if_not rfl ?_
  refine KFB.if_so (by simp [hc]) ?_
  show wpAny _ A.in1 (Builtin.Str.tableLookup (.ref d) c >>= _) _ _ s
  refine wpAny_bind (table_keep hh hm hd hv fun h' tk' hk => ?_)
  refine wpAny_bind (wpAny_pure ?_)
  refine wpAny_pure ?_
  refine wpAny_pure ?_
  refine KFB.if_not rfl ?_
  refine wpAny_bind (m := mkStr ⟨#[c]⟩) (wpAny_mkStr (s := { s with heap := h', toks := tk' }) (wpAny_pure ⟨_, rfl, h h' _ _ hk⟩) (Nat.le_of_ble_eq_true rfl))
end
set_option tactic.hygienic true
set_option tactic.hygienic false
/-- what _translate finds at the top -/
structure TrTop (prog : Program) (w : World) (mg : Str → Option Value) (G : Heap) (c Pt : Addr) : Prop where
  code : ∀ f o fd, mg "_translate" = some (.ref f) → G.get? f = some o → o.data = .func fd → fd.code = .ref c
  hd : CodeHd G c Pt
  pat : ∃ P T pat t1 t2 ws, mg "_twin_re_1" = some (.ref P) ∧ G.get? P = some { cls := .type "re.Pattern", data := .fields #[.str pat t1, .int 32 t2, .int 1 0, .none, .none, .ref T, .int 0 0] } ∧ G.get? T = some { cls := .type "tuple", data := .seq ws } ∧
    (ws.map Builtin.Re.reRawOf).map (·.toNat) = #[14, 14, 4, 1, 1, 9, 0, 64, 0, 1342177280, 0, 0, 0, 0, 0, 17, 0, 13, 11, 9, 0, 64, 0, 1342177280, 0, 0, 0, 0, 0, 17, 1, 1]
  map : ∃ d kvs, mg "_special_chars_map" = some (.ref d) ∧ G.DictOf (intKind prog w) d kvs ∧ (d == sysModules) = false ∧ valueAt kvs (34 : Int) = none ∧ valueAt kvs (97 : Int) = none ∧ valueAt kvs (98 : Int) = none
  bi : G.BuiltinsAt mg Pt
  gP : mainGlobals ≠ Pt
section
variable {prog : Program} {w : World} {mg : Str → Option Value} {G : Heap} {k : Nat} {env : Env} {ρ : Vars} {S S₁ S₂ S' : List PO}
theorem EV.attrApp {x : Str} {np pos : Pos} {n : Nat} {l : List PV} (h0 : EV prog w mg G k env ρ S (.Name x np) (.obj n) S) (hn : S[n]? = some (.list l)) :
    EV prog w mg G k env ρ S (.Attribute (.Name x np) "append" pos) (.obj S.length) (S ++ [.bound n "list.append"]) := Lock.mk fun A σ s T Q E H => by
  refine Attribute_name (h0.run A σ s T _ _ fun v σ₁ h₁ tk₁ R₁ X₁ V₁ => ?_)
  have hlt : n < S.length := (List.getElem?_eq_some_iff.mp hn).1
  (first | (obtain ⟨_, rfl⟩ := VR.inv V₁) | (obtain rfl := VR.inv V₁))
  obtain ⟨vs, m, ho, hv⟩ := R₁.objs n _ hn
  refine getAttr_append (s := { s with heap := h₁, toks := tk₁ }) ho fun tk => ?_
  obtain ⟨R', X', V'⟩ := newAt (s := { s with heap := h₁, toks := tk₁ }) (o := .bound n "list.append") (D := h₁.objs.size) (h' := h₁.push (boundObj "list.append" (.ref (σ₁.p n)))) R₁ (Nat.le_refl _) (fun a o e => Heap.get?_push_of_some _ e)
    ⟨.ref (σ₁.p n), Heap.get?_push_size _ rfl, .obj n hlt⟩
  exact H _ _ _ tk R' (Ext.trans R₁ X₁ X') V'
theorem EV.callBound {x : Str} {np pos : Pos} {e : Expr} {m n : Nat} {l : List PV} {p : PV} (h0 : EV prog w mg G k env ρ S (.Name x np) (.obj m) S) (hm : S[m]? = some (.bound n "list.append")) (h1 : ELs prog w mg G k env ρ S pos [e] [p] S₁)
    (hm1 : S₁[m]? = some (.bound n "list.append")) (hn : S₁[n]? = some (.list l)) (hs : l.length ≤ sizeLine) (he : starEach [e] env = (false, eval e env) :: starEach [] env := by rfl) :
    EV prog w mg G k env ρ S (.Call (.Name x np) [e] [] pos) .none (S₁.set n (.list (l ++ [p]))) := Lock.mk fun A σ s T Q E H => by
  refine wpAny_Call_Name_kw (h0.run A σ s T _ _ fun v σ₁ h₁ tk₁ R₁ X₁ V₁ => ?_)
  (first | (obtain ⟨_, rfl⟩ := VR.inv V₁) | (obtain rfl := VR.inv V₁))
  have T₁ := T.ext R₁ X₁
  have hml : m < S.length := (List.getElem?_eq_some_iff.mp hm).1
  have hm1l : m < S₁.length := (List.getElem?_eq_some_iff.mp hm1).1
  have h2 := h1.run A σ₁ { s with heap := h₁, toks := tk₁ } T₁ (fun vs s₁ => (∃ v, s₁.heap.get? (σ₁.p m) = some (boundObj "list.append" v)) ∧ wpAny (model prog w) A (PySem.call (.ref (σ₁.p m)) ([] ++ vs)) Q E s₁) E fun vs σ₂ h₂ tk₂ R₂ X₂ V₂ => by
    obtain ⟨v, hb, hv⟩ := R₂.objs m _ hm1
    have es := X₂.same m hml
    rw [es] at hb
    refine ⟨⟨v, hb⟩, ?_⟩
    obtain ⟨u, us, rfl, U, V₂⟩ := V₂.uncons
    rw [V₂.unnil]
    cases hv
    obtain ⟨vs', c, ho, hvs⟩ := R₂.objs n _ hn
    refine call_boundApp (s := { s with heap := h₂, toks := tk₂ }) hb ho (by rw [hvs.1]; exact hs) fun h' hl' hs' => ?_
    obtain ⟨R', X', mono⟩ := mutate (o' := .list (l ++ [p])) R₂ hn (fun a ob ha e => hs'.extBut a ob ha e) fun mono =>
      ⟨_, _, hl', VRs.snoc ⟨hvs.1, fun i v p a b => mono _ _ (hvs.2 i v p a b)⟩ (mono _ _ U)⟩
    exact H .none σ₂ h' _ R' (Ext.trans R₁ X₁ (Ext.trans R₂ X₂ X')) .none
  rw [he] at h2 ⊢
  refine callWith_of (P := fun h => ∃ v, h.get? (σ₁.p m) = some (boundObj "list.append" v)) (by rfl) (fun h hP => ?_) (evalArgs_plain h2)
  obtain ⟨v, hb⟩ := hP
  refine ⟨.machine, .inr (.inl rfl), ?_⟩
  unfold keeperOf
  refine (Looks.ld (part := Option.none) hb).andThen ?_
  exact .now
theorem OPL.replaceNo {x y z : Str} (h : (Builtin.Str.occurrences x y 0 x.length (x.length + 1)).isEmpty = true) : OPL prog w mg G k S [.str x, .str y, .str z] (fun vs => PySem.call (.builtin "str.replace") vs) (.str x) S := Lock.mk fun A σ s vs _ _ _ R V0 Q E H => by
  obtain ⟨v, vs, rfl, V, V0⟩ := V0.uncons
  obtain ⟨u, vs, rfl, U, V0⟩ := V0.uncons
  obtain ⟨z', vs, rfl, Z, V0⟩ := V0.uncons
  rw [V0.unnil]
  (first | (obtain ⟨_, rfl⟩ := VR.inv V) | (obtain rfl := VR.inv V)); (first | (obtain ⟨_, rfl⟩ := VR.inv U) | (obtain rfl := VR.inv U)); cases Z
  refine call_gives PySem.F.slot_str_replace (typeIs_str _ _ _) PySem.F.entry_str_replace (PySem.F.args_str_replace_3 _ _ _) (gives_str_replace _ _ _ _ _ _ fun q => by rw [h] at q; simp at q) ?_
  rw [h, Bool.true_or, if_pos rfl]
  exact H _ σ s.heap s.toks R Ext.refl (.str _ _)
theorem OPL.isStr {x : Str} : OPL prog w mg G k S [.str x, .fn (.type "str")] (fun vs => PySem.call (.builtin "isinstance") vs) (.bool true) S := Lock.mk fun A σ s vs _ _ _ R V0 Q E H => by
  obtain ⟨v, vs, rfl, V, V0⟩ := V0.uncons
  obtain ⟨u, vs, rfl, U, V0⟩ := V0.uncons
  rw [V0.unnil]
  (first | (obtain ⟨_, rfl⟩ := VR.inv V) | (obtain rfl := VR.inv V)); (first | (obtain ⟨_, rfl⟩ := VR.inv U) | (obtain rfl := VR.inv U))
  exact IsiPair.str_str (H _ σ s.heap s.toks R Ext.refl (.bool _))
theorem OPL.transl {d c' : Nat} {f : Int → Option Value} (hc : c' < 128) (hm : ∀ h : Heap, (∀ b o, G.get? b = some o → h.get? b = some o) → h.MapOf (intKind prog w) d f) (hd : ((d : Addr) == sysModules) = false) (hv : f c' = none) :
    OPL prog w mg G k S [.str ⟨#[c']⟩, .fn (.ref d)] (fun vs => PySem.call (.builtin "str.translate") vs) (.str ⟨#[c']⟩) S := Lock.mk fun A σ s vs hG hA _ R V0 Q E H => by
  obtain ⟨v, vs, rfl, V, V0⟩ := V0.uncons
  obtain ⟨u, vs, rfl, U, V0⟩ := V0.uncons
  rw [V0.unnil]
  (first | (obtain ⟨_, rfl⟩ := VR.inv V) | (obtain rfl := VR.inv V)); (first | (obtain ⟨_, rfl⟩ := VR.inv U) | (obtain rfl := VR.inv U))
  refine translate_one hA.hh hc (hm _ R.ground) hd hv fun h' t' tk' hk => ?_
  exact H _ σ h' tk' (R.keeps hk) (Ext.ofKeeps hk) (.str _ _)
theorem EV.fstr {a b : Str} {n1 n2 : Nat} {p1 p2 pf pos : Pos} {v : Expr} {x : Str} (h1 : EV prog w mg G k env ρ S v (.str x) S') (hz : a.length + x.length + b.length ≤ 1000) (he : evalEach [.Constant (.str a) n1 p1, .FormattedValue v (-1) Option.none pf, .Constant (.str b) n2 p2] env = [eval (.Constant (.str a) n1 p1) env, eval (.FormattedValue v (-1) Option.none pf) env, eval (.Constant (.str b) n2 p2) env] := by rfl) :
    EV prog w mg G k env ρ S (.JoinedStr [.Constant (.str a) n1 p1, .FormattedValue v (-1) Option.none pf, .Constant (.str b) n2 p2] pos) (.str (a ++ x ++ b)) S' := Lock.mk fun A σ s T Q E H => by
  have hb : (1000 : Nat) ≤ sizeLine := Nat.le_of_ble_eq_true rfl
  have e0 : Str.empty ++ a = a := PySem.Str.empty_append a
  refine wpAny_JoinedStr ?_
  rw [he]
  refine wpAny_Constant_str ⟨a, _, rfl, by rw [e0]; omega, ?_⟩
  rw [e0]
  refine wpAny_FormattedValue_plain (h1.run A σ { s with toks := s.toks + 1 } T _ _ fun u σ₁ h₁ tk₁ R₁ X₁ V₁ => ?_)
  (first | (obtain ⟨_, rfl⟩ := VR.inv V₁) | (obtain rfl := VR.inv V₁))
  have hl : (a ++ x).length = a.length + x.length := PySem.Str.length_append a x
  refine wpAny_formatField_str ?_ ?_ (by omega)
  · refine ⟨x, _, rfl, by omega, ?_⟩
    refine wpAny_Constant_str ⟨b, _, rfl, by rw [PySem.Str.length_append]; omega, ?_⟩
    exact ⟨by rw [PySem.Str.length_append]; omega, H _ σ₁ h₁ _ R₁ X₁ (.str _ _)⟩
  · refine ⟨x, _, rfl, by omega, ?_⟩
    refine wpAny_Constant_str ⟨b, _, rfl, by rw [PySem.Str.length_append]; omega, ?_⟩
    exact ⟨by rw [PySem.Str.length_append]; omega, H _ σ₁ h₁ _ R₁ X₁ (.str _ _)⟩
theorem EV.reSub {c Pt : Addr} {args : Arguments} {body : Expr} {scope : Scope} {y : Str} {p1 pa pl p2 pc : Pos} {x : Str} {tb n : Nat} (TT : TrTop prog w mg G c Pt) (hg : env.kindOf "_twin_re_1" = some .globalImplicit) (hcode : env.code = .ref c) (htb : S[tb]? = some (.tab Pt))
    (hcl : closureFor scope env = pure []) (hdef : defaultsOf args env = ([], [])) (hy : EV prog w mg G k env ρ S (.Name y p2) (.str x) S) (hx0 : 0 < x.cps.size) (hx1 : x.cps.size ≤ 1000) (hn : n ≤ 1000)
    (hf : failsB n (Sre.forSearch #[14, 14, 4, 1, 1, 9, 0, 64, 0, 1342177280, 0, 0, 0, 0, 0, 17, 0, 13, 11, 9, 0, 64, 0, 1342177280, 0, 0, 0, 0, 0, 17, 1, 1] x.cps 1 0 x.cps.size false) = true) {plm : Sem Bool}
    (hev : eval (.Call (.Attribute (.Name "_twin_re_1" p1) "sub" pa) [.Lambda args body scope pl, .Name y p2] [] pc) env = (do
      let ov ← eval (.Name "_twin_re_1" p1) env
      standAt pa.atName
      let (f, first) ← holding [ov] (getMethod ov "sub" plm)
      callWith pc f first (backTo pc (starEach [.Lambda args body scope pl, .Name y p2] env)) []) := by rfl)
    (he : starEach [.Lambda args body scope pl, .Name y p2] env = [(false, eval (.Lambda args body scope pl) env), (false, eval (.Name y p2) env)] := by rfl) :
    EV prog w mg G k env ρ S (.Call (.Attribute (.Name "_twin_re_1" p1) "sub" pa) [.Lambda args body scope pl, .Name y p2] [] pc) (.str x) S := Lock.mk fun A σ s T Q E H => by
  obtain ⟨P, T', pat, t1, t2, ws, mP, gP, gT, hws⟩ := TT.pat
  obtain ⟨ha, ps, hps, hok⟩ := T.rel.objs tb _ htb
  rw [ha] at hps
  have hbi : s.heap.BuiltinsAt mg Pt := by
    obtain ⟨bm, o, b1, b2, b3, b4, b5, b6⟩ := TT.bi
    exact ⟨bm, o, b1, b2, b3, b4, T.rel.ground _ _ b5, b6⟩
  have alive : ∀ i, i < S.length → σ.p i < s.heap.objs.size := fun i hi => by
    obtain ⟨o, e⟩ := T.rel.alive hi
    exact Heap.lt_size e
  have cont : ∀ (h2 : Heap) (tk2 : Nat) (lam : Addr) (ol : Obj), Rel w.params G σ S h2 → Ext σ S.length s.heap σ S.length h2 → s.heap.objs.size ≤ lam → h2.get? lam = some ol → ol.cls = .type "function" →
      wpAny (model prog w) A (spliced (backTo pc [(false, eval (.Name y p2) env)])) (fun vs s₁ => wpAny (model prog w) A (PySem.call (.builtin "re.Pattern.sub") ([.ref P] ++ (.ref lam :: vs))) Q E s₁) E { s with heap := h2, toks := tk2 } := by
    intro h2 tk2 lam ol R2 X2 hlam hol hoc
    have T2 := T.ext R2 X2
    refine Calls.spliced_cons (hy.run A σ { s with heap := h2, toks := tk2 } T2 _ _ fun v σ₃ h3 tk3 R3 X3 V3 => ?_)
    (first | (obtain ⟨_, rfl⟩ := VR.inv V3) | (obtain rfl := VR.inv V3))
    refine Calls.spliced_nil ?_
    obtain ⟨ol', e1, _, e3, _⟩ := X3.keep lam ol hol fun i hi q => by have h0 := alive i hi; rw [← q] at h0; exact Nat.lt_irrefl _ (Nat.lt_of_lt_of_le h0 hlam)
    refine re_sub_none (s := { s with heap := h3, toks := tk3 }) (R3.ground _ _ gP) (R3.ground _ _ gT) e1 (e3.trans hoc) hn hx0 hx1 (by rw [hws]; exact hf) fun h' t' tk' hk => ?_
    exact H _ σ₃ h' tk' (R3.keeps hk) (Ext.trans R2 X2 (Ext.trans R3 X3 (Ext.ofKeeps hk))) (.str _ _)
  refine MethodCall_ (pl := plm) (Name_function_global T.er.kind hg (loadGlobal_global (env := env) (by rw [T.er.gl]; exact T.gd.g.keeps T.rel.ground) mP ?_) (by decide)) hev
  refine getMethod_builtin (T := "re.Pattern") ⟨_, T.rel.ground _ _ gP, rfl⟩ plain_pat slot_sub type_sub (fun a e => by cases e; exact ⟨_, T.rel.ground _ _ gP, rfl⟩) ?_
  refine callWith_method1 ?_ (by rfl) (by rfl)
  rw [he]
  refine Calls.spliced_cons (kla_eval hdef ?_)
  cases hca : codeAmong pl ps.toList with
  | none =>
    refine kla_makeFunction hcl T.er.gl (T.gd.g.keeps T.rel.ground) hcode (TT.hd.keeps T.rel.ground) hps hok hca TT.gP hbi fun c' ctv h' tk hx hge hlt _ hP' => ?_
    obtain ⟨R', X', _⟩ := mutate (w := w) (o' := .tab Pt) (h' := h'.push (kla_obj "<lambda>" (env.qual ++ "<lambda>") args body scope [] ((mg "__name__").getD .none) c' ctv)) T.rel htb (fun a ob hne e => Heap.get?_push_of_some _ (hx a ob (by rw [ha] at hne; exact hne) e))
      (fun _ => ⟨ha, _, by rw [ha]; exact Heap.get?_push_of_some _ hP', by rw [Array.toList_append]; exact TriplesOk_snoc _ _ _ _ hok⟩)
    rw [set_same htb] at R' X'
    exact cont _ tk _ _ R' X' (by omega) (Heap.get?_push_size _ rfl) rfl
  | some cv =>
    refine kla_makeFunctionHit hcl T.er.gl (T.gd.g.keeps T.rel.ground) hcode (TT.hd.keeps T.rel.ground) hps hok hca hbi fun ctv h' tk hk hge => ?_
    have hk2 : ∀ a o, s.heap.get? a = some o → (h'.push { cls := .type "function", data := .func (kla_fn "<lambda>" (env.qual ++ "<lambda>") args body scope [] ((mg "__name__").getD .none) cv ctv) }).get? a = some o := fun a o e => Heap.get?_push_of_some _ (hk a o e)
    exact cont _ tk _ _ (T.rel.keeps hk2) (Ext.ofKeeps hk2) hge (Heap.get?_push_size _ rfl) rfl
end
set_option tactic.hygienic true

/-! escape, _translate -/
section
variable {prog : Program} {w : World} {mg : Str → Option Value} {G : Heap} {k : Nat} {env : Env} {ρ : Vars} {S S₁ S₂ S' : List PO} {xs : List Str} {vs vs₁ vs₂ vs' : List (Option PV)}
/-- x, y = (p, q): the stores in the turned order -/
theorem EX.asgSw {x y : Str} {px py tpos pos : Pos} {x1 : Nat} {e : Expr} {p q : PV} (hn : Nm xs) (hk : ∀ x ∈ xs, env.kindOf x = some .local ∨ env.kindOf x = some .cell) (h1 : EV prog w mg G k env (V xs vs) S e (.tup [p, q]) S₁) (hy : SetAt xs vs y q vs₁) (hx : SetAt xs vs₁ x p vs₂)
    (hs : swapsWithSole [.Tuple [.Name x px, .Name y py] x1 tpos] e pos.line env = pure false) (hw : swappedStores [.Tuple [.Name x px, .Name y py] x1 tpos] e env = pure (some [x, y])) :
    EX prog w mg G k env (V xs vs) S (.Assign [.Tuple [.Name x px, .Name y py] x1 tpos] e pos) (.next (V xs vs₂) S₁) := Lock.mk fun A σ s T O Q E H => by
  refine Assign_Tuple_swapped (h1.run A σ s T _ _ fun v σ₁ h₁ tk₁ R₁ X₁ V₁ => ?_) hs hw
  have T₁ := T.ext R₁ X₁
  cases V₁ with
  | tup hF ho hc hd hl hi =>
    rename_i a o ws m
    have h2 : ws.size = 2 := hl
    have hun := unpackItems_tuple (prog := prog) (w := w) (A := A) (E := E) (s := { s with heap := h₁, toks := tk₁ }) (items := ws) (Q := fun items s₂ => wpAny (model prog w) A (assignInOrder ([x, y].reverse.map fun n => bindName env n) items.reverse) (fun _ => Q .next) E s₂) T₁.room.hh (t := a) ⟨o, ho, hc, m, hd⟩ (fun h' he => by
      have hk' : ∀ a o, h₁.get? a = some o → h'.get? a = some o := fun a o e => he a o (Nat.ne_of_lt (Heap.lt_size e)) e
      have X : Ext σ₁ S₁.length h₁ σ₁ S₁.length h' := Ext.ofKeeps hk'
      have R' : Rel w.params G σ₁ S₁ h' := R₁.keeps hk'
      have T' := T₁.ext R' X
      obtain ⟨v0, v1, hws⟩ : ∃ v0 v1, ws.toList = [v0, v1] := by
        have hlen : ws.toList.length = 2 := by simpa using h2
        match ws.toList, hlen with
        | [v0, v1], _ => exact ⟨v0, v1, rfl⟩
      have w0 : ws[0]? = some v0 := by rw [← Array.getElem?_toList, hws]; rfl
      have w1 : ws[1]? = some v1 := by rw [← Array.getElem?_toList, hws]; rfl
      have V0 : VR σ₁ S₁.length h' v0 p := (hi 0 v0 p w0 rfl).ext R₁ X
      have V1 : VR σ₁ S₁.length h' v1 q := (hi 1 v1 q w1 rfl).ext R₁ X
      rw [hws]
      show wpAny _ A (assignInOrder [(fun v => bindName env y v), (fun v => bindName env x v)] [v1, v0]) _ _ _
      refine assignInOrder_cons (wpAny_bindName (store (w := w) (s := { s with heap := h', toks := tk₁ }) T' T'.own (hk y hy.mem) V1 fun h2 tk2 R2 X2 E2 => ?_))
      have E2' := E2.congr (V.set hy hn.nd)
      have X2' : ExtX env σ₁ S₁.length h' σ₁ S₁.length h2 := X2.weaken fun _ q => q.env
      have T2 := T'.extX R2 X2' E2'
      have V0' := V0.extX T'.rel T'.er X2'
      refine assignInOrder_cons (wpAny_bindName (store (w := w) (s := { s with heap := h2, toks := tk2 }) T2 T2.own (hk x hx.mem) V0' fun h3 tk3 R3 X3 E3 => ?_))
      have E3' := E3.congr (V.set hx hn.nd)
      refine assignInOrder_nil ?_
      exact H σ₁ h3 tk3 R3 (ExtX.trans R' T'.er (Ext.trans R₁ X₁ X).toX (ExtX.trans R2 E2' X2' (X3.weaken fun _ q => q.env))) E3')
    rw [h2] at hun
    exact hun
theorem EX.assertT {test : Expr} {msg : Option Expr} {pos : Pos} {b : Bool} (h1 : EB prog w mg G k env ρ S test b S₁) (hb : b = true) : EX prog w mg G k env ρ S (.Assert test msg pos) (.next ρ S₁) := Lock.mk fun A σ s T O Q E H => by
  subst hb
  exact wpAny_Assert_holds (h1.run A σ s T _ _ fun σ₁ h₁ tk₁ R₁ X₁ => ⟨rfl, H σ₁ h₁ tk₁ R₁ X₁.toX (T.ext R₁ X₁).er⟩)
theorem escape_ok {c Pt : Addr} (T : Top mg G) (TT : TrTop prog w mg G c Pt) : ∃ f, mg "escape" = some (.ref f) ∧ Kp G (.ref f) ∧ ∀ (k : Nat) (S : List PO) (ch : Nat), ch = 34 ∨ ch = 97 ∨ ch = 98 → OPL prog w mg G (k + 1) S [.str (sgn ch)] (fun vs => PySem.call (.ref f) vs) (.str (sgn ch)) S := by
  obtain ⟨f, fd, hm, D, hs⟩ := T.fn 10 (by decide)
  obtain ⟨d, kvs, md, hd, hsys, v34, v97, v98⟩ := TT.map
  refine ⟨f, hm, D.kp, fun k S ch hch => ?_⟩
  refine FN.go (as := ["pattern"]) (ys := []) D rfl fun L => ?_
  have gi : (fenv fd f L).kindOf "isinstance" = some .globalImplicit := by unfold Env.kindOf; show fd.scope.names.lookup _ = _; rw [hs]; decide +kernel
  have gs : (fenv fd f L).kindOf "str" = some .globalImplicit := by unfold Env.kindOf; show fd.scope.names.lookup _ = _; rw [hs]; decide +kernel
  have gm : (fenv fd f L).kindOf "_special_chars_map" = some .globalImplicit := by unfold Env.kindOf; show fd.scope.names.lookup _ = _; rw [hs]; decide +kernel
  generalize fenv fd f L = env at gi gs gm
  have nm : Nm ["pattern"] := ⟨by decide +kernel, by decide +kernel⟩
  have hv : valueAt kvs ((ch : Nat) : Int) = none := by rcases hch with rfl | rfl | rfl <;> assumption
  have hlt : ch < 128 := by omega
  show EXs prog w mg G k env (V ["pattern"] [some (.str (sgn ch))]) S (bd 10) _
  conv in (bd 10) => whnf
  refine EXs.stop (EX.ifT (b := true) (S₁ := S) (EB.val (p := .bool true) ?_ TR.bool) rfl (EXs.ret_ ?_))
  · exact EV.callB T gi (by decide) rfl Kp.builtin (ELs.cons (p := .str (sgn ch)) (S₁ := S) (EV.nm nm .hd) (ELs.cons (p := .fn (.type "str")) (S₁ := S) (EV.builtin gs (T.bi _ (by decide)) rfl (by decide)) ELs.nil)) OPL.isStr
  · refine EV.meth (S₁ := S) (S₂ := S) (p := .str (sgn ch)) (ps := [.fn (.ref d)]) (EV.nm nm .hd) (MT.str PySem.F.slot_str_translate PySem.F.type_str_translate) (ELs.cons (S₁ := S) (EV.glob gm md) ELs.nil) ?_
    exact OPL.transl hlt (fun h hk => by
      obtain ⟨o, es, ep, e1, r⟩ := hd
      exact Heap.DictOf.mapOf ⟨o, es, ep, hk _ _ e1, r⟩) hsys hv
end

/-! _translate -/
section
variable {prog : Program} {w : World} {mg : Str → Option Value} {G : Heap} {k : Nat} {S S₁ S₂ S' : List PO}
theorem O.notInS {a b : Str} : OP2 prog w mg G k S (.str a) (.str b) (compareOp .NotIn) (.bool (!(!(Builtin.Str.occurrences b a 0 b.length 1).isEmpty))) S := Lock.mk fun A σ s v u _ _ _ R V U Q E H => by
  (first | (obtain ⟨_, rfl⟩ := VR.inv V) | (obtain rfl := VR.inv V)); (first | (obtain ⟨_, rfl⟩ := VR.inv U) | (obtain rfl := VR.inv U)); exact PyProof.Rows.notIn_str (H _ σ s.heap s.toks R Ext.refl (.bool _))
theorem O.inTupS {x : Str} {xs : List Str} : OP2 prog w mg G k S (.str x) (.tup (xs.map .str)) (compareOp .In) (.bool (xs.any (· == x))) S := Lock.mk fun A σ s v u _ _ _ R V U Q E H => by
  (first | (obtain ⟨_, rfl⟩ := VR.inv V) | (obtain rfl := VR.inv V)); rename_i t
  cases U with
  | tup hF ho hc hd hl hi =>
    rename_i a o us n
    have hu : VRs σ S.length s.heap us (xs.map .str) := ⟨hl, hi⟩
    have key : us.any (isStrB x) = xs.any (· == x) := by
      rw [any_eq hu (isStrB x) (fun p => match p with | .str y => y == x | _ => false) (fun v p a m => by
        obtain ⟨y, _, rfl⟩ := List.mem_map.mp m
        cases a; rfl), List.any_map]
      rfl
    have he : ∀ y, y ∈ us → PySem.SeqAt.EqAt A.in1 s y (.str x t) (isStrB x y) := fun y hy => by
      obtain ⟨i, hi', rfl⟩ := Array.mem_iff_getElem.mp hy
      have hi'' : i < (xs.map PV.str).length := by rw [← hu.1]; exact hi'
      have := hu.2 i us[i] ((xs.map PV.str)[i]) (by simp [hi']) (by rw [List.getElem?_eq_getElem hi''])
      rw [List.getElem_map] at this
      generalize us[i] = z at this ⊢
      cases this with
      | str y t' => exact (PyProof.Rows.eqGives_str _ _ _ _).at _ _
    refine PySem.SeqAt.in_tupleAt (isStrB x) ⟨o, ho, hc, n, hd⟩ he ?_
    rw [key]
    exact H _ σ s.heap s.toks R Ext.refl (.bool _)
end
noncomputable abbrev xTr : List Str := ["pat", "STAR", "QUESTION_MARK", "res", "add", "i", "n", "c", "j", "stuff", "chunks", "k", "chunk"]
theorem nmTr : Nm xTr := ⟨by decide +kernel, by decide +kernel⟩
noncomputable def trW : Stmt := (bd 12).getD 3 default
noncomputable def trIf : Stmt := (bodyOf trW).getD 2 default
noncomputable def ifQ : Stmt := (orelseOf trIf).getD 0 default
noncomputable def ifB : Stmt := (orelseOf ifQ).getD 0 default
structure TrEnv (env : Env) (c : Addr) : Prop where
  hk : ∀ x ∈ xTr, env.kindOf x = some .local ∨ env.kindOf x = some .cell
  gl : env.kindOf "len" = some .globalImplicit
  ge : env.kindOf "escape" = some .globalImplicit
  gr : env.kindOf "_twin_re_1" = some .globalImplicit
  hi : interactive env = false
  hc : env.code = .ref c
noncomputable abbrev vTr (pat : Str) (st r ad : Nat) (i : Nat) (oc oj os : Option PV) : List (Option PV) := [some (.str pat), some (.obj st), some (.str "."), some (.obj r), some (.obj ad), some (.int i), some (.int pat.length), oc, oj, os, none, none, none]
theorem emptyOr {l : List PV} {y : Str} (h : l = [] ∨ l.getLast? = some (.str y)) : True := trivial
section
variable {prog : Program} {w : World} {mg : Str → Option Value} {G : Heap} {k : Nat} {env : Env}
theorem tr_test {cc : Addr} (he : TrEnv env cc) {pat : Str} {st r ad i : Nat} {oc oj os : Option PV} {S : List PO} : EB prog w mg G k env (V xTr (vTr pat st r ad i oc oj os)) S (testOf trW) (decide ((i : Int) < pat.length)) S := by
  have nm := nmTr
  sizeOf_list_dec
  repeat' array_get_dec
theorem tr_head {cc : Addr} (he : TrEnv env cc) {pat : Str} {st r ad i : Nat} {oc oj os : Option PV} {S : List PO} {o : Out} (h0 : i < pat.length) (h1 : i < 1000)
    (h : EXs prog w mg G k env (V xTr (vTr pat st r ad (i + 1) (some (.str (sgn (pat.cps.getD i 0)))) oj os)) S [trIf] o) : EXs prog w mg G k env (V xTr (vTr pat st r ad i oc oj os)) S (bodyOf trW) o := by
  have nm := nmTr
  have hk := he.hk
  have hs : SUB prog w mg G k S (.str pat) (.int i) (.str (sgn (pat.cps.getD i 0))) S := SUB.str (by omega) (by omega) (chN h0)
  have e : bodyOf trW = [(bodyOf trW).getD 0 default, (bodyOf trW).getD 1 default, trIf] := rfl
  rw [e]
  conv in (List.getD (bodyOf trW) 0 default) => whnf
  conv in (List.getD (bodyOf trW) 1 default) => whnf
  refine EXs.asg nm hk (p := .str (sgn (pat.cps.getD i 0))) (S₁ := S) ?_ (.tl (.tl (.tl (.tl (.tl (.tl (.tl .hd))))))) rfl (EXs.asg nm hk (p := .int (i + 1)) (S₁ := S) ?_ (.tl (.tl (.tl (.tl (.tl .hd))))) rfl ?_)
  · repeat' array_get_dec
  · repeat' array_get_dec
  · unfold vTr at h
    rw [show ((i + 1 : Nat) : Int) = (i : Int) + 1 from by omega] at h
    exact h
theorem tr_star {cc : Addr} (he : TrEnv env cc) {pat : Str} {st r ad i : Nat} {oc oj os : Option PV} {S : List PO} {l : List PV} (h0 : i < pat.length) (h1 : i < 1000) (hc : pat.cps.getD i 0 = 42)
    (hr : S[r]? = some (.list l)) (had : S[ad]? = some (.bound r "list.append")) (hl : l.length ≤ 1000) (hlast : l = [] ∨ ∃ y, l.getLast? = some (.str y)) :
    EXs prog w mg G k env (V xTr (vTr pat st r ad i oc oj os)) S (bodyOf trW) (.next (V xTr (vTr pat st r ad (i + 1) (some (.str (sgn 42))) oj os)) (S.set r (.list (l ++ [.obj st])))) := by
  have nm := nmTr
  have hb : (2000 : Nat) ≤ sizeLine := Nat.le_of_ble_eq_true rfl
  refine tr_head he h0 h1 ?_
  rw [hc]
  conv in (trIf) => whnf
  refine EXs.cons (EX.ifT (b := sgn 42 == "*") (S₁ := S) ?_ (by decide) (EXs.cons (EX.ifT (b := true) (S₁ := S) (EB.or (x := !(!l.isEmpty)) (S₁ := S) ?_ (fun hx => ?_) (fun _ => ⟨rfl, rfl⟩)) rfl ?_) EXs.nil)) EXs.nil
  · repeat' array_get_dec
  · refine EB.not (EB.val (p := .obj r) ?_ (TR.list hr (by omega)))
    repeat' array_get_dec
  · rcases hlast with e | ⟨y, hy⟩
    · subst e; simp at hx
    · have hne : l ≠ [] := fun e => by rw [e] at hy; cases hy
      have hpos : 0 < l.length := List.length_pos_iff.mpr hne
      have hs : SUB prog w mg G k S (.obj r) (.int (-1)) (.str y) S := SUB.list hr (by decide) (by decide) (j := l.length - 1) (by unfold seqIndex?; simp; omega) (by rw [← List.getLast?_eq_getElem?]; exact hy)
      refine EB.cmp (p := .str y) (q := .obj st) (S₁ := S) (S₂ := S) ?_ ?_ O.isNotSO
      · repeat' array_get_dec
      · repeat' array_get_dec
  · refine EXs.expr (p := .none) (S₁ := S.set r (.list (l ++ [.obj st]))) (EV.callBound (S₁ := S) ?_ had (ELs.cons (p := .obj st) (S₁ := S) ?_ ELs.nil) had hr (by omega)) he.hi rfl EXs.nil
    · repeat' array_get_dec
    · repeat' array_get_dec
theorem tr_q {cc : Addr} (he : TrEnv env cc) {pat : Str} {st r ad i : Nat} {oc oj os : Option PV} {S : List PO} {l : List PV} (h0 : i < pat.length) (h1 : i < 1000) (hc : pat.cps.getD i 0 = 63)
    (hr : S[r]? = some (.list l)) (had : S[ad]? = some (.bound r "list.append")) (hl : l.length ≤ 1000) :
    EXs prog w mg G k env (V xTr (vTr pat st r ad i oc oj os)) S (bodyOf trW) (.next (V xTr (vTr pat st r ad (i + 1) (some (.str (sgn 63))) oj os)) (S.set r (.list (l ++ [.str "."])))) := by
  have nm := nmTr
  have hb : (2000 : Nat) ≤ sizeLine := Nat.le_of_ble_eq_true rfl
  refine tr_head he h0 h1 ?_
  rw [hc]
  conv in (trIf) => whnf
  refine EXs.cons (EX.ifF (b := sgn 63 == "*") (S₁ := S) ?_ (by decide) (EXs.cons (EX.ifT (b := sgn 63 == "?") (S₁ := S) ?_ (by decide) ?_) EXs.nil)) EXs.nil
  · repeat' array_get_dec
  · repeat' array_get_dec
  · refine EXs.expr (p := .none) (S₁ := S.set r (.list (l ++ [.str "."]))) (EV.callBound (S₁ := S) ?_ had (ELs.cons (p := .str ".") (S₁ := S) ?_ ELs.nil) had hr (by omega)) he.hi rfl EXs.nil
    · repeat' array_get_dec
    · repeat' array_get_dec
theorem tr_plain {cc Pt : Addr} (T : Top mg G) (TT : TrTop prog w mg G cc Pt) (he : TrEnv env cc) {pat : Str} {st r ad i ch : Nat} {oc oj os : Option PV} {S : List PO} {l : List PV} (h0 : i < pat.length) (h1 : i < 1000) (hc : pat.cps.getD i 0 = ch) (hch : ch = 34 ∨ ch = 97 ∨ ch = 98)
    (hr : S[r]? = some (.list l)) (had : S[ad]? = some (.bound r "list.append")) (hl : l.length ≤ 1000) :
    EXs prog w mg G (k + 1) env (V xTr (vTr pat st r ad i oc oj os)) S (bodyOf trW) (.next (V xTr (vTr pat st r ad (i + 1) (some (.str (sgn ch))) oj os)) (S.set r (.list (l ++ [.str (sgn ch)])))) := by
  have nm := nmTr
  have hb : (2000 : Nat) ≤ sizeLine := Nat.le_of_ble_eq_true rfl
  obtain ⟨fe, me, Ke, ce⟩ := escape_ok (prog := prog) (w := w) T TT
  have hesc := ce k S ch hch
  have ge := he.ge
  refine tr_head he h0 h1 ?_
  rw [hc]
  have n1 : (sgn ch == "*") = false := by rcases hch with rfl | rfl | rfl <;> decide
  have n2 : (sgn ch == "?") = false := by rcases hch with rfl | rfl | rfl <;> decide
  have n3 : (sgn ch == "[") = false := by rcases hch with rfl | rfl | rfl <;> decide
  conv in (trIf) => whnf
  refine EXs.cons (EX.ifF (b := sgn ch == "*") (S₁ := S) ?_ n1 (EXs.cons (EX.ifF (b := sgn ch == "?") (S₁ := S) ?_ n2 (EXs.cons (EX.ifF (b := sgn ch == "[") (S₁ := S) ?_ n3 ?_) EXs.nil)) EXs.nil)) EXs.nil
  · repeat' array_get_dec
  · repeat' array_get_dec
  · repeat' array_get_dec
  · refine EXs.expr (p := .none) (S₁ := S.set r (.list (l ++ [.str (sgn ch)]))) (EV.callBound (S₁ := S) ?_ had (ELs.cons (p := .str (sgn ch)) (S₁ := S) (EV.callF ge me Ke (ELs.cons (p := .str (sgn ch)) (S₁ := S) ?_ ELs.nil) hesc) ELs.nil) had hr (by omega)) he.hi rfl EXs.nil
    · repeat' array_get_dec
    · repeat' array_get_dec
noncomputable def brB : List Stmt := bodyOf ifB
noncomputable def brS (i : Nat) : Stmt := brB.getD i default
noncomputable def brE : List Stmt := orelseOf (brS 4)
noncomputable def brT (i : Nat) : Stmt := brE.getD i default
noncomputable def brL : List Stmt := orelseOf ((orelseOf (brT 4)).getD 0 default)
theorem brB_is : brB = [brS 0, brS 1, brS 2, brS 3, brS 4] := rfl
theorem brE_is : brE = [brT 0, brT 1, brT 2, brT 3, brT 4] := rfl
noncomputable abbrev cpA (pat : Str) (i : Nat) : Str := sgn (pat.cps.getD i 0)
/-- the sign behind j's closing bracket -/
theorem br_loop {cc : Addr} (he : TrEnv env cc) {pat : Str} {st r ad i : Nat} {oc os : Option PV} {S : List PO} (hz : pat.length ≤ 1000) : ∀ (d j0 j : Nat), j = j0 + d → j < pat.length → (∀ k, j0 ≤ k → k < j → (cpA pat k != "]") = true) → (cpA pat j != "]") = false →
    WLoop prog w mg G k env (testOf (brS 3)) (bodyOf (brS 3)) (V xTr (vTr pat st r ad i oc (some (.int j0)) os)) S (.next (V xTr (vTr pat st r ad i oc (some (.int j)) os)) S) := by
  have nm := nmTr
  have hk := he.hk
  intro d
  induction d with
  | zero =>
    intro j0 j hj hlt _ hn
    have hs : SUB prog w mg G k S (.str pat) (.int j) (.str (cpA pat j)) S := SUB.str (by omega) (by omega) (chN hlt)
    obtain rfl : j = j0 := by omega
    refine WLoop.stop ?_
    sizeOf_list_dec
    refine EB.and (x := decide ((j : Int) < pat.length)) (S₁ := S) ?_ (fun _ => ?_) (fun h => absurd h (by rw [decide_eq_true (by omega)]; simp))
    · repeat' array_get_dec
    · rw [← hn]
      repeat' array_get_dec
  | succ d ih =>
    intro j0 j hj hlt hall hn
    have hs : SUB prog w mg G k S (.str pat) (.int j0) (.str (cpA pat j0)) S := SUB.str (by omega) (by omega) (chN (by omega))
    have h := ih (j0 + 1) j (by omega) hlt (fun k k1 k2 => hall k (by omega) k2) hn
    have h1 := hall j0 (by omega) (by omega)
    refine WLoop.next (S₁ := S) ?_ ?_ h
    · sizeOf_list_dec
      refine EB.and (x := decide ((j0 : Int) < pat.length)) (S₁ := S) ?_ (fun _ => ?_) (fun h => absurd h (by rw [decide_eq_true (by omega)]; simp))
      · repeat' array_get_dec
      · rw [← h1]
        repeat' array_get_dec
    · sizeOf_list_dec
      unfold vTr
      rw [show ((j0 + 1 : Nat) : Int) = (j0 : Int) + 1 from by omega]
      repeat' array_get_dec
structure BrFacts (pat : Str) (i j : Nat) (eb : Bool) (stuff stuff' : Str) : Prop where
  z : pat.length ≤ 1000
  h0 : i < pat.length
  h1 : (cpA pat i == "!") = eb
  h2 : (cpA pat (i + eb.toNat) == "]") = false
  h3 : i + eb.toNat ≤ j ∧ j < pat.length
  h4 : ∀ k, i + eb.toNat ≤ k → k < j → (cpA pat k != "]") = true
  h5 : (cpA pat j != "]") = false
  h6 : Txt.slice pat (some i) (some j) = stuff
  h7 : (!(!(Builtin.Str.occurrences stuff "-" 0 stuff.length 1).isEmpty)) = true
  h8 : (Builtin.Str.occurrences stuff "\\" 0 stuff.length (stuff.length + 1)).isEmpty = true
  h9 : 0 < stuff.cps.size ∧ stuff.cps.size ≤ 100
  hA : ∃ n, n ≤ 1000 ∧ failsB n (Sre.forSearch #[14, 14, 4, 1, 1, 9, 0, 64, 0, 1342177280, 0, 0, 0, 0, 0, 17, 0, 13, 11, 9, 0, 64, 0, 1342177280, 0, 0, 0, 0, 0, 17, 1, 1] stuff.cps 1 0 stuff.cps.size false) = true
  hB : (stuff == "!") = false
  hC : (cpA stuff 0 == "!") = eb
  hD : if eb then stuff' = ("^" : Str) ++ Txt.slice stuff (some 1) none ∧ (Txt.slice stuff (some 1) none).length ≤ 100 else stuff' = stuff ∧ (["^", "["].any (· == cpA stuff 0)) = false
  hE : stuff'.length ≤ 200
theorem tr_br {cc Pt : Addr} (TT : TrTop prog w mg G cc Pt) (he : TrEnv env cc) {pat : Str} {st r ad i tb j : Nat} {eb : Bool} {stuff stuff' : Str} {oc oj os : Option PV} {S : List PO} {l : List PV} (hi : i < pat.length) (hc : pat.cps.getD i 0 = 91) (B : BrFacts pat (i + 1) j eb stuff stuff')
    (hr : S[r]? = some (.list l)) (had : S[ad]? = some (.bound r "list.append")) (htb : S[tb]? = some (.tab Pt)) (hl : l.length ≤ 1000) :
    EXs prog w mg G k env (V xTr (vTr pat st r ad i oc oj os)) S (bodyOf trW) (.next (V xTr (vTr pat st r ad (j + 1) (some (.str (sgn 91))) (some (.int j)) (some (.str stuff')))) (S.set r (.list (l ++ [.str (("[" : Str) ++ stuff' ++ "]")])))) := by
  have nm := nmTr
  have hk := he.hk
  have hb : (2000 : Nat) ≤ sizeLine := Nat.le_of_ble_eq_true rfl
  have hz := B.z
  have hz' : pat.length ≤ sizeLine := by omega
  refine tr_head he hi (by omega) ?_
  rw [hc]
  have s1 : SUB prog w mg G k S (.str pat) (.int ((i + 1 : Nat) : Int)) (.str (cpA pat (i + 1))) S := SUB.str (by omega) (by omega) (chN B.h0)
  have h3 := B.h3
  have s2 : SUB prog w mg G k S (.str pat) (.int ((i + 1 + eb.toNat : Nat) : Int)) (.str (cpA pat (i + 1 + eb.toNat))) S := SUB.str (by omega) (by omega) (chN (by omega))
  have h1 := B.h1
  have h2 := B.h2
  -- b0: j = i
  have e0 : EX prog w mg G k env (V xTr (vTr pat st r ad (i + 1) (some (.str (sgn 91))) oj os)) S (brS 0) (.next (V xTr (vTr pat st r ad (i + 1) (some (.str (sgn 91))) (some (.int ((i + 1 : Nat) : Int))) os)) S) := by
    conv in (brS 0) => whnf
    refine EX.asg nm hk (p := .int ((i + 1 : Nat) : Int)) (S₁ := S) ?_ (.tl (.tl (.tl (.tl (.tl (.tl (.tl (.tl .hd)))))))) rfl
    repeat' array_get_dec
  have e1 : EX prog w mg G k env (V xTr (vTr pat st r ad (i + 1) (some (.str (sgn 91))) (some (.int ((i + 1 : Nat) : Int))) os)) S (brS 1) (.next (V xTr (vTr pat st r ad (i + 1) (some (.str (sgn 91))) (some (.int ((i + 1 + eb.toNat : Nat) : Int))) os)) S) := by
    conv in (brS 1) => whnf
    have t : EB prog w mg G k env (V xTr (vTr pat st r ad (i + 1) (some (.str (sgn 91))) (some (.int ((i + 1 : Nat) : Int))) os)) S (testOf (brS 1)) eb S := by
      sizeOf_list_dec
      refine EB.and (x := decide (((i + 1 : Nat) : Int) < pat.length)) (S₁ := S) ?_ (fun _ => ?_) (fun h => absurd h (by rw [decide_eq_true (by have := B.h0; omega)]; simp))
      · repeat' array_get_dec
      · rw [← h1]
        repeat' array_get_dec
    conv at t in (testOf _) => whnf
    cases eb with
    | true =>
      refine EX.ifT t rfl ?_
      unfold vTr
      rw [show ((i + 1 + Bool.toNat true : Nat) : Int) = ((i + 1 : Nat) : Int) + 1 from by first | (simp; done) | (simp; omega)]
      repeat' array_get_dec
    | false => exact EX.ifF t rfl EXs.nil
  have e2 : EX prog w mg G k env (V xTr (vTr pat st r ad (i + 1) (some (.str (sgn 91))) (some (.int ((i + 1 + eb.toNat : Nat) : Int))) os)) S (brS 2) (.next (V xTr (vTr pat st r ad (i + 1) (some (.str (sgn 91))) (some (.int ((i + 1 + eb.toNat : Nat) : Int))) os)) S) := by
    conv in (brS 2) => whnf
    refine EX.ifF (b := false) (S₁ := S) (EB.and (x := decide (((i + 1 + eb.toNat : Nat) : Int) < pat.length)) (S₁ := S) ?_ (fun _ => ?_) (fun h => absurd h (by rw [decide_eq_true (by omega)]; simp))) rfl EXs.nil
    · repeat' array_get_dec
    · rw [← h2]
      repeat' array_get_dec
  have e3 := br_loop (prog := prog) (w := w) (mg := mg) (G := G) (k := k) he (pat := pat) (st := st) (r := r) (ad := ad) (i := i + 1) (oc := some (.str (sgn 91))) (os := os) (S := S) hz (j - (i + 1 + eb.toNat)) (i + 1 + eb.toNat) j (by omega) h3.2 B.h4 B.h5
  have e3w := EX.while_ (pos := (match brS 3 with | .While _ _ _ p => p | _ => ⟨0,0,0,0⟩)) e3
  have hsl : stuff.length = stuff.cps.size := rfl
  obtain ⟨q1, q2⟩ := B.h9
  obtain ⟨nA, hA1, hA2⟩ := B.hA
  -- inside
  have t0 : EX prog w mg G k env (V xTr (vTr pat st r ad (i + 1) (some (.str (sgn 91))) (some (.int j)) os)) S (brT 0) (.next (V xTr (vTr pat st r ad (i + 1) (some (.str (sgn 91))) (some (.int j)) (some (.str stuff)))) S) := by
    conv in (brT 0) => whnf
    rw [← B.h6]
    refine EX.asg nm hk (p := .str (Txt.slice pat (some ((i + 1 : Nat) : Int)) (some (j : Int)))) (S₁ := S) (EV.sliceS (S₁ := S) (S₂ := S) ?_ (EPart.some ?_) (EPart.some ?_) hz') (.tl (.tl (.tl (.tl (.tl (.tl (.tl (.tl (.tl .hd))))))))) rfl
    · repeat' array_get_dec
    · repeat' array_get_dec
    · repeat' array_get_dec
  have t1 : EX prog w mg G k env (V xTr (vTr pat st r ad (i + 1) (some (.str (sgn 91))) (some (.int j)) (some (.str stuff)))) S (brT 1) (.next (V xTr (vTr pat st r ad (i + 1) (some (.str (sgn 91))) (some (.int j)) (some (.str stuff)))) S) := by
    conv in (brT 1) => whnf
    have hrep : OPL prog w mg G k S [.str stuff, .str "\\", .str "\\\\"] (fun vs => PySem.call (.builtin "str.replace") vs) (.str stuff) S := OPL.replaceNo B.h8
    refine EX.ifT (b := !(!(Builtin.Str.occurrences stuff "-" 0 stuff.length 1).isEmpty)) (S₁ := S) (EB.cmp (S₁ := S) (S₂ := S) EV.str ?_ O.notInS) B.h7 ?_
    · repeat' array_get_dec
    · refine EXs.asg nm hk (p := .str stuff) (S₁ := S) (EV.meth (S₁ := S) (S₂ := S) (p := .str stuff) (ps := [.str "\\", .str "\\\\"]) ?_ (MT.str PySem.F.slot_str_replace PySem.F.type_str_replace) ?_ hrep) (.tl (.tl (.tl (.tl (.tl (.tl (.tl (.tl (.tl .hd))))))))) rfl EXs.nil
      · repeat' array_get_dec
      · repeat' array_get_dec
  have t2 : EX prog w mg G k env (V xTr (vTr pat st r ad (i + 1) (some (.str (sgn 91))) (some (.int j)) (some (.str stuff)))) S (brT 2) (.next (V xTr (vTr pat st r ad (i + 1) (some (.str (sgn 91))) (some (.int j)) (some (.str stuff)))) S) := by
    conv in (brT 2) => whnf
    refine EX.asg nm hk (p := .str stuff) (S₁ := S) (EV.reSub (x := stuff) TT he.gr he.hc htb (by rfl) (by rfl) ?_ q1 (by omega) hA1 hA2) (.tl (.tl (.tl (.tl (.tl (.tl (.tl (.tl (.tl .hd))))))))) rfl
    repeat' array_get_dec
  have t3 : EX prog w mg G k env (V xTr (vTr pat st r ad (i + 1) (some (.str (sgn 91))) (some (.int j)) (some (.str stuff)))) S (brT 3) (.next (V xTr (vTr pat st r ad (j + 1) (some (.str (sgn 91))) (some (.int j)) (some (.str stuff)))) S) := by
    conv in (brT 3) => whnf
    unfold vTr
    rw [show ((j + 1 : Nat) : Int) = (j : Int) + 1 from by omega]
    refine EX.asg nm hk (p := .int ((j : Int) + 1)) (S₁ := S) ?_ (.tl (.tl (.tl (.tl (.tl .hd))))) rfl
    repeat' array_get_dec
  have sf : SUB prog w mg G k S (.str stuff) (.int 0) (.str (cpA stuff 0)) S := SUB.str (by decide) (by decide) (chN (i := 0) (by omega))
  have hadd : EXs prog w mg G k env (V xTr (vTr pat st r ad (j + 1) (some (.str (sgn 91))) (some (.int j)) (some (.str stuff')))) S [brL.getD 1 default] (.next (V xTr (vTr pat st r ad (j + 1) (some (.str (sgn 91))) (some (.int j)) (some (.str stuff')))) (S.set r (.list (l ++ [.str (("[" : Str) ++ stuff' ++ "]")])))) := by
    conv in (List.getD brL 1 default) => whnf
    have hE := B.hE
    refine EXs.expr (p := .none) (S₁ := S.set r (.list (l ++ [.str (("[" : Str) ++ stuff' ++ "]")]))) (EV.callBound (S₁ := S) ?_ had (ELs.cons (p := .str (("[" : Str) ++ stuff' ++ "]")) (S₁ := S) (EV.fstr (x := stuff') ?_ ?_) ELs.nil) had hr (by omega)) he.hi rfl EXs.nil
    · repeat' array_get_dec
    · repeat' array_get_dec
    · show 1 + stuff'.length + 1 ≤ 1000
      omega
  have hL : EXs prog w mg G k env (V xTr (vTr pat st r ad (j + 1) (some (.str (sgn 91))) (some (.int j)) (some (.str stuff)))) S brL (.next (V xTr (vTr pat st r ad (j + 1) (some (.str (sgn 91))) (some (.int j)) (some (.str stuff')))) (S.set r (.list (l ++ [.str (("[" : Str) ++ stuff' ++ "]")])))) := by
    have e : brL = [brL.getD 0 default, brL.getD 1 default] := rfl
    rw [e]
    refine EXs.cons (ρ₁ := V xTr (vTr pat st r ad (j + 1) (some (.str (sgn 91))) (some (.int j)) (some (.str stuff')))) (S₁ := S) ?_ hadd
    conv in (List.getD brL 0 default) => whnf
    have hC := B.hC
    have hD := B.hD
    cases eb with
    | true =>
      rw [if_pos rfl] at hD
      obtain ⟨hD, hDl⟩ := hD
      subst hD
      refine EX.ifT (b := cpA stuff 0 == "!") (S₁ := S) ?_ hC ?_
      · repeat' array_get_dec
      · refine EXs.asg nm hk (p := .str (("^" : Str) ++ Txt.slice stuff (some 1) none)) (S₁ := S) (EV.bin (S₁ := S) (S₂ := S) EV.str (EV.sliceS (S₁ := S) (S₂ := S) ?_ (EPart.some EV.int) EPart.no (by omega)) (O.addS ?_)) (.tl (.tl (.tl (.tl (.tl (.tl (.tl (.tl (.tl .hd))))))))) rfl EXs.nil
        · repeat' array_get_dec
        · have : ("^" : Str).length = 1 := rfl
          omega
    | false =>
      rw [if_neg (by simp)] at hD
      obtain ⟨hD, hDn⟩ := hD
      subst hD
      refine EX.ifF (b := cpA stuff' 0 == "!") (S₁ := S) ?_ hC ?_
      · repeat' array_get_dec
      · refine EXs.cons (EX.ifF (b := ["^", "["].any (· == cpA stuff' 0)) (S₁ := S) (EB.cmp (p := .str (cpA stuff' 0)) (q := .tup ((["^", "["] : List Str).map .str)) (S₁ := S) (S₂ := S) ?_ ?_ O.inTupS) hDn EXs.nil) EXs.nil
        · repeat' array_get_dec
        · refine EV.tup (ps := [.str "^", .str "["]) ?_ (Nat.le_of_ble_eq_true rfl)
          repeat' array_get_dec
  have t4 : EX prog w mg G k env (V xTr (vTr pat st r ad (j + 1) (some (.str (sgn 91))) (some (.int j)) (some (.str stuff)))) S (brT 4) (.next (V xTr (vTr pat st r ad (j + 1) (some (.str (sgn 91))) (some (.int j)) (some (.str stuff')))) (S.set r (.list (l ++ [.str (("[" : Str) ++ stuff' ++ "]")])))) := by
    have eT : brT 4 = .If (testOf (brT 4)) (bodyOf (brT 4)) [.If (testOf ((orelseOf (brT 4)).getD 0 default)) (bodyOf ((orelseOf (brT 4)).getD 0 default)) brL (match (orelseOf (brT 4)).getD 0 default with | .If _ _ _ p => p | _ => ⟨0,0,0,0⟩)] (match brT 4 with | .If _ _ _ p => p | _ => ⟨0,0,0,0⟩) := rfl
    rw [eT]
    refine EX.ifF (b := false) (S₁ := S) ?_ rfl (EXs.cons (EX.ifF (b := stuff == "!") (S₁ := S) ?_ B.hB hL) EXs.nil)
    · conv in (testOf (brT 4)) => whnf
      have hne : (!((stuff.length : Int) != 0)) = false := by
        have : stuff.length ≠ 0 := by omega
        simp [this]
      rw [← hne]
      refine EB.not (EB.val (p := .str stuff) ?_ (TR.str (by omega)))
      repeat' array_get_dec
    · conv in (testOf _) => whnf
      repeat' array_get_dec
  have hE : EXs prog w mg G k env (V xTr (vTr pat st r ad (i + 1) (some (.str (sgn 91))) (some (.int j)) os)) S brE (.next (V xTr (vTr pat st r ad (j + 1) (some (.str (sgn 91))) (some (.int j)) (some (.str stuff')))) (S.set r (.list (l ++ [.str (("[" : Str) ++ stuff' ++ "]")])))) := by
    rw [brE_is]
    exact EXs.cons t0 (EXs.cons t1 (EXs.cons t2 (EXs.cons t3 (EXs.cons t4 EXs.nil))))
  have eB : trIf = .If (testOf trIf) (bodyOf trIf) [.If (testOf ifQ) (bodyOf ifQ) [.If (testOf ifB) [brS 0, brS 1, brS 2, .While (testOf (brS 3)) (bodyOf (brS 3)) [] (match brS 3 with | .While _ _ _ p => p | _ => ⟨0,0,0,0⟩), .If (testOf (brS 4)) (bodyOf (brS 4)) brE (match brS 4 with | .If _ _ _ p => p | _ => ⟨0,0,0,0⟩)] (orelseOf ifB) (match ifB with | .If _ _ _ p => p | _ => ⟨0,0,0,0⟩)] (match ifQ with | .If _ _ _ p => p | _ => ⟨0,0,0,0⟩)] (match trIf with | .If _ _ _ p => p | _ => ⟨0,0,0,0⟩) := rfl
  rw [eB]
  refine EXs.cons (EX.ifF (b := sgn 91 == "*") (S₁ := S) ?_ (by decide) (EXs.cons (EX.ifF (b := sgn 91 == "?") (S₁ := S) ?_ (by decide) (EXs.cons (EX.ifT (b := sgn 91 == "[") (S₁ := S) ?_ (by decide) (EXs.cons e0 (EXs.cons e1 (EXs.cons e2 (EXs.cons e3w (EXs.cons (EX.ifF (b := decide ((j : Int) ≥ pat.length)) (S₁ := S) ?_ (decide_eq_false (by omega)) hE) EXs.nil)))))) EXs.nil)) EXs.nil)) EXs.nil
  · conv in (testOf _) => whnf
    repeat' array_get_dec
  · conv in (testOf _) => whnf
    repeat' array_get_dec
  · conv in (testOf _) => whnf
    repeat' array_get_dec
  · conv in (testOf _) => whnf
    repeat' array_get_dec
end
set_option tactic.hygienic false

/-! the six patterns -/
section
variable {prog : Program} {w : World} {mg : Str → Option Value} {G : Heap} {k : Nat}
/-- one turn's doing -/
inductive Turn (pat : Str) (st : Nat) : Nat → List PV → Nat → List PV → Prop where
  | star {i : Nat} {l : List PV} (h0 : i < pat.length) (hc : pat.cps.getD i 0 = 42) (hlast : l = [] ∨ ∃ y, l.getLast? = some (.str y)) : Turn pat st i l (i + 1) (l ++ [.obj st])
  | q {i : Nat} {l : List PV} (h0 : i < pat.length) (hc : pat.cps.getD i 0 = 63) : Turn pat st i l (i + 1) (l ++ [.str "."])
  | plain {i ch : Nat} {l : List PV} (h0 : i < pat.length) (hc : pat.cps.getD i 0 = ch) (hch : ch = 34 ∨ ch = 97 ∨ ch = 98) : Turn pat st i l (i + 1) (l ++ [.str (sgn ch)])
  | br {i j : Nat} {l : List PV} {eb : Bool} {stuff stuff' : Str} (h0 : i < pat.length) (hc : pat.cps.getD i 0 = 91) (B : BrFacts pat (i + 1) j eb stuff stuff') : Turn pat st i l (j + 1) (l ++ [.str (("[" : Str) ++ stuff' ++ "]")])
inductive Turns (pat : Str) (st : Nat) : Nat → List PV → Nat → List PV → Prop where
  | nil {i : Nat} {l : List PV} : Turns pat st i l i l
  | cons {i i' i'' : Nat} {l l' l'' : List PV} (t : Turn pat st i l i' l') (r : Turns pat st i' l' i'' l'') : Turns pat st i l i'' l''
theorem Turn.len {pat : Str} {st i i' : Nat} {l l' : List PV} (t : Turn pat st i l i' l') : l'.length = l.length + 1 ∧ i < i' ∧ i' ≤ pat.length ∧ i < pat.length := by
  cases t with
  | star h0 hc hl => exact ⟨by simp, by omega, by omega, h0⟩
  | q h0 hc => exact ⟨by simp, by omega, by omega, h0⟩
  | plain h0 hc hch => exact ⟨by simp, by omega, by omega, h0⟩
  | br h0 hc B => have := B.h3; exact ⟨by simp, by omega, by omega, h0⟩
theorem tr_turns {cc Pt : Addr} (T : Top mg G) (TT : TrTop prog w mg G cc Pt) {env : Env} (he : TrEnv env cc) {pat : Str} {st r ad tb : Nat} (hz : pat.length ≤ 100) (hrad : r ≠ ad) (hrtb : r ≠ tb) {i : Nat} {l : List PV} {i' : Nat} {l' : List PV} (t : Turns pat st i l i' l') : ∀ (oc oj os : Option PV) (S : List PO), i' = pat.length → S[r]? = some (.list l) → S[ad]? = some (.bound r "list.append") → S[tb]? = some (.tab Pt) → l.length ≤ i →
    ∃ oc' oj' os', WLoop prog w mg G (k + 1) env (testOf trW) (bodyOf trW) (V xTr (vTr pat st r ad i oc oj os)) S (.next (V xTr (vTr pat st r ad i' oc' oj' os')) (S.set r (.list l'))) := by
  induction t with
  | nil =>
    intro oc oj os S hi hr had htb hl
    rw [set_same hr]
    refine ⟨oc, oj, os, WLoop.stop ?_⟩
    have := tr_test (prog := prog) (w := w) (mg := mg) (G := G) (k := k + 1) he (pat := pat) (st := st) (r := r) (ad := ad) (oc := oc) (oj := oj) (os := os) (S := S) (i := pat.length)
    rw [decide_eq_false (by omega)] at this
    rw [hi]; exact this
  | @cons i i1 i2 l l1 l2 t _ ih =>
    intro oc oj os S hi hr had htb hl
    obtain ⟨n1, n2, n3, n4⟩ := t.len
    have hsr : (S.set r (.list l1))[r]? = some (.list l1) := List.getElem?_set_self (List.getElem?_eq_some_iff.mp hr).1
    have hsa : (S.set r (.list l1))[ad]? = some (.bound r "list.append") := by rw [List.getElem?_set_ne hrad]; exact had
    have hst : (S.set r (.list l1))[tb]? = some (.tab Pt) := by rw [List.getElem?_set_ne hrtb]; exact htb
    have ht := tr_test (prog := prog) (w := w) (mg := mg) (G := G) (k := k + 1) he (pat := pat) (st := st) (r := r) (ad := ad) (oc := oc) (oj := oj) (os := os) (S := S) (i := i)
    rw [decide_eq_true (by omega)] at ht
    have go : ∀ oc1 oj1 os1, EXs prog w mg G (k + 1) env (V xTr (vTr pat st r ad i oc oj os)) S (bodyOf trW) (.next (V xTr (vTr pat st r ad i1 oc1 oj1 os1)) (S.set r (.list l1))) →
        ∃ oc' oj' os', WLoop prog w mg G (k + 1) env (testOf trW) (bodyOf trW) (V xTr (vTr pat st r ad i oc oj os)) S (.next (V xTr (vTr pat st r ad i2 oc' oj' os')) (S.set r (.list l2))) := fun oc1 oj1 os1 hb => by
      obtain ⟨a, b, c, W⟩ := ih oc1 oj1 os1 (S.set r (.list l1)) hi hsr hsa hst (by omega)
      rw [List.set_set] at W
      exact ⟨a, b, c, WLoop.next ht hb W⟩
    cases t with
    | star h0 hc hlast => exact go _ _ _ (tr_star he h0 (by omega) hc hr had (by omega) hlast)
    | q h0 hc => exact go _ _ _ (tr_q he h0 (by omega) hc hr had (by omega))
    | plain h0 hc hch => exact go _ _ _ (tr_plain T TT he h0 (by omega) hc hch hr had (by omega))
    | br h0 hc B => exact go _ _ _ (tr_br TT he h0 hc B hr had htb (by omega))
theorem translate_ok {cc Pt : Addr} (T : Top mg G) (TT : TrTop prog w mg G cc Pt) : ∃ f, mg "_translate" = some (.ref f) ∧ Kp G (.ref f) ∧ ∀ (k : Nat) (S : List PO) (pat : Str) (st tb : Nat) (l : List PV), pat.length ≤ 100 → st < S.length → S[tb]? = some (.tab Pt) → Turns pat st 0 [] pat.length l →
    OPL prog w mg G (k + 2) S [.str pat, .obj st, .str "."] (fun vs => PySem.call (.ref f) vs) (.obj S.length) (S ++ [.list l] ++ [PO.bound S.length "list.append"]) := by
  obtain ⟨f, fd, hm, D, hs⟩ := T.fn 12 (by decide)
  refine ⟨f, hm, D.kp, fun k S pat st tb l hz hst htb ht => ?_⟩
  refine FN.go (as := ["pat", "STAR", "QUESTION_MARK"]) (ys := ["res", "add", "i", "n", "c", "j", "stuff", "chunks", "k", "chunk"]) D rfl fun L => ?_
  have hcode : fd.code = .ref cc := by
    obtain ⟨o, ho, hd⟩ := D.at_
    exact TT.code f o fd hm ho hd
  have he : TrEnv (fenv fd f L) cc := by
    refine ⟨kinds 12 xTr (by decide +kernel) (env := fenv fd f L) hs, ?_, ?_, ?_, ?_, hcode⟩
    · unfold Env.kindOf; show fd.scope.names.lookup _ = _; rw [hs]; decide +kernel
    · unfold Env.kindOf; show fd.scope.names.lookup _ = _; rw [hs]; decide +kernel
    · unfold Env.kindOf; show fd.scope.names.lookup _ = _; rw [hs]; decide +kernel
    · unfold interactive; show (fd.scope.kind == _ && _) = _; rw [D.kind]; rfl
  have hsc : (fenv fd f L).scope = sc 12 := hs
  generalize fenv fd f L = env at he hsc
  have nm := nmTr
  have hk := he.hk
  have gl := he.gl
  have hzz : pat.length ≤ sizeLine := Nat.le_trans hz (Nat.le_of_ble_eq_true rfl)
  have hlt : tb < S.length := (List.getElem?_eq_some_iff.mp htb).1
  show EXs prog w mg G (k + 1) env (V xTr [some (.str pat), some (.obj st), some (.str "."), none, none, none, none, none, none, none, none, none, none]) S (bd 12) _
  obtain ⟨oc, oj, os, W⟩ := tr_turns (prog := prog) (w := w) (mg := mg) (G := G) (k := k) T TT he (pat := pat) (st := st) (r := S.length) (ad := S.length + 1) (tb := tb) hz (by omega) (by omega) ht none none none (S ++ [.list []] ++ [PO.bound S.length "list.append"]) rfl (by simp) (by simp) (app_get (app_get htb)) (by simp)
  have eS : (S ++ [PO.list []] ++ [PO.bound S.length "list.append"]).set S.length (.list l) = S ++ [.list l] ++ [PO.bound S.length "list.append"] := by
    rw [List.append_assoc, List.append_assoc, List.set_append_right _ _ (Nat.le_refl _), Nat.sub_self]
    rfl
  rw [eS] at W
  have hlen : OPL prog w mg G (k + 1) (S ++ [.list []] ++ [PO.bound S.length "list.append"]) [.str pat] (fun vs => PySem.call (.builtin "len") vs) (.int pat.length) (S ++ [.list []] ++ [PO.bound S.length "list.append"]) := OPL.lenS hzz
  have e12 : bd 12 = [(bd 12).getD 0 default, (bd 12).getD 1 default, (bd 12).getD 2 default, .While (testOf trW) (bodyOf trW) [] (match trW with | .While _ _ _ p => p | _ => ⟨0,0,0,0⟩), (bd 12).getD 4 default, (bd 12).getD 5 default] := rfl
  rw [e12]
  conv in (List.getD _ 0 default) => whnf
  refine EXs.asg nm hk (p := .obj S.length) (S₁ := S ++ [.list []]) (EV.list ELs.nil (Nat.zero_le _)) (.tl (.tl (.tl .hd))) rfl ?_
  conv in (List.getD _ 1 default) => whnf
  refine EXs.asg nm hk (p := .obj (S ++ [PO.list []]).length) (S₁ := S ++ [.list []] ++ [PO.bound S.length "list.append"]) (EV.attrApp (EV.nm nm (.tl (.tl (.tl .hd)))) lastGet) (.tl (.tl (.tl (.tl .hd)))) rfl ?_
  conv in (List.getD _ 2 default) => whnf
  refine EXs.cons (ρ₁ := V xTr (vTr pat st S.length (S.length + 1) 0 none none none)) (S₁ := S ++ [.list []] ++ [PO.bound S.length "list.append"]) ?_ ?_
  · have eL : (S ++ [PO.list []]).length = S.length + 1 := by simp
    rw [eL]
    refine EX.asgSw nm hk (p := .int 0) (q := .int pat.length) ?_ (.tl (.tl (.tl (.tl (.tl (.tl .hd)))))) (.tl (.tl (.tl (.tl (.tl .hd))))) rfl ?_
    · refine EV.tup (ELs.cons (p := .int 0) (S₁ := S ++ [.list []] ++ [PO.bound S.length "list.append"]) EV.int (ELs.cons (p := .int pat.length) (S₁ := S ++ [.list []] ++ [PO.bound S.length "list.append"]) ?_ ELs.nil)) (Nat.le_of_ble_eq_true rfl)
      repeat' array_get_dec
    · have hb : (env.blockKind != .function) = false := by unfold Env.blockKind; rw [hsc]; decide +kernel
      have k1 : (env.kindOf "i" == some .local) = true := by unfold Env.kindOf; rw [hsc]; decide +kernel
      have k2 : (env.kindOf "n" == some .local) = true := by unfold Env.kindOf; rw [hsc]; decide +kernel
      unfold swappedStores
      simp only [List.filterMap_cons, List.filterMap_nil, k1, k2, hb]
      first | rfl | kernel_rfl | decide
  · refine EXs.cons (EX.while_ W) ?_
    conv in (List.getD _ 4 default) => whnf
    conv in (List.getD _ 5 default) => whnf
    refine EXs.cons (EX.assertT (b := ((pat.length : Int) == pat.length)) (S₁ := S ++ [.list l] ++ [PO.bound S.length "list.append"]) ?_ (by simp)) ?_
    · repeat' array_get_dec
    · repeat' array_get_dec
end
set_option tactic.hygienic true

section
variable {prog : Program} {w : World} {mg : Str → Option Value} {G : Heap} {k : Nat} {env : Env} {ρ : Vars} {S S₁ S₂ S' : List PO}
/-- f(*e) -/
theorem EV.callStar {x : Str} {p p2 pos : Pos} {e : Expr} {f : Addr} {qs : List PV} {r : PV} (hk : env.kindOf x = some .globalImplicit) (hm : mg x = some (.ref f)) (hK : Kp G (.ref f)) (h1 : EV prog w mg G k env ρ S e (.tup qs) S₁)
    (h2 : OPL prog w mg G k S₁ qs (fun vs => PySem.call (.ref f) vs) r S') (hz : qs.length ≤ sizeLine) (hd : (x == ("__debug__" : Str)) = false := by decide) (he : starEach [.Starred e p2] env = [(true, eval e env)] := by rfl) :
    EV prog w mg G k env ρ S (.Call (.Name x p) [.Starred e p2] [] pos) r S' := Lock.mk fun A σ s T Q E H => by
  have h0 : EV prog w mg G k env ρ S (.Name x p) (.fn (.ref f)) S := EV.glob hk hm hd
  refine wpAny_Call_Name_kw (h0.run A σ s T _ _ fun v σ₁ h₁ tk₁ R₁ X₁ V₁ => ?_)
  (first | (obtain ⟨_, rfl⟩ := VR.inv V₁) | (obtain rfl := VR.inv V₁))
  have T₁ := T.ext R₁ X₁
  rw [he]
  refine ks_call (P := fun h => ∀ b o, G.get? b = some o → h.get? b = some o) rfl (fun h hP => hK _ h hP) (ks_lone (h1.run A σ₁ _ T₁ _ _ fun v σ₂ h₂ tk₂ R₂ X₂ V₂ => ?_))
  have T₂ := T₁.ext R₂ X₂
  cases V₂ with
  | tup hF ho hc hdt hl hi =>
    rename_i a o ws n
    have hT' : ({ s with heap := h₂, toks := tk₂ } : Shared).TypeIs (.ref a) "tuple" := ⟨o, ho, hc⟩
    unfold StarOf notIterableAtAll
    refine wpAny_bind (wpAny_specialOf hT' PySem.F.slot_tuple_iter.lookup (wpAny_pure ⟨rfl, ?_⟩))
    refine wpAny_collect_seq (s := { s with heap := h₂, toks := tk₂ }) a (.inr rfl) ho hc hdt (fun h' hk' => ?_) (by rw [hl]; exact hz)
    have R' : Rel w.params G σ₂ S₁ h' := R₂.keeps hk'
    have X' : Ext σ₂ S₁.length h₂ σ₂ S₁.length h' := Ext.ofKeeps hk'
    have T' := T₂.ext R' X'
    refine ⟨R'.ground, ?_⟩
    have V' : VRs σ₂ S₁.length h' ws.toList.toArray qs := ⟨by simpa using hl, fun i v p a b => (hi i v p (by simpa using a) b).ext R₂ X'⟩
    exact h2.run A σ₂ { s with heap := h', toks := tk₂ } _ T'.gd T'.room T'.stk T'.rel V' _ _ fun v σ' h'' tk' R X V => H v σ' h'' tk' R (Ext.trans R₁ X₁ (Ext.trans R₂ X₂ (Ext.trans R' X' X))) V
noncomputable def zipP (l1 l2 : List PV) : List PV := (l1.zip l2).map fun q => .tup [q.1, q.2]
theorem src_zip {A : Around} {n1 n2 : Nat} {l1 l2 : List PV} {z TI TO i1 i2 : Addr} {elts : List Expr} {x1 : Nat} {tpos : Pos} (hh : A.handled = none) (hlen : l1.length = l2.length) :
    Src prog w G A [z, TI, TO, i1, i2] (.ref z) (.Tuple elts x1 tpos) (zipP l1 l2) (fun S => S[n1]? = some (.list l1) ∧ S[n2]? = some (.list l2))
      (fun σ h i => (IsZip h z TI TO .none ∧ IsPair h TI (.ref i1) (.ref i2) ∧ (∃ a b, IsPair h TO a b) ∧ h.IsListIter i1 (σ.p n1) i ∧ h.IsListIter i2 (σ.p n2) i) ∧ ZipApart z TI TO i1 i2 (σ.p n1) (σ.p n2) ∧ (∀ a ∈ [z, TI, TO, i1, i2], G.get? a = none ∧ σ.F a)) := by
  have prv : ∀ (σ : Lo) (S : List PO) h i, Rel w.params G σ S h → ((IsZip h z TI TO .none ∧ IsPair h TI (.ref i1) (.ref i2) ∧ (∃ a b, IsPair h TO a b) ∧ h.IsListIter i1 (σ.p n1) i ∧ h.IsListIter i2 (σ.p n2) i) ∧ ZipApart z TI TO i1 i2 (σ.p n1) (σ.p n2) ∧ (∀ a ∈ [z, TI, TO, i1, i2], G.get? a = none ∧ σ.F a)) → Prv [z, TI, TO, i1, i2] G σ h := by
    rintro σ S h i R ⟨⟨hz, hTI, ⟨a, b, hTO⟩, ⟨o1, e1, c1, d1⟩, ⟨o2, e2, c2, d2⟩⟩, D, hF⟩ x hx
    refine ⟨(hF x hx).1, (hF x hx).2, ?_⟩
    simp only [List.mem_cons, List.not_mem_nil, or_false] at hx
    rcases hx with rfl | rfl | rfl | rfl | rfl
    · exact ⟨_, hz, by simp, by simp, by simp, by simp, by simp, by simp⟩
    · exact ⟨_, hTI, by simp, by simp, by simp, by simp, by simp, by simp⟩
    · exact ⟨_, hTO, by simp, by simp, by simp, by simp, by simp, by simp⟩
    · exact ⟨_, e1, by simp [c1], by simp [c1], by simp [c1], by simp [c1], by simp [d1], by simp [d1]⟩
    · exact ⟨_, e2, by simp [c2], by simp [c2], by simp [c2], by simp [c2], by simp [d2], by simp [d2]⟩
  refine ⟨?_, ?_, ?_, ?_, ?_⟩
  · intro σ S s i p R hS hJ hp K E H
    have pv := prv σ S s.heap i R hJ
    obtain ⟨⟨hz, hTI, ⟨a, b, hTO⟩, h1, h2⟩, D, hF⟩ := hJ
    obtain ⟨xs, c1, o1, v1⟩ := R.objs n1 _ hS.1
    obtain ⟨ys, c2, o2, v2⟩ := R.objs n2 _ hS.2
    have hi : i < l1.length := by
      have := (List.getElem?_eq_some_iff.mp hp).1
      unfold zipP at this
      simp at this; omega
    have hi2 : i < l2.length := by omega
    have hp' : p = .tup [l1[i], l2[i]] := by
      unfold zipP at hp
      simp only [List.getElem?_map, Option.map_eq_some_iff] at hp
      obtain ⟨q, hz', rfl⟩ := hp
      have := List.getElem?_zip_eq_some.mp hz'
      rw [List.getElem?_eq_getElem hi, List.getElem?_eq_getElem hi2] at this
      simp only [Option.some.injEq] at this
      rw [this.1, this.2]
    have hx : xs[i]? = some (xs[i]'(by rw [v1.1]; exact hi)) := Array.getElem?_eq_getElem _
    have hy : ys[i]? = some (ys[i]'(by rw [v2.1]; exact hi2)) := Array.getElem?_eq_getElem _
    have V1 := v1.2 i _ l1[i] hx (by simp [hi])
    have V2 := v2.2 i _ l2[i] hy (by simp [hi2])
    generalize xs[i]'(by rw [v1.1]; exact hi) = x at hx V1
    generalize ys[i]'(by rw [v2.1]; exact hi2) = y at hy V2
    have hlz : z < s.heap.objs.size := Heap.lt_size hz
    refine wpAny_pyNext_zip_item D hz hTI hTO h1 h2 ⟨_, o1, rfl, c1, rfl⟩ ⟨_, o2, rfl, c2, rfl⟩ hx hy fun h' a1 a2 a3 a4 a5 a6 a7 => ⟨_, rfl, ?_⟩
    refine wpAny_letOwnedTupleGo_zip (s := { s with heap := h' }) a1 fun h'' hz'' hs'' => ?_
    have ex := hs''.extBut
    have qt : Quiet [z, TI, TO, i1, i2] s.heap h'' := fun c o hn e => ex c o (fun q => hn (by simp [q])) (a7 c o (fun q => hn (by simp [q])) (fun q => hn (by simp [q])) (fun q => hn (by simp [q])) (fun q => hn (by simp [q])) e)
    have hTI'' : IsPair h'' TI (.ref i1) (.ref i2) := ex _ _ D.TIz (a7 _ _ D.TIz D.TITO D.TIi1 D.TIi2 hTI)
    have hTO'' : IsPair h'' TO x y := ex _ _ D.TOz a2
    have h1'' : h''.IsListIter i1 (σ.p n1) (i + 1) := a3.extBut ex D.i1z
    have h2'' : h''.IsListIter i2 (σ.p n2) (i + 1) := a4.extBut ex D.i2z
    have hT'' : IsPair h'' s.heap.objs.size x y := ex _ _ (Nat.ne_of_gt hlz) a5
    refine H (.ref s.heap.objs.size) h'' _ ?_ qt ?_ ⟨⟨hz'', hTI'', ⟨x, y, hTO''⟩, h1'', h2''⟩, D, hF⟩
    · rw [hp']
      refine VR.tup (fun q => ?_) hT'' rfl rfl rfl fun j v p' e1 e2 => ?_
      · obtain ⟨o, e⟩ := R.fb _ q
        exact Nat.lt_irrefl _ (Heap.lt_size e)
      · match j, e1, e2 with
        | 0, e1, e2 => simp at e1 e2; subst e1; subst e2; exact V1.quiet pv qt
        | 1, e1, e2 => simp at e1 e2; subst e1; subst e2; exact V2.quiet pv qt
        | j + 2, e1, e2 => simp at e2
    · intro c hc
      simp only [List.mem_cons, List.not_mem_nil, or_false] at hc
      rcases hc with rfl | rfl | rfl | rfl | rfl
      · exact ⟨_, hz''⟩
      · exact ⟨_, hTI''⟩
      · exact ⟨_, hTO''⟩
      · obtain ⟨o, e, _⟩ := h1''; exact ⟨o, e⟩
      · obtain ⟨o, e, _⟩ := h2''; exact ⟨o, e⟩
  · intro σ S s R hS hJ K E H
    obtain ⟨⟨hz, hTI, ⟨a, b, hTO⟩, h1, h2⟩, D, hF⟩ := hJ
    obtain ⟨xs, c1, o1, v1⟩ := R.objs n1 _ hS.1
    obtain ⟨ys, c2, o2, v2⟩ := R.objs n2 _ hS.2
    have hzl : (zipP l1 l2).length = l1.length := by unfold zipP; simp; omega
    refine wpAny_pyNext_zip_end hh D hz hTI hTO h1 h2 ⟨_, o1, rfl, c1, rfl⟩ ⟨_, o2, rfl, c2, rfl⟩ (.inl (by rw [hzl, ← v1.1]; simp)) fun h' hk => ⟨rfl, H h' s.toks fun c o hn e => hk c o (fun q => hn (by simp [q])) (fun q => hn (by simp [q])) (fun q => hn (by simp [q])) (fun q => hn (by simp [q])) e⟩
  · intro σ S σ' h h' i R hS hs hF' hk hJ
    have pv := prv σ S h i R hJ
    obtain ⟨⟨hz, hTI, ⟨a, b, hTO⟩, h1, h2⟩, D, hF⟩ := hJ
    have hn1 : n1 < S.length := (List.getElem?_eq_some_iff.mp hS.1).1
    have hn2 : n2 < S.length := (List.getElem?_eq_some_iff.mp hS.2).1
    have off : ∀ c ∈ [z, TI, TO, i1, i2], ∀ j, j < S.length → c ≠ σ.p j := fun c hc j hj q => pv.off R hj (q ▸ hc)
    have kp : ∀ c ∈ [z, TI, TO, i1, i2], ∀ o, h.get? c = some o → (∀ es n, o.data ≠ .dict es n) → h'.get? c = some o := fun c hc o e hd => (hk c o (off c hc) hc e).same fun es n q => absurd q (hd es n)
    rw [← hs n1 hn1] at h1 D
    rw [← hs n2 hn2] at h2 D
    refine ⟨⟨kp z (by simp) _ hz (by simp), kp TI (by simp) _ hTI (by simp), ⟨a, b, kp TO (by simp) _ hTO (by simp)⟩, ?_, ?_⟩, D, fun c hc => ⟨(hF c hc).1, hF' _ (hF c hc).2⟩⟩
    · obtain ⟨o, e, c, d⟩ := h1; exact ⟨o, kp i1 (by simp) _ e (by simp [d]), c, d⟩
    · obtain ⟨o, e, c, d⟩ := h2; exact ⟨o, kp i2 (by simp) _ e (by simp [d]), c, d⟩
  · intro σ S s i R hJ Q E H
    exact wpAny_pyIter_zip hJ.1.1 H
  · exact prv
end
set_option tactic.hygienic false
/-! order of items -/
theorem ltI_iff (a b : It) : ltI a b = true ↔ a.1 < b.1 ∨ (a.1 = b.1 ∧ a.2.cps.toList < b.2.cps.toList) := by
  show (if a.1 == b.1 then (if a.2 == b.2 then false else decide (a.2.cps.toList < b.2.cps.toList)) else decide (a.1 < b.1)) = true ↔ _
  by_cases h : a.1 = b.1
  · rw [if_pos (by simp [h])]
    by_cases hs : a.2 = b.2
    · rw [if_pos (by simp [hs])]
      rw [h, hs]
      constructor
      · intro q; cases q
      · intro q
        rcases q with q | q
        · omega
        · exact absurd q.2 (List.lt_irrefl _)
    · rw [if_neg (by simp [hs])]
      constructor
      · intro q; exact .inr ⟨h, of_decide_eq_true q⟩
      · intro q
        rcases q with q | q
        · omega
        · exact decide_eq_true q.2
  · rw [if_neg (by simp [h])]
    constructor
    · intro q; exact .inl (of_decide_eq_true q)
    · intro q
      rcases q with q | q
      · exact decide_eq_true q
      · exact absurd q.1 h
/-- a is not behind b -/
noncomputable def leI (a b : It) : Prop := ltI b a = false
theorem leI_iff (a b : It) : leI a b ↔ a.1 < b.1 ∨ (a.1 = b.1 ∧ a.2.cps.toList ≤ b.2.cps.toList) := by
  have h := ltI_iff b a
  unfold leI
  rw [← Bool.not_eq_true, h]
  have e : (a.2.cps.toList ≤ b.2.cps.toList) ↔ ¬ b.2.cps.toList < a.2.cps.toList := Iff.rfl
  rw [e]
  constructor
  · intro q
    by_cases h1 : a.1 < b.1
    · exact .inl h1
    · refine .inr ⟨?_, fun q2 => q (.inr ⟨?_, q2⟩)⟩
      · have : ¬ b.1 < a.1 := fun q2 => q (.inl q2)
        omega
      · have : ¬ b.1 < a.1 := fun q2 => q (.inl q2)
        omega
  · intro q q2
    rcases q with q | q <;> rcases q2 with q2 | q2
    · omega
    · omega
    · omega
    · exact q.2 q2.2
theorem leI_refl (a : It) : leI a a := (leI_iff a a).mpr (.inr ⟨rfl, List.le_refl _⟩)
theorem leI_trans {a b c : It} (h1 : leI a b) (h2 : leI b c) : leI a c := by
  rw [leI_iff] at *
  rcases h1 with h1 | h1 <;> rcases h2 with h2 | h2
  · exact .inl (by omega)
  · exact .inl (by omega)
  · exact .inl (by omega)
  · exact .inr ⟨h1.1.trans h2.1, List.le_trans h1.2 h2.2⟩
theorem ltI_le {a b : It} (h : ltI a b = true) : leI a b := by
  rw [ltI_iff] at h
  rw [leI_iff]
  rcases h with h | h
  · exact .inl h
  · exact .inr ⟨h.1, List.le_of_lt h.2⟩
theorem leI_antisymm {a b : It} (h1 : leI a b) (h2 : leI b a) : a = b := by
  rw [leI_iff] at *
  have e1 : a.1 = b.1 := by rcases h1 with h1 | h1 <;> rcases h2 with h2 | h2 <;> omega
  have e2 : a.2.cps.toList = b.2.cps.toList := by
    rcases h1 with h1 | h1
    · omega
    · rcases h2 with h2 | h2
      · omega
      · exact List.le_antisymm h1.2 h2.2
  obtain ⟨c, ⟨x⟩⟩ := a
  obtain ⟨d, ⟨y⟩⟩ := b
  simp only at e1 e2
  rw [e1, Array.toList_inj.mp e2]
theorem leI_total (a b : It) : leI a b ∨ leI b a := by
  cases h : ltI b a with
  | false => exact .inl h
  | true => exact .inr (ltI_le h)

/-! heaps -/
noncomputable abbrev gt (l : List It) (k : Nat) : It := l.getD k default
theorem gt_lt {l : List It} {k : Nat} (h : k < l.length) : gt l k = l[k] := by
  unfold gt; rw [List.getD_eq_getElem?_getD]; simp [h]
theorem gt_set {l : List It} {p k : Nat} {v : It} (h : p < l.length) : gt (l.set p v) k = if k = p then v else gt l k := by
  unfold gt
  rw [List.getD_eq_getElem?_getD, List.getD_eq_getElem?_getD, List.getElem?_set]
  by_cases e : k = p
  · subst e; simp [h]
  · rw [if_neg (Ne.symm e), if_neg e]
noncomputable def HP (l : List It) : Prop := ∀ k, 1 ≤ k → k < l.length → leI (gt l ((k - 1) / 2)) (gt l k)
structure HD (l : List It) (pos : Nat) : Prop where
  a : ∀ k, 1 ≤ k → k < l.length → k ≠ pos → (k - 1) / 2 ≠ pos → leI (gt l ((k - 1) / 2)) (gt l k)
  b : ∀ k, 1 ≤ k → k < l.length → (k - 1) / 2 = pos → 1 ≤ pos → leI (gt l ((pos - 1) / 2)) (gt l k)
theorem swapMem {l : List It} {p q : Nat} {x y : It} (hp : p < l.length) (hq : q < l.length) (hpq : p ≠ q) (hy : gt l q = y) (z : It) : z ∈ (l.set p y).set q x ↔ z ∈ l.set p x := by
  have key : ∀ k, k < l.length → gt ((l.set p y).set q x) k = if k = q then x else if k = p then y else gt l k := fun k hk => by
    rw [gt_set (by simpa using hq), gt_set hp]
  have key2 : ∀ k, gt (l.set p x) k = if k = p then x else gt l k := fun k => gt_set hp
  have mem : ∀ (m : List It), m.length = l.length → (z ∈ m ↔ ∃ k, k < l.length ∧ gt m k = z) := fun m hm => by
    constructor
    · intro h
      obtain ⟨k, hk, e⟩ := List.mem_iff_getElem.mp h
      exact ⟨k, by omega, by rw [gt_lt hk]; exact e⟩
    · rintro ⟨k, hk, e⟩
      rw [gt_lt (by omega)] at e
      exact List.mem_iff_getElem.mpr ⟨k, by omega, e⟩
  rw [mem _ (by simp), mem _ (by simp)]
  constructor
  · rintro ⟨k, hk, e⟩
    rw [key k hk] at e
    by_cases h1 : k = q
    · rw [if_pos h1] at e
      exact ⟨p, hp, by rw [key2, if_pos rfl]; exact e⟩
    · rw [if_neg h1] at e
      by_cases h2 : k = p
      · rw [if_pos h2] at e
        exact ⟨q, hq, by rw [key2, if_neg (Ne.symm hpq), hy]; exact e⟩
      · rw [if_neg h2] at e
        exact ⟨k, hk, by rw [key2, if_neg h2]; exact e⟩
  · rintro ⟨k, hk, e⟩
    rw [key2] at e
    by_cases h1 : k = p
    · rw [if_pos h1] at e
      exact ⟨q, hq, by rw [key q hq, if_pos rfl]; exact e⟩
    · rw [if_neg h1] at e
      by_cases h2 : k = q
      · subst h2
        exact ⟨p, hp, by rw [key p hp, if_neg hpq, if_pos rfl, ← hy]; exact e⟩
      · exact ⟨k, hk, by rw [key k hk, if_neg h2, if_neg h1]; exact e⟩
theorem gt_some {l : List It} {k : Nat} (h : k < l.length) : l[k]? = some (gt l k) := by rw [gt_lt h]; simp [h]
theorem sift_heap : ∀ (pos : Nat) (l : List It) (x : It), pos < l.length → HD l pos → (∀ k, 1 ≤ k → k < l.length → (k - 1) / 2 = pos → leI x (gt l k)) → HP (siftdown l x pos) ∧ (∀ z, z ∈ siftdown l x pos ↔ z ∈ l.set pos x) := by
  intro pos
  induction pos using Nat.strongRecOn with
  | ind pos ih =>
    intro l x hp D hc
    by_cases h0 : pos = 0
    · subst h0
      unfold siftdown
      rw [sdn_zero]
      refine ⟨fun k h1 h2 => ?_, fun z => Iff.rfl⟩
      rw [List.length_set] at h2
      rw [gt_set hp, gt_set hp, if_neg (show k ≠ 0 by omega)]
      by_cases hq : (k - 1) / 2 = 0
      · rw [if_pos hq]; exact hc k h1 h2 hq
      · rw [if_neg hq]; exact D.a k h1 h2 (by omega) hq
    · have hq : (pos - 1) / 2 < l.length := by omega
      have hqp : (pos - 1) / 2 ≠ pos := by omega
      cases hlt : ltI x (gt l ((pos - 1) / 2)) with
      | true =>
        have e : siftdown l x pos = siftdown (l.set pos (gt l ((pos - 1) / 2))) x ((pos - 1) / 2) := by
          unfold siftdown
          rw [sdn_go h0 (gt_some hq), hlt, if_pos rfl]
        have hxy := ltI_le hlt
        have HDn : HD (l.set pos (gt l ((pos - 1) / 2))) ((pos - 1) / 2) := by
          refine ⟨fun k h1 h2 h3 h4 => ?_, fun k h1 h2 h3 h4 => ?_⟩
          · rw [List.length_set] at h2
            have hk : k ≠ pos := fun q => h4 (by rw [q])
            rw [gt_set hp, gt_set hp, if_neg hk]
            by_cases h5 : (k - 1) / 2 = pos
            · rw [if_pos h5]; exact D.b k h1 h2 h5 (by omega)
            · rw [if_neg h5]; exact D.a k h1 h2 hk h5
          · rw [List.length_set] at h2
            rw [gt_set hp, gt_set hp, if_neg (show ((pos - 1) / 2 - 1) / 2 ≠ pos by omega)]
            have up : leI (gt l (((pos - 1) / 2 - 1) / 2)) (gt l ((pos - 1) / 2)) := D.a ((pos - 1) / 2) h4 hq hqp (by omega)
            by_cases h5 : k = pos
            · rw [if_pos h5]; exact up
            · rw [if_neg h5]
              have := D.a k h1 h2 h5 (by omega)
              rw [h3] at this
              exact leI_trans up this
        have hcn : ∀ k, 1 ≤ k → k < (l.set pos (gt l ((pos - 1) / 2))).length → (k - 1) / 2 = (pos - 1) / 2 → leI x (gt (l.set pos (gt l ((pos - 1) / 2))) k) := by
          intro k h1 h2 h3
          rw [List.length_set] at h2
          rw [gt_set hp]
          by_cases h5 : k = pos
          · rw [if_pos h5]; exact hxy
          · rw [if_neg h5]
            have := D.a k h1 h2 h5 (by omega)
            rw [h3] at this
            exact leI_trans hxy this
        obtain ⟨r1, r2⟩ := ih ((pos - 1) / 2) (by omega) (l.set pos (gt l ((pos - 1) / 2))) x (by simpa using hq) HDn hcn
        rw [e]
        exact ⟨r1, fun z => (r2 z).trans (swapMem hp hq (Ne.symm hqp) rfl z)⟩
      | false =>
        have e : siftdown l x pos = l.set pos x := by
          unfold siftdown
          rw [sdn_go h0 (gt_some hq), hlt]
          rfl
        rw [e]
        refine ⟨fun k h1 h2 => ?_, fun z => Iff.rfl⟩
        rw [List.length_set] at h2
        rw [gt_set hp, gt_set hp]
        by_cases h3 : k = pos
        · subst h3
          rw [if_pos rfl, if_neg hqp]
          exact hlt
        · rw [if_neg h3]
          by_cases h4 : (k - 1) / 2 = pos
          · rw [if_pos h4]; exact hc k h1 h2 h4
          · rw [if_neg h4]; exact D.a k h1 h2 h3 h4
theorem sun_heap : ∀ (m : Nat) (h : List It) (pos : Nat), h.length - pos = m → pos < h.length → HD h pos →
    HD (sun h pos).1 (sun h pos).2 ∧ ¬ 2 * (sun h pos).2 + 1 < (sun h pos).1.length ∧ (∀ v z, z ∈ (sun h pos).1.set (sun h pos).2 v ↔ z ∈ h.set pos v) := by
  intro m
  induction m using Nat.strongRecOn with
  | ind m ih =>
    intro h pos hm hp D
    by_cases hc : 2 * pos + 1 < h.length
    · have hb := chd_lt hc
      have hch : chd h pos = 2 * pos + 1 ∨ (chd h pos = 2 * pos + 2 ∧ 2 * pos + 2 < h.length) := by
        unfold chd
        split
        · rename_i q; exact .inr ⟨rfl, q.1⟩
        · exact .inl rfl
      have hmin : ∀ k, 1 ≤ k → k < h.length → (k - 1) / 2 = pos → leI (gt h (chd h pos)) (gt h k) := fun k h1 h2 h3 => by
        have hk : k = 2 * pos + 1 ∨ k = 2 * pos + 2 := by omega
        unfold chd
        split
        · rename_i q
          rcases hk with rfl | rfl
          · exact q.2
          · exact leI_refl _
        · rename_i q
          rcases hk with rfl | rfl
          · exact leI_refl _
          · have : ltI (gt h (2 * pos + 1)) (gt h (2 * pos + 2)) = true := by
              cases hl : ltI (gt h (2 * pos + 1)) (gt h (2 * pos + 2)) with
              | true => rfl
              | false => exact absurd ⟨h2, hl⟩ q
            exact ltI_le this
      have hpar : (chd h pos - 1) / 2 = pos := by rcases hch with e | e <;> omega
      have hsl : (h.set pos (gt h (chd h pos))).length = h.length := by simp
      have HDn : HD (h.set pos (gt h (chd h pos))) (chd h pos) := by
        refine ⟨fun k h1 h2 h3 h4 => ?_, fun k h1 h2 h3 h4 => ?_⟩
        · rw [hsl] at h2
          rw [gt_set hp, gt_set hp]
          by_cases h5 : k = pos
          · subst h5
            rw [if_pos rfl, if_neg (by omega)]
            exact D.b (chd h k) (by omega) hb.1 hpar h1
          · rw [if_neg h5]
            by_cases h6 : (k - 1) / 2 = pos
            · rw [if_pos h6]; exact hmin k h1 h2 h6
            · rw [if_neg h6]; exact D.a k h1 h2 h5 h6
        · rw [hsl] at h2
          rw [gt_set hp, gt_set hp, hpar, if_pos rfl, if_neg (by omega)]
          have := D.a k h1 h2 (by omega) (by omega)
          rw [h3] at this
          exact this
      obtain ⟨r1, r2, r3⟩ := ih (h.length - chd h pos) (by omega) (h.set pos (gt h (chd h pos))) (chd h pos) (by rw [hsl]) (by rw [hsl]; exact hb.1) HDn
      rw [sun_go hc]
      exact ⟨r1, r2, fun v z => (r3 v z).trans (swapMem hp hb.1 (by omega) rfl z)⟩
    · rw [sun_stop hc]
      exact ⟨D, hc, fun v z => Iff.rfl⟩

theorem memGt {m : List It} {z : It} : z ∈ m ↔ ∃ k, k < m.length ∧ gt m k = z := by
  constructor
  · intro h
    obtain ⟨k, hk, e⟩ := List.mem_iff_getElem.mp h
    exact ⟨k, hk, by rw [gt_lt hk]; exact e⟩
  · rintro ⟨k, hk, e⟩
    rw [gt_lt hk] at e
    exact List.mem_iff_getElem.mpr ⟨k, hk, e⟩
theorem HP_min {x : It} {l : List It} (h : HP (x :: l)) : ∀ y ∈ x :: l, leI x y := by
  have key : ∀ k, k < (x :: l).length → leI x (gt (x :: l) k) := by
    intro k
    induction k using Nat.strongRecOn with
    | ind k ih =>
      intro hk
      by_cases h0 : k = 0
      · subst h0; exact leI_refl _
      · exact leI_trans (ih ((k - 1) / 2) (by omega) (by omega)) (h k (by omega) hk)
  intro y hy
  obtain ⟨k, hk, e⟩ := memGt.mp hy
  rw [← e]; exact key k hk
theorem HP_push {l : List It} (x : It) (h : HP l) : HP (push l x) ∧ (∀ z, z ∈ push l x ↔ z ∈ l ∨ z = x) ∧ (push l x).length = l.length + 1 := by
  have hl : (l ++ [x]).length = l.length + 1 := by simp
  have ga : ∀ k, k < l.length → gt (l ++ [x]) k = gt l k := fun k hk => by
    rw [gt_lt (by omega), gt_lt hk, List.getElem_append_left hk]
  obtain ⟨r1, r2⟩ := sift_heap l.length (l ++ [x]) x (by omega) ⟨fun k h1 h2 h3 h4 => by
    have : k < l.length := by omega
    rw [ga _ (by omega), ga _ this]; exact h k h1 this, fun k h1 h2 h3 h4 => by omega⟩ (fun k h1 h2 h3 => by omega)
  refine ⟨r1, fun z => ?_, ?_⟩
  · rw [show push l x = siftdown (l ++ [x]) x l.length from rfl, r2 z]
    rw [List.set_append_right _ _ (Nat.le_refl _)]
    simp
  · show ((sdn x (l ++ [x]) l.length).1.set _ x).length = _
    rw [List.length_set, sdn_len]; exact hl
theorem popped_one (x : It) : popped [x] = [] := rfl
theorem popped_snoc (x : It) (r : List It) (z : It) : popped (x :: (r ++ [z])) = siftdown ((sun (z :: r) 0).1.set (sun (z :: r) 0).2 z) z (sun (z :: r) 0).2 := by
  unfold popped
  have e1 : (x :: (r ++ [z])).getLast? = some z := by rw [← List.cons_append, List.getLast?_append]; simp
  have e2 : (x :: (r ++ [z])).dropLast = x :: r := by rw [← List.cons_append, List.dropLast_concat]
  rw [e1, e2]
theorem HP_popped {x : It} {l : List It} (h : HP (x :: l)) : HP (popped (x :: l)) ∧ (∀ z, z ∈ popped (x :: l) ↔ z ∈ l) ∧ (popped (x :: l)).length = l.length := by
  rcases List.eq_nil_or_concat l with e | ⟨r, z, e⟩
  · subst e
    rw [popped_one]
    exact ⟨fun k h1 h2 => by simp at h2, fun z => Iff.rfl, rfl⟩
  · rw [List.concat_eq_append] at e
    subst e
    rw [popped_snoc]
    have D0 : HD (z :: r) 0 := ⟨fun k h1 h2 h3 h4 => by
      have g : ∀ i, 1 ≤ i → i < (z :: r).length → gt (z :: r) i = gt (x :: (r ++ [z])) i := fun i i1 i2 => by
        rw [gt_lt i2, gt_lt (by simp at i2 ⊢; omega)]
        obtain ⟨j, rfl⟩ : ∃ j, i = j + 1 := ⟨i - 1, by omega⟩
        simp only [List.getElem_cons_succ]
        rw [List.getElem_append_left]
      rw [g _ (by omega) (by omega), g _ h1 h2]
      exact h k h1 (by simp at h2 ⊢; omega), fun k h1 h2 h3 h4 => by omega⟩
    obtain ⟨s1, s2, s3⟩ := sun_heap _ (z :: r) 0 rfl (by simp) D0
    have sl := sun_len (z :: r) 0 (by simp)
    generalize sun (z :: r) 0 = w at s1 s2 s3 sl
    have g2 : ∀ k, gt (w.1.set w.2 z) k = if k = w.2 then z else gt w.1 k := fun k => gt_set (by omega)
    have wl : (w.1.set w.2 z).length = w.1.length := by simp
    obtain ⟨r1, r2⟩ := sift_heap w.2 (w.1.set w.2 z) z (by rw [wl]; omega) ⟨fun k h1 h2 h3 h4 => by
      rw [g2, g2, if_neg h4, if_neg h3]; exact s1.a k h1 (by rw [wl] at h2; exact h2) h3 h4, fun k h1 h2 h3 h4 => by rw [wl] at h2; omega⟩ (fun k h1 h2 h3 => by rw [wl] at h2; omega)
    refine ⟨r1, fun y => ?_, ?_⟩
    · rw [r2 y, List.set_set, s3 z y]
      simp [List.mem_append, or_comm]
    · show ((sdn z _ _).1.set _ z).length = _
      rw [List.length_set, sdn_len, wl, sl.1]; simp
theorem hp_of_bool (l : List It) : heapedB l = true ↔ HP l := by
  unfold heapedB hbad
  rw [List.isEmpty_iff, List.filterMap_eq_nil_iff]
  constructor
  · intro h k h1 h2
    have hm : PV.int k ∈ rangeL 1 ((l.length : Int) - 1).toNat := by
      unfold rangeL
      refine List.mem_map.mpr ⟨k - 1, List.mem_range.mpr (by omega), ?_⟩
      congr 1
      omega
    have := h _ hm
    unfold hbadF at this
    simp only [Int.toNat_natCast] at this
    split at this
    · cases this
    · rename_i q
      show ltI (gt l k) (gt l ((k - 1) / 2)) = false
      exact Bool.not_eq_true _ |>.mp q
  · intro h p hp
    unfold rangeL at hp
    obtain ⟨j, hj, rfl⟩ := List.mem_map.mp hp
    rw [List.mem_range] at hj
    unfold hbadF
    have e : ((1 : Int) + j).toNat = j + 1 := by omega
    simp only [e]
    have := h (j + 1) (by omega) (by omega)
    unfold badAt
    rw [if_neg]
    intro q
    have q2 : leI (gt l ((j + 1 - 1) / 2)) (gt l (j + 1)) := this
    unfold leI at q2
    rw [q2] at q
    cases q
set_option tactic.hygienic true
set_option tactic.hygienic false
/-! the sort of few items -/
noncomputable def goodR (n : Nat) (r : List Nat) : Bool :=
  match runC (fun i j => decide (r.getD i 0 < r.getD j 0)) n (kas_sort n) with
  | some p => (p.toList.map fun i => r.getD i 0) == List.range n && p.size == n && p.toList.all fun i => decide (i < n)
  | none => false
noncomputable def chk (n : Nat) : Nat → List Nat → Bool
  | 0, r => goodR n r
  | k + 1, r => (List.range n).all fun a => r.contains a || chk n k (r ++ [a])
theorem chk2 : chk 2 2 [] = true := by decide +kernel
theorem chk3 : chk 3 3 [] = true := by decide +kernel
theorem chk4 : chk 4 4 [] = true := by decide +kernel
theorem chk5 : chk 5 5 [] = true := by decide +kernel
theorem chk6 : chk 6 6 [] = true := by decide +kernel
set_option tactic.hygienic true
set_option tactic.hygienic false
theorem chk_all {n : Nat} : ∀ (k : Nat) (r s : List Nat), chk n k r = true → s.length = k → (r ++ s).Nodup → (∀ a ∈ s, a < n) → goodR n (r ++ s) = true
  | 0, r, s, h, hl, _, _ => by
    obtain rfl := List.length_eq_zero_iff.mp hl
    rw [List.append_nil]; exact h
  | k + 1, r, s, h, hl, nd, hb => by
    cases s with
    | nil => simp at hl
    | cons a s =>
      unfold chk at h
      rw [List.all_eq_true] at h
      have ha := h a (List.mem_range.mpr (hb a (.head _)))
      have hni : r.contains a = false := by
        rw [← Bool.not_eq_true, List.contains_iff_mem]
        intro hm
        exact (List.nodup_append.mp nd).2.2 a hm a (.head _) rfl
      rw [hni, Bool.false_or] at ha
      have := chk_all k (r ++ [a]) s ha (by simpa using hl) (by simpa using nd) (fun b hb' => hb b (.tail _ hb'))
      simpa using this
theorem chk_n (n : Nat) (h2 : 2 ≤ n) (h6 : n ≤ 6) : chk n n [] = true := by
  have : n = 2 ∨ n = 3 ∨ n = 4 ∨ n = 5 ∨ n = 6 := by omega
  rcases this with rfl | rfl | rfl | rfl | rfl
  · exact chk2
  · exact chk3
  · exact chk4
  · exact chk5
  · exact chk6
theorem runC_congr {α : Type} {lt lt' : Nat → Nat → Bool} {n : Nat} (h : ∀ i j, i < n → j < n → lt i j = lt' i j) : ∀ t : KasT α, runC lt n t = runC lt' n t
  | .ret a => rfl
  | .ask i j k => by
    unfold runC
    by_cases hij : i < n ∧ j < n
    · rw [if_pos hij, if_pos hij, h i j hij.1 hij.2]
      exact runC_congr h _
    · rw [if_neg hij, if_neg hij]
theorem nodup_len : ∀ (a b : List It), a.Nodup → (∀ x ∈ a, x ∈ b) → a.length ≤ b.length
  | [], _, _, _ => Nat.zero_le _
  | x :: a, b, nd, h => by
    have hx := h x (.head _)
    obtain ⟨h1, h2⟩ := List.nodup_cons.mp nd
    have := nodup_len a (b.erase x) h2 fun y hy => by
      have hne : y ≠ x := fun e => h1 (e ▸ hy)
      exact (List.mem_erase_of_ne hne).mpr (h y (.tail _ hy))
    rw [List.length_erase_of_mem hx] at this
    have hpos : 0 < b.length := List.length_pos_of_mem hx
    rw [List.length_cons]; omega
theorem nodup_lenS : ∀ (a b : List Str), a.Nodup → (∀ x ∈ a, x ∈ b) → a.length ≤ b.length
  | [], _, _, _ => Nat.zero_le _
  | x :: a, b, nd, h => by
    have hx := h x (.head _)
    obtain ⟨h1, h2⟩ := List.nodup_cons.mp nd
    have := nodup_lenS a (b.erase x) h2 fun y hy => by
      have hne : y ≠ x := fun e => h1 (e ▸ hy)
      exact (List.mem_erase_of_ne hne).mpr (h y (.tail _ hy))
    rw [List.length_erase_of_mem hx] at this
    have hpos : 0 < b.length := List.length_pos_of_mem hx
    rw [List.length_cons]; omega
/-- o is sorted and holds what l holds: the sort of l is o -/
theorem sorts {l o : List It} (ndl : l.Nodup) (ndo : o.Nodup) (hm : ∀ z, z ∈ l ↔ z ∈ o) (hs : o.Pairwise leI) (h2 : 2 ≤ o.length) (h6 : o.length ≤ 6) :
    l.length = o.length ∧ ∃ p : Array Nat, runC (fun i j => ltI (l.getD i default) (l.getD j default)) l.length (kas_sort l.length) = some p ∧ p.size = l.length ∧ (∀ i ∈ p.toList, i < l.length) ∧ (p.toList.map fun i => l.getD i default) = o := by
  have hlen : l.length = o.length := Nat.le_antisymm (nodup_len l o ndl fun x hx => (hm x).mp hx) (nodup_len o l ndo fun x hx => (hm x).mpr hx)
  refine ⟨hlen, ?_⟩
  let rk : Nat → Nat := fun i => o.idxOf (gt l i)
  have hrk : ∀ i, i < l.length → rk i < o.length ∧ gt o (rk i) = gt l i := fun i hi => by
    have hmem : gt l i ∈ o := (hm _).mp (memGt.mpr ⟨i, hi, rfl⟩)
    have h1 : rk i < o.length := List.idxOf_lt_length_of_mem hmem
    exact ⟨h1, by rw [gt_lt h1]; exact List.getElem_idxOf h1⟩
  have ho : ∀ a b, a < o.length → b < o.length → ltI (gt o a) (gt o b) = decide (a < b) := fun a b ha hb => by
    have hp := List.pairwise_iff_getElem.mp hs
    have hne : ∀ a b (ha : a < o.length) (hb : b < o.length), a ≠ b → gt o a ≠ gt o b := fun a b ha hb hab e => by
      rw [gt_lt ha, gt_lt hb] at e
      exact hab ((List.getElem_inj ndo).mp e)
    by_cases hab : a < b
    · rw [decide_eq_true hab]
      have := hp a b ha hb hab
      rw [← gt_lt ha, ← gt_lt hb] at this
      cases hl : ltI (gt o a) (gt o b) with
      | true => rfl
      | false => exact absurd (leI_antisymm this hl) (hne a b ha hb (by omega))
    · rw [decide_eq_false hab]
      by_cases e : a = b
      · subst e; exact leI_refl _
      · have := hp b a hb ha (by omega)
        rw [← gt_lt ha, ← gt_lt hb] at this
        exact this
  let r : List Nat := (List.range l.length).map rk
  have rlen : r.length = l.length := by simp [r]
  have rget : ∀ i, i < l.length → r.getD i 0 = rk i := fun i hi => by
    rw [List.getD_eq_getElem?_getD]
    simp [r, hi]
  have rnd : r.Nodup := by
    refine List.pairwise_iff_getElem.mpr fun i j hi hj hij => ?_
    simp only [r, List.getElem_map, List.getElem_range]
    intro e
    have hi' : i < l.length := by rw [rlen] at hi; exact hi
    have hj' : j < l.length := by rw [rlen] at hj; exact hj
    have e2 : gt l i = gt l j := by rw [← (hrk i hi').2, ← (hrk j hj').2, e]
    rw [gt_lt hi', gt_lt hj'] at e2
    have := (List.getElem_inj ndl).mp e2
    omega
  have hg := chk_all (n := l.length) l.length [] r (chk_n l.length (by omega) (by omega)) rlen (by simpa using rnd) (fun a ha => by
    obtain ⟨i, hi, rfl⟩ := List.mem_map.mp ha
    rw [hlen]; exact (hrk i (List.mem_range.mp hi)).1)
  rw [List.nil_append] at hg
  unfold goodR at hg
  have hcg : runC (fun i j => decide (r.getD i 0 < r.getD j 0)) l.length (kas_sort l.length) = runC (fun i j => ltI (l.getD i default) (l.getD j default)) l.length (kas_sort l.length) := by
    refine runC_congr (fun i j hi hj => ?_) _
    rw [rget i hi, rget j hj, ← ho _ _ (hrk i hi).1 (hrk j hj).1, (hrk i hi).2, (hrk j hj).2]
  rw [hcg] at hg
  cases hr : runC (fun i j => ltI (l.getD i default) (l.getD j default)) l.length (kas_sort l.length) with
  | none => rw [hr] at hg; cases hg
  | some p =>
    rw [hr] at hg
    simp only [Bool.and_eq_true, beq_iff_eq, List.all_eq_true, decide_eq_true_eq] at hg
    obtain ⟨⟨g1, g2⟩, g3⟩ := hg
    refine ⟨p, rfl, g2, g3, ?_⟩
    have e : (p.toList.map fun i => l.getD i default) = (p.toList.map fun i => r.getD i 0).map (gt o) := by
      rw [List.map_map]
      refine List.map_congr_left fun i hi => ?_
      show gt l i = gt o (r.getD i 0)
      rw [rget i (g3 i hi), (hrk i (g3 i hi)).2]
    rw [e, g1, hlen]
    refine List.ext_getElem (by simp) fun i h1 h2 => ?_
    simp only [List.getElem_map, List.getElem_range]
    exact gt_lt h2

/-! the search -/
noncomputable def names6 : List Str := ["a", "b\"", "ab", "*", "ba\"", ""]
structure Ways (ws : List Wy) : Prop where
  len : ws.length ≤ 100
  s : ∀ x ∈ ws, x.1 ∈ names6
  g : ∀ x ∈ ws, x.2.1 ∈ names6
  lo : ∀ x ∈ ws, 1 ≤ x.2.2
  hi : ∀ x ∈ ws, x.2.2 ≤ 20
theorem relax_ex (c : Int) (pl : Str) : ∀ (ws : List Wy) (l : List It), HP l → l.length + ws.length ≤ 10000 →
    ∃ l', Relax c pl ws l l' ∧ HP l' ∧ (∀ z, z ∈ l' ↔ z ∈ l ∨ ∃ x ∈ ws, x.1 = pl ∧ z = (c + x.2.2, x.2.1)) ∧ l'.length ≤ l.length + ws.length
  | [], l, h, _ => ⟨l, .nil, h, fun z => by simp, by simp⟩
  | x :: ws, l, h, hz => by
    have hb : (10000 : Nat) ≤ sizeLine := Nat.le_of_ble_eq_true rfl
    rw [List.length_cons] at hz
    by_cases hx : (x.1 == pl) = true
    · obtain ⟨p1, p2, p3⟩ := HP_push (c + x.2.2, x.2.1) h
      obtain ⟨l', r1, r2, r3, r4⟩ := relax_ex c pl ws (push l (c + x.2.2, x.2.1)) p1 (by rw [p3]; omega)
      refine ⟨l', .push hx (by omega) (by rw [p3]; omega) ((hp_of_bool _).mpr p1) r1, r2, fun z => ?_, by rw [p3] at r4; rw [List.length_cons]; omega⟩
      rw [r3 z, p2 z]
      have hxe : x.1 = pl := eq_of_beq hx
      constructor
      · rintro ((h1 | h1) | ⟨y, hy, h1⟩)
        · exact .inl h1
        · exact .inr ⟨x, .head _, hxe, h1⟩
        · exact .inr ⟨y, .tail _ hy, h1⟩
      · rintro (h1 | ⟨y, hy, h1⟩)
        · exact .inl (.inl h1)
        · rcases List.mem_cons.mp hy with rfl | hy
          · exact .inl (.inr h1.2)
          · exact .inr ⟨y, hy, h1⟩
    · have hx' : (x.1 == pl) = false := by simpa using hx
      obtain ⟨l', r1, r2, r3, r4⟩ := relax_ex c pl ws l h (by omega)
      refine ⟨l', .skip hx' r1, r2, fun z => ?_, by rw [List.length_cons]; omega⟩
      rw [r3 z]
      have hne : x.1 ≠ pl := by simpa using hx
      constructor
      · rintro (h1 | ⟨y, hy, h1⟩)
        · exact .inl h1
        · exact .inr ⟨y, .tail _ hy, h1⟩
      · rintro (h1 | ⟨y, hy, h1⟩)
        · exact .inl h1
        · rcases List.mem_cons.mp hy with rfl | hy
          · exact absurd h1.1 hne
          · exact .inr ⟨y, hy, h1⟩
noncomputable def a0 : It := (0, "a")
structure Inv (ws : List Wy) (l o : List It) : Prop where
  hp : HP l
  nd : (o.map (·.2)).Nodup
  nm : ∀ x ∈ o, x.2 ∈ names6
  nl : ∀ x ∈ l, x.2 ∈ names6
  so : o.Pairwise leI
  lo : ∀ x ∈ o, ∀ y ∈ l, leI x y
  sl : ∀ y ∈ l, y = a0 ∨ ∃ x ∈ o, ∃ w ∈ ws, w.1 = x.2 ∧ y = (x.1 + w.2.2, w.2.1)
  si : ∀ i (hi : i < o.length), gt o i = a0 ∨ ∃ j, j < i ∧ ∃ w ∈ ws, w.1 = (gt o j).2 ∧ gt o i = ((gt o j).1 + w.2.2, w.2.1)
  cm : ∀ x ∈ o, ∀ w ∈ ws, w.1 = x.2 → (x.1 + w.2.2, w.2.1) ∈ l ∨ ∃ z ∈ o, z.2 = w.2.1 ∧ z.1 ≤ x.1 + w.2.2
  st : a0 ∈ l ∨ ∃ z ∈ o, z.2 = "a" ∧ z.1 ≤ 0
theorem names6_ok : ∀ x ∈ names6, PyData.strOk x = true := by decide +kernel
theorem leI_fst {a b : It} (h : leI a b) : a.1 ≤ b.1 := by rw [leI_iff] at h; omega
theorem run_ex {ws : List Wy} (W : Ways ws) : ∀ (m : Nat) (l o : List It), (6 - o.length) * (ws.length + 1) + l.length ≤ m → l.length ≤ 1000 - 120 * (6 - o.length) → Inv ws l o → ∃ o', Run ws l o o' ∧ Inv ws [] o' := by
  intro m
  induction m with
  | zero =>
    intro l o hm _ I
    have : l.length = 0 := by omega
    obtain rfl := List.length_eq_zero_iff.mp this
    exact ⟨o, .done, I⟩
  | succ m ih =>
    intro l o hm hl I
    have hb : (10000 : Nat) ≤ sizeLine := Nat.le_of_ble_eq_true rfl
    have ho6 : o.length ≤ 6 := by
      have := nodup_lenS (o.map (·.2)) names6 I.nd fun x hx => by
        obtain ⟨y, hy, rfl⟩ := List.mem_map.mp hx
        exact I.nm y hy
      rw [List.length_map] at this
      exact this
    cases l with
    | nil => exact ⟨o, .done, I⟩
    | cons x l =>
      obtain ⟨p1, p2, p3⟩ := HP_popped I.hp
      have hmin := HP_min I.hp
      have hok : ∀ y ∈ x :: l, PyData.strOk y.2 = true := fun y hy => names6_ok _ (I.nl y hy)
      rw [List.length_cons] at hm hl
      by_cases hin : (o.map (·.2)).any (· == x.2) = true
      · obtain ⟨n, hn, e⟩ := List.any_eq_true.mp hin
        obtain ⟨z, hz, rfl⟩ := List.mem_map.mp hn
        have ez : z.2 = x.2 := eq_of_beq e
        have hzx : z.1 ≤ x.1 := leI_fst (I.lo z hz x (.head _))
        have I' : Inv ws (popped (x :: l)) o := by
          refine ⟨p1, I.nd, I.nm, fun y hy => I.nl y (.tail _ ((p2 y).mp hy)), I.so, fun a ha y hy => I.lo a ha y (.tail _ ((p2 y).mp hy)), fun y hy => I.sl y (.tail _ ((p2 y).mp hy)), I.si, fun a ha w hw hwa => ?_, ?_⟩
          · rcases I.cm a ha w hw hwa with h | h
            · rcases List.mem_cons.mp h with h | h
              · exact .inr ⟨z, hz, by rw [ez, ← h], by rw [← h] at hzx; exact hzx⟩
              · exact .inl ((p2 _).mpr h)
            · exact .inr h
          · rcases I.st with h | h
            · rcases List.mem_cons.mp h with h | h
              · exact .inr ⟨z, hz, by rw [ez, ← h]; rfl, by rw [← h] at hzx; exact hzx⟩
              · exact .inl ((p2 _).mpr h)
            · exact .inr h
        obtain ⟨o', r1, r2⟩ := ih (popped (x :: l)) o (by rw [p3]; omega) (by rw [p3]; omega) I'
        exact ⟨o', .old (by rw [List.length_cons]; omega) (by rw [p3]; omega) (by omega) hok ((hp_of_bool _).mpr p1) hin r1, r2⟩
      · have hin' : (o.map (·.2)).any (· == x.2) = false := (Bool.not_eq_true _).mp hin
        have hnx : x.2 ∉ o.map (·.2) := fun h => by
          rw [List.any_eq_true.mpr ⟨x.2, h, by simp⟩] at hin'; cases hin'
        have ho5 : o.length ≤ 5 := by
          have := nodup_lenS (x.2 :: o.map (·.2)) names6 (List.nodup_cons.mpr ⟨hnx, I.nd⟩) fun n hn => by
            rcases List.mem_cons.mp hn with rfl | hn
            · exact I.nl x (.head _)
            · obtain ⟨y, hy, rfl⟩ := List.mem_map.mp hn
              exact I.nm y hy
          rw [List.length_cons, List.length_map] at this
          have e6 : names6.length = 6 := rfl
          omega
        have hwl := W.len
        obtain ⟨l', r1, r2, r3, r4⟩ := relax_ex x.1 x.2 ws (popped (x :: l)) p1 (by rw [p3]; omega)
        rw [p3] at r4
        have g1 : ∀ i, i < o.length → gt (o ++ [x]) i = gt o i := fun i hi => by rw [gt_lt (by simp; omega), gt_lt hi, List.getElem_append_left hi]
        have g2 : gt (o ++ [x]) o.length = x := by rw [gt_lt (by simp)]; simp
        have hxo : ∀ y ∈ l', leI x y := fun y hy => by
          rcases (r3 y).mp hy with h | ⟨w, hw, hwx, rfl⟩
          · exact hmin y (.tail _ ((p2 y).mp h))
          · rw [leI_iff]
            have := W.lo w hw
            exact .inl (by show x.1 < x.1 + w.2.2; omega)
        have I' : Inv ws l' (o ++ [x]) := by
          refine ⟨r2, ?_, fun y hy => ?_, fun y hy => ?_, ?_, fun a ha y hy => ?_, fun y hy => ?_, fun i hi => ?_, fun a ha w hw hwa => ?_, ?_⟩
          · rw [List.map_append]
            refine List.nodup_append.mpr ⟨I.nd, by simp, fun a ha b hb hab => ?_⟩
            simp at hb
            exact hnx (by rw [← hb, ← hab]; exact ha)
          · rcases List.mem_append.mp hy with h | h
            · exact I.nm y h
            · rw [List.mem_singleton.mp h]; exact I.nl x (.head _)
          · rcases (r3 y).mp hy with h | ⟨w, hw, hwx, rfl⟩
            · exact I.nl y (.tail _ ((p2 y).mp h))
            · exact W.g w hw
          · refine List.pairwise_append.mpr ⟨I.so, by simp, fun a ha b hb => ?_⟩
            rw [List.mem_singleton.mp hb]
            exact I.lo a ha x (.head _)
          · rcases List.mem_append.mp ha with h | h
            · exact leI_trans (I.lo a h x (.head _)) (hxo y hy)
            · rw [List.mem_singleton.mp h]; exact hxo y hy
          · rcases (r3 y).mp hy with h | ⟨w, hw, hwx, rfl⟩
            · rcases I.sl y (.tail _ ((p2 y).mp h)) with h1 | ⟨a, ha, h1⟩
              · exact .inl h1
              · exact .inr ⟨a, List.mem_append_left _ ha, h1⟩
            · exact .inr ⟨x, List.mem_append_right _ (.head _), w, hw, hwx, rfl⟩
          · by_cases hi' : i < o.length
            · rw [g1 i hi']
              rcases I.si i hi' with h | ⟨j, hj, h⟩
              · exact .inl h
              · exact .inr ⟨j, hj, by rw [g1 j (by omega)]; exact h⟩
            · have : i = o.length := by simp at hi; omega
              subst this
              rw [g2]
              rcases I.sl x (.head _) with h | ⟨a, ha, w, hw, h1, h2⟩
              · exact .inl h
              · obtain ⟨j, hj, e⟩ := memGt.mp ha
                exact .inr ⟨j, hj, w, hw, by rw [g1 j hj, e]; exact h1, by rw [g1 j hj, e]; exact h2⟩
          · rcases List.mem_append.mp ha with h | h
            · rcases I.cm a h w hw hwa with h1 | ⟨z, hz, h1⟩
              · rcases List.mem_cons.mp h1 with h1 | h1
                · exact .inr ⟨x, List.mem_append_right _ (.head _), by rw [← h1], by rw [← h1]; exact Int.le_refl _⟩
                · exact .inl ((r3 _).mpr (.inl ((p2 _).mpr h1)))
              · exact .inr ⟨z, List.mem_append_left _ hz, h1⟩
            · rw [List.mem_singleton.mp h] at hwa ⊢
              exact .inl ((r3 _).mpr (.inr ⟨w, hw, hwa, rfl⟩))
          · rcases I.st with h | ⟨z, hz, h⟩
            · rcases List.mem_cons.mp h with h | h
              · exact .inr ⟨x, List.mem_append_right _ (.head _), by rw [← h]; rfl, by rw [← h]; exact Int.le_refl _⟩
              · exact .inl ((r3 _).mpr (.inl ((p2 _).mpr h)))
            · exact .inr ⟨z, List.mem_append_left _ hz, h⟩
        have hmul : (6 - (o ++ [x]).length) * (ws.length + 1) + (ws.length + 1) = (6 - o.length) * (ws.length + 1) := by
          rw [List.length_append, List.length_singleton, ← Nat.succ_mul]
          congr 1
          omega
        obtain ⟨o', q1, q2⟩ := ih l' (o ++ [x]) (by omega) (by rw [List.length_append, List.length_singleton]; omega) I'
        exact ⟨o', .new (by rw [List.length_cons]; omega) (by rw [p3]; omega) (by omega) hok ((hp_of_bool _).mpr p1) hin' r1 q1, q2⟩
theorem inv0 (ws : List Wy) : Inv ws [a0] [] := ⟨fun k h1 h2 => by simp at h2; omega, by simp, by simp, fun x hx => by rw [List.mem_singleton.mp hx]; decide, by simp, by simp, fun y hy => .inl (List.mem_singleton.mp hy), fun i hi => by simp at hi, by simp, .inl (.head _)⟩
set_option tactic.hygienic true
set_option tactic.hygienic false
theorem ilook_map (D : DI) (x : Str) (c : Int) (y : Str) : ilook (D.map (fun q => if q.1 = x then (q.1, c) else q)) y = if y = x then (ilook D y).map (fun _ => c) else ilook D y := by
  induction D with
  | nil => show none = _; split <;> rfl
  | cons q D ih =>
    unfold ilook at *
    rw [List.map_cons, List.find?_cons, List.find?_cons]
    by_cases hq : q.1 = x
    · rw [if_pos hq]
      by_cases hy : q.1 = y
      · have : y = x := hy ▸ hq
        rw [if_pos this]
        simp [hy]
      · simp only [hy, decide_false]; exact ih
    · rw [if_neg hq]
      by_cases hy : q.1 = y
      · have : y ≠ x := fun e => hq (hy.trans e)
        rw [if_neg this]
        simp [hy]
      · simp only [hy, decide_false]; exact ih
theorem ilook_none {D : DI} {x : Str} : ilook D x = none ↔ D.any (fun q => q.1 = x) = false := by
  unfold ilook
  rw [Option.map_eq_none_iff, List.find?_eq_none, List.any_eq_false]
theorem ilook_app (D : DI) (x : Str) (c : Int) (y : Str) (h : ilook D x = none) : ilook (D ++ [(x, c)]) y = if y = x then some c else ilook D y := by
  unfold ilook at *
  rw [List.find?_append]
  by_cases hy : y = x
  · subst hy
    rw [Option.map_eq_none_iff] at h
    rw [h, if_pos rfl]
    simp
  · rw [if_neg hy]
    have : (List.find? (fun q => decide (q.1 = y)) [(x, c)]) = none := by simp [Ne.symm hy]
    rw [this, Option.or_none]
theorem ilook_store (D : DI) (x : Str) (c : Int) (y : Str) : ilook (istore D x c) y = if y = x then some c else ilook D y := by
  unfold istore
  cases h : D.any (fun q => decide (q.1 = x)) with
  | false =>
    rw [if_neg (by simp)]
    exact ilook_app D x c y (ilook_none.mpr h)
  | true =>
    rw [if_pos rfl, ilook_map]
    by_cases hy : y = x
    · subst hy
      rw [if_pos rfl, if_pos rfl]
      cases h2 : ilook D y with
      | none => rw [ilook_none.mp h2] at h; cases h
      | some v => rfl
    · rw [if_neg hy, if_neg hy]
theorem relax_mono (x : Wy) (De : DI × Nat) {n : Str} {v : Int} (h : ilook De.1 n = some v) : ∃ v', ilook (relaxD x De).1 n = some v' ∧ v' ≤ v := by
  unfold relaxD
  cases hc : ilook De.1 x.1 with
  | none => exact ⟨v, h, Int.le_refl _⟩
  | some c =>
    show ∃ v', ilook (if c + x.2.2 < (ilook De.1 x.2.1).getD 1000 then (istore De.1 x.2.1 (c + x.2.2), if De.1.any (fun q => decide (q.1 = x.2.1)) = true then De.2 else De.2 + 1) else De).1 n = some v' ∧ v' ≤ v
    by_cases hlt : c + x.2.2 < (ilook De.1 x.2.1).getD 1000
    · rw [if_pos hlt]
      show ∃ v', ilook (istore De.1 x.2.1 (c + x.2.2)) n = some v' ∧ v' ≤ v
      rw [ilook_store]
      by_cases hn : n = x.2.1
      · rw [if_pos hn]
        rw [← hn, h] at hlt
        exact ⟨_, rfl, by simp at hlt; omega⟩
      · rw [if_neg hn]
        exact ⟨v, h, Int.le_refl _⟩
    · rw [if_neg hlt]
      exact ⟨v, h, Int.le_refl _⟩
theorem relax_hit (x : Wy) (De : DI × Nat) {c : Int} (h : ilook De.1 x.1 = some c) (hc : c + x.2.2 < 1000) : ∃ v', ilook (relaxD x De).1 x.2.1 = some v' ∧ v' ≤ c + x.2.2 := by
  unfold relaxD
  rw [h]
  show ∃ v', ilook (if c + x.2.2 < (ilook De.1 x.2.1).getD 1000 then (istore De.1 x.2.1 (c + x.2.2), if De.1.any (fun q => decide (q.1 = x.2.1)) = true then De.2 else De.2 + 1) else De).1 x.2.1 = some v' ∧ v' ≤ c + x.2.2
  by_cases hlt : c + x.2.2 < (ilook De.1 x.2.1).getD 1000
  · rw [if_pos hlt]
    show ∃ v', ilook (istore De.1 x.2.1 (c + x.2.2)) x.2.1 = some v' ∧ v' ≤ c + x.2.2
    rw [ilook_store, if_pos rfl]
    exact ⟨_, rfl, Int.le_refl _⟩
  · rw [if_neg hlt]
    cases hg : ilook De.1 x.2.1 with
    | none => rw [hg] at hlt; simp at hlt; omega
    | some v => rw [hg] at hlt; exact ⟨v, rfl, by simp at hlt; omega⟩
noncomputable def LB (o : List It) (D : DI) : Prop := ∀ n v, ilook D n = some v → ∃ z ∈ o, z.2 = n ∧ z.1 ≤ v
theorem relax_lb {ws : List Wy} {o : List It} (I : Inv ws [] o) {x : Wy} (hx : x ∈ ws) {De : DI × Nat} (h : LB o De.1) : LB o (relaxD x De).1 := by
  intro n v hv
  unfold relaxD at hv
  cases hc : ilook De.1 x.1 with
  | none => rw [hc] at hv; exact h n v hv
  | some c =>
    rw [hc] at hv
    change ilook (if c + x.2.2 < (ilook De.1 x.2.1).getD 1000 then (istore De.1 x.2.1 (c + x.2.2), if De.1.any (fun q => decide (q.1 = x.2.1)) = true then De.2 else De.2 + 1) else De).1 n = some v at hv
    by_cases hlt : c + x.2.2 < (ilook De.1 x.2.1).getD 1000
    · rw [if_pos hlt] at hv
      change ilook (istore De.1 x.2.1 (c + x.2.2)) n = some v at hv
      rw [ilook_store] at hv
      by_cases hn : n = x.2.1
      · rw [if_pos hn] at hv
        cases hv
        obtain ⟨z, hz, e1, e2⟩ := h _ _ hc
        rcases I.cm z hz x hx e1.symm with q | ⟨y, hy, q1, q2⟩
        · cases q
        · exact ⟨y, hy, q1.trans hn.symm, by omega⟩
      · rw [if_neg hn] at hv
        exact h n v hv
    · rw [if_neg hlt] at hv
      exact h n v hv
noncomputable def UB (o : List It) (r : Nat) (D : DI) : Prop := ∀ i, i ≤ r → i < o.length → ∃ v, ilook D (gt o i).2 = some v ∧ v ≤ (gt o i).1
theorem UB.relax {o : List It} {r : Nat} {De : DI × Nat} (h : UB o r De.1) (x : Wy) : UB o r (relaxD x De).1 := fun i h1 h2 => by
  obtain ⟨v, e, hv⟩ := h i h1 h2
  obtain ⟨v', e', hv'⟩ := relax_mono x De e
  exact ⟨v', e', by omega⟩
theorem fold_lb {ws : List Wy} {o : List It} (I : Inv ws [] o) : ∀ (us : List Wy), (∀ x ∈ us, x ∈ ws) → ∀ De : DI × Nat, LB o De.1 → LB o (roundD us De).1
  | [], _, De, h => h
  | x :: us, hs, De, h => fold_lb I us (fun y hy => hs y (.tail _ hy)) (relaxD x De) (relax_lb I (hs x (.head _)) h)
theorem fold_ub {o : List It} {r : Nat} : ∀ (us : List Wy) (De : DI × Nat), UB o r De.1 → UB o r (roundD us De).1
  | [], De, h => h
  | x :: us, De, h => fold_ub us (relaxD x De) (h.relax x)
theorem fold_mono : ∀ (us : List Wy) (De : DI × Nat) {n : Str} {v : Int}, ilook De.1 n = some v → ∃ v', ilook (roundD us De).1 n = some v' ∧ v' ≤ v
  | [], De, n, v, h => ⟨v, h, Int.le_refl _⟩
  | x :: us, De, n, v, h => by
    obtain ⟨v1, e1, h1⟩ := relax_mono x De h
    obtain ⟨v2, e2, h2⟩ := fold_mono us (relaxD x De) e1
    exact ⟨v2, e2, by omega⟩
theorem fold_hit {o : List It} {r : Nat} {j : Nat} (hj : j ≤ r) (hjo : j < o.length) (hb : (gt o j).1 ≤ 900) {w : Wy} (hw1 : w.1 = (gt o j).2) (hw2 : w.2.2 ≤ 20) : ∀ (us : List Wy), w ∈ us → ∀ De : DI × Nat, UB o r De.1 → ∃ v, ilook (roundD us De).1 w.2.1 = some v ∧ v ≤ (gt o j).1 + w.2.2
  | [], hm, _, _ => by cases hm
  | x :: us, hm, De, h => by
    rcases List.mem_cons.mp hm with rfl | hm
    · obtain ⟨c, e, hc⟩ := h j hj hjo
      rw [← hw1] at e
      obtain ⟨v, e2, h2⟩ := relax_hit w De e (by omega)
      obtain ⟨v', e3, h3⟩ := fold_mono us (relaxD w De) e2
      exact ⟨v', e3, by omega⟩
    · exact fold_hit hj hjo hb hw1 hw2 us hm (relaxD x De) (h.relax x)
theorem cost_le {ws : List Wy} (W : Ways ws) {o : List It} (I : Inv ws [] o) : ∀ i, i < o.length → (gt o i).1 ≤ 20 * i := by
  intro i
  induction i using Nat.strongRecOn with
  | ind i ih =>
    intro hi
    rcases I.si i hi with h | ⟨j, hj, w, hw, h1, h2⟩
    · rw [h]; show (0 : Int) ≤ _; omega
    · rw [h2]
      have := ih j hj (by omega)
      have h20 := W.hi w hw
      show (gt o j).1 + w.2.2 ≤ _
      omega
theorem inv_len {ws : List Wy} {l o : List It} (I : Inv ws l o) : o.length ≤ 6 := by
  have := nodup_lenS (o.map (·.2)) names6 I.nd fun x hx => by
    obtain ⟨y, hy, rfl⟩ := List.mem_map.mp hx
    exact I.nm y hy
  rw [List.length_map] at this
  exact this
theorem round_step {ws : List Wy} (W : Ways ws) {o : List It} (I : Inv ws [] o) {r : Nat} {De : DI × Nat} (h0 : ∃ v, ilook De.1 "a" = some v ∧ v ≤ 0) (h : UB o r De.1) : (∃ v, ilook (roundD ws De).1 "a" = some v ∧ v ≤ 0) ∧ UB o (r + 1) (roundD ws De).1 := by
  have ha : ∃ v, ilook (roundD ws De).1 "a" = some v ∧ v ≤ 0 := by
    obtain ⟨v, e, hv⟩ := h0
    obtain ⟨v', e', hv'⟩ := fold_mono ws De e
    exact ⟨v', e', by omega⟩
  refine ⟨ha, fun i h1 h2 => ?_⟩
  by_cases hi : i ≤ r
  · exact fold_ub ws De h i hi h2
  · rcases I.si i h2 with q | ⟨j, hj, w, hw, q1, q2⟩
    · rw [q]; exact ha
    · rw [q2]
      have hc := cost_le W I j (by omega)
      have h6 := inv_len I
      exact fold_hit (r := r) (by omega) (by omega) (by omega) q1 (W.hi w hw) ws hw De h
theorem rounds_all {ws : List Wy} (W : Ways ws) {o : List It} (I : Inv ws [] o) : ∀ (n r : Nat) (De : DI × Nat), (∃ v, ilook De.1 "a" = some v ∧ v ≤ 0) → UB o r De.1 → LB o De.1 → UB o (r + n) (rounds ws n De).1 ∧ LB o (rounds ws n De).1
  | 0, r, De, _, h2, h3 => ⟨h2, h3⟩
  | n + 1, r, De, h1, h2, h3 => by
    obtain ⟨a, b⟩ := round_step W I h1 h2
    have := rounds_all W I n (r + 1) (roundD ws De) a b (fold_lb I ws (fun _ hx => hx) De h3)
    rw [show r + (n + 1) = r + 1 + n from by omega]
    exact this
theorem uniq {ws : List Wy} {l o : List It} (I : Inv ws l o) {x y : It} (hx : x ∈ o) (hy : y ∈ o) (e : x.2 = y.2) : x = y := by
  obtain ⟨i, hi, rfl⟩ := memGt.mp hx
  obtain ⟨j, hj, rfl⟩ := memGt.mp hy
  rw [gt_lt hi, gt_lt hj] at e
  have : (o.map (·.2))[i]'(by simpa using hi) = (o.map (·.2))[j]'(by simpa using hj) := by simpa using e
  have := (List.getElem_inj I.nd).mp this
  subst this
  rfl
/-- what the rounds leave is what the search found -/
theorem least_is {ws : List Wy} (W : Ways ws) {o : List It} (I : Inv ws [] o) : ∀ z, z ∈ (rounds ws 6 ([(Str.ofString "a", 0)], 1)).1.map flip ↔ z ∈ o := by
  have nd : ((rounds ws 6 ([(Str.ofString "a", 0)], 1)).1.map (·.1)).Nodup := rounds_nodup ws 6 _ (by simp)
  obtain ⟨hub, hlb⟩ := rounds_all W I 6 0 ([(Str.ofString "a", 0)], 1) ⟨0, rfl, Int.le_refl _⟩ (fun i h1 h2 => by
    have : i = 0 := by omega
    subst this
    rcases I.si 0 h2 with q | ⟨j, hj, _⟩
    · rw [q]; exact ⟨0, rfl, Int.le_refl _⟩
    · omega) (fun n v hv => by
    have : n = "a" ∧ v = 0 := by
      unfold ilook at hv
      by_cases hn : "a" = n
      · simp [hn] at hv; exact ⟨hn.symm, hv.symm⟩
      · simp [hn] at hv
    rcases I.st with q | ⟨z, hz, q1, q2⟩
    · cases q
    · exact ⟨z, hz, by rw [this.1]; exact q1, by rw [this.2]; exact q2⟩)
  generalize rounds ws 6 ([(Str.ofString "a", 0)], 1) = De at nd hub hlb
  have full : ∀ z ∈ o, ilook De.1 z.2 = some z.1 := fun z hz => by
    obtain ⟨i, hi, e⟩ := memGt.mp hz
    have h6 := inv_len I
    obtain ⟨v, e1, h1⟩ := hub i (by omega) hi
    rw [e] at e1 h1
    obtain ⟨y, hy, e2, h2⟩ := hlb _ _ e1
    have := uniq I hy hz e2
    subst this
    rw [e1]
    congr 1
    omega
  intro z
  constructor
  · intro h
    obtain ⟨q, hq, rfl⟩ := List.mem_map.mp h
    have e := ilook_self nd q hq
    obtain ⟨y, hy, e2, h2⟩ := hlb _ _ e
    have e3 := full y hy
    rw [e2, e] at e3
    have e4 : q.2 = y.1 := Option.some.inj e3
    show (q.2, q.1) ∈ o
    rw [e4, ← e2]
    exact hy
  · intro h
    have e := full z h
    unfold ilook at e
    obtain ⟨q, e1, e2⟩ := Option.map_eq_some_iff.mp e
    have hq := List.mem_of_find?_eq_some e1
    have hq1 : q.1 = z.2 := by simpa using List.find?_some e1
    exact List.mem_map.mpr ⟨q, hq, by show (q.2, q.1) = z; rw [e2, hq1]⟩
theorem flip_nodup {D : DI} (nd : (D.map (·.1)).Nodup) : (D.map flip).Nodup := by
  refine List.pairwise_iff_getElem.mpr fun i j hi hj hij => ?_
  intro e
  simp only [List.getElem_map] at e
  have hi' : i < D.length := by simpa using hi
  have hj' : j < D.length := by simpa using hj
  have e1 : (D[i]'hi').1 = (D[j]'hj').1 := congrArg Prod.snd e
  have : (D.map (·.1))[i]'(by simpa using hi') = (D.map (·.1))[j]'(by simpa using hj') := by simpa using e1
  have := (List.getElem_inj nd).mp this
  omega
theorem o_nodup {ws : List Wy} {l o : List It} (I : Inv ws l o) : o.Nodup := by
  refine List.pairwise_iff_getElem.mpr fun i j hi hj hij => ?_
  intro e
  have : (o.map (·.2))[i]'(by simpa using hi) = (o.map (·.2))[j]'(by simpa using hj) := by simp [e]
  have := (List.getElem_inj I.nd).mp this
  omega
/-- the search ends, and finds what the sort of the rounds tells -/
theorem math {ws : List Wy} (W : Ways ws) {w : Wy} (hw : w ∈ ws) (hwa : w.1 = "a") (hwb : w.2.1 ≠ "a") : ∃ o : List It, Run ws [(0, Str.ofString "a")] [] o ∧ (∀ x ∈ o, x.2 ∈ names6) ∧ o.length ≤ 6 ∧
    2 ≤ ((rounds ws 6 ([(Str.ofString "a", 0)], 1)).1.map flip).length ∧ ((rounds ws 6 ([(Str.ofString "a", 0)], 1)).1.map flip).length < 64 ∧
    ∃ p : Array Nat, runC (fun i j => ltI (((rounds ws 6 ([(Str.ofString "a", 0)], 1)).1.map flip).getD i default) (((rounds ws 6 ([(Str.ofString "a", 0)], 1)).1.map flip).getD j default)) ((rounds ws 6 ([(Str.ofString "a", 0)], 1)).1.map flip).length (kas_sort ((rounds ws 6 ([(Str.ofString "a", 0)], 1)).1.map flip).length) = some p ∧
      p.size = ((rounds ws 6 ([(Str.ofString "a", 0)], 1)).1.map flip).length ∧ (∀ i ∈ p.toList, i < ((rounds ws 6 ([(Str.ofString "a", 0)], 1)).1.map flip).length) ∧ (p.toList.map fun i => ((rounds ws 6 ([(Str.ofString "a", 0)], 1)).1.map flip).getD i default) = o := by
  obtain ⟨o, r1, I⟩ := run_ex W _ [a0] [] (Nat.le_refl _) (by decide) (inv0 ws)
  have h6 := inv_len I
  have hst : ∃ z ∈ o, z.2 = "a" ∧ z.1 ≤ 0 := by
    rcases I.st with q | q
    · cases q
    · exact q
  obtain ⟨z, hz, e1, _⟩ := hst
  have h2 : 2 ≤ o.length := by
    rcases I.cm z hz w hw (hwa.trans e1.symm) with q | ⟨y, hy, e2, _⟩
    · cases q
    · have := nodup_len [z, y] o (List.nodup_cons.mpr ⟨by simp; intro e; exact hwb (by rw [← e2, ← e, e1]), by simp⟩) (fun x hx => by
        rcases List.mem_cons.mp hx with rfl | hx
        · exact hz
        · rw [List.mem_singleton.mp hx]; exact hy)
      exact this
  obtain ⟨q1, p, q2, q3, q4, q5⟩ := sorts (flip_nodup (rounds_nodup ws 6 ([(Str.ofString "a", 0)], 1) (by simp))) (o_nodup I) (least_is W I) I.so h2 h6
  exact ⟨o, r1, I.nm, h6, by rw [q1]; exact h2, by rw [q1]; omega, p, q2, q3, q4, q5⟩
set_option tactic.hygienic true
set_option tactic.hygienic false

/-! _law_replies -/
section
variable {prog : Program} {w : World} {mg : Str → Option Value} {G : Heap} {k : Nat} {env : Env} {ρ : Vars} {S S₁ S₂ S' : List PO}
theorem zipApart {a b N : Nat} (h1 : @LT.lt Nat instLTNat a N) (h2 : @LT.lt Nat instLTNat b N) : ZipApart (N + 4) (N + 2) (N + 3) N (N + 1) a b := by
  constructor <;> (show @Ne Nat _ _; omega)
theorem ITR.zip {id : Str} {p pos : Pos} {e1 e2 : Expr} {n1 n2 : Nat} {l1 l2 : List PV} {elts : List Expr} {x1 : Nat} {tpos : Pos} (h0 : EV prog w mg G k env ρ S (.Name id p) (.fn (.type "zip")) S) (h1 : ELs prog w mg G k env ρ S pos [e1, e2] [.obj n1, .obj n2] S₁)
    (hn1 : S₁[n1]? = some (.list l1)) (hn2 : S₁[n2]? = some (.list l2)) (hlen : l1.length = l2.length)
    (he : starEach [e1, e2] env = (false, eval e1 env) :: starEach [e2] env := by rfl) (hp : (backTo pos (starEach [e2] env)).any (·.1) = false := by rfl) :
    ITR prog w mg G k env ρ S (.Call (.Name id p) [e1, e2] [] pos) (.Tuple elts x1 tpos) (zipP l1 l2) (fun S => S[n1]? = some (.list l1) ∧ S[n2]? = some (.list l2)) S₁ := Lock.mk fun A σ s T Q E H => by
  refine callRaw T h0 Kp.type h1 he hp fun vs σ₁ h₁ tk₁ R₁ X₁ V₁ => ?_
  obtain ⟨v1, vs, rfl, U1, V₁⟩ := V₁.uncons
  obtain ⟨v2, vs, rfl, U2, V₁⟩ := V₁.uncons
  rw [V₁.unnil]
  (first | (obtain ⟨_, rfl⟩ := VR.inv U1) | (obtain rfl := VR.inv U1)); (first | (obtain ⟨_, rfl⟩ := VR.inv U2) | (obtain rfl := VR.inv U2))
  obtain ⟨xs, c1, o1, v1⟩ := R₁.objs n1 _ hn1
  obtain ⟨ys, c2, o2, v2⟩ := R₁.objs n2 _ hn2
  have L1 : σ₁.p n1 < h₁.objs.size := Heap.lt_size o1
  have L2 : σ₁.p n2 < h₁.objs.size := Heap.lt_size o2
  refine call_zip_2 (s := { s with heap := h₁, toks := tk₁ }) ⟨_, o1, rfl, c1, rfl⟩ ⟨_, o2, rfl, c2, rfl⟩ fun h' hz hTI hTO hi1 hi2 hsz hk => ?_
  dsimp only at hz hTI hTO hi1 hi2 hsz hk ⊢
  refine wpAny_pyIter_zip (s := { s with heap := h', toks := tk₁ }) hz ?_
  have new : ∀ a ∈ [h₁.objs.size + 4, h₁.objs.size + 2, h₁.objs.size + 3, h₁.objs.size, h₁.objs.size + 1], h₁.objs.size ≤ a := by
    intro a ha
    simp only [List.mem_cons, List.not_mem_nil, or_false] at ha
    omega
  have live : ∀ a ∈ [h₁.objs.size + 4, h₁.objs.size + 2, h₁.objs.size + 3, h₁.objs.size, h₁.objs.size + 1], ∃ o, h'.get? a = some o := by
    intro a ha
    simp only [List.mem_cons, List.not_mem_nil, or_false] at ha
    rcases ha with rfl | rfl | rfl | rfl | rfl
    · exact ⟨_, hz⟩
    · exact ⟨_, hTI⟩
    · exact ⟨_, hTO⟩
    · obtain ⟨o, e, _⟩ := hi1; exact ⟨o, e⟩
    · obtain ⟨o, e, _⟩ := hi2; exact ⟨o, e⟩
  refine H _ [h₁.objs.size + 4, h₁.objs.size + 2, h₁.objs.size + 3, h₁.objs.size, h₁.objs.size + 1] _ σ₁ h' tk₁ (src_zip (i1 := h₁.objs.size) (i2 := h₁.objs.size + 1) T.room.hh hlen) (fun a ha => ?_) ⟨⟨hz, hTI, ⟨_, _, hTO⟩, hi1, hi2⟩, ?_, fun a ha => ⟨(frOf R₁ (new a ha)).2, .inr ha⟩⟩ ⟨hn1, hn2⟩ (R₁.addF (fun a ha => (frOf R₁ (new a ha)).1) hk (fun a ha => live a ha))
    ⟨X₁.len, X₁.same, X₁.sameF, X₁.new, fun a' o e f => (X₁.keep a' o e f).trans fun o' e' => KeepO.refl (hk _ _ e')⟩
  · exact oldFr R₁ X₁ (frOf R₁ (new a ha)).1
  · show ZipApart _ _ _ _ _ (σ₁.p n1) (σ₁.p n2)
    exact zipApart L1 L2
theorem OPL.strTup {x : Str} : OPL prog w mg G k S [.str x, .fn (.type "tuple")] (fun vs => PySem.call (.builtin "isinstance") vs) (.bool false) S := Lock.mk fun A σ s vs _ _ _ R V0 Q E H => by
  obtain ⟨v, vs, rfl, V, V0⟩ := V0.uncons
  obtain ⟨u, vs, rfl, U, V0⟩ := V0.uncons
  rw [V0.unnil]
  (first | (obtain ⟨_, rfl⟩ := VR.inv V) | (obtain rfl := VR.inv V)); (first | (obtain ⟨_, rfl⟩ := VR.inv U) | (obtain rfl := VR.inv U))
  exact IsiPair.str_tuple (H _ σ s.heap (s.toks + 1) R Ext.refl (.bool _))
theorem OPL.tupTup {qs : List PV} : OPL prog w mg G k S [.tup qs, .fn (.type "tuple")] (fun vs => PySem.call (.builtin "isinstance") vs) (.bool true) S := Lock.mk fun A σ s vs _ _ _ R V0 Q E H => by
  obtain ⟨v, vs, rfl, V, V0⟩ := V0.uncons
  obtain ⟨u, vs, rfl, U, V0⟩ := V0.uncons
  rw [V0.unnil]
  (first | (obtain ⟨_, rfl⟩ := VR.inv U) | (obtain rfl := VR.inv U))
  cases V with
  | tup hF ho hc hd hl hi => exact IsiPair.tuple_tuple ho hc (H _ σ s.heap s.toks R Ext.refl (.bool _))
theorem joinStrs {l : List Str} {xs : Array Value} {σ : Lo} {N : Nat} {h : Heap} (V : VRs σ N h xs (l.map .str)) : ∃ ts : List (Str × Tok), xs = (strValues ts).toArray ∧ ts.map (·.1) = l := by
  induction l generalizing xs with
  | nil => exact ⟨[], by have := V.1; simp at this; simp [this, strValues], rfl⟩
  | cons x l ih =>
    obtain ⟨xs⟩ := xs
    obtain ⟨v, vs, rfl, U, V⟩ := V.uncons
    obtain ⟨ts, e, e'⟩ := ih V
    cases U with
    | str y t => exact ⟨(x, t) :: ts, by simp [strValues] at e ⊢; exact e, by simp [e']⟩
theorem OPL.join {n : Nat} {l : List Str} {x : Str} (hn : S[n]? = some (.list (l.map .str))) (hok : JoinOk x l = true) : OPL prog w mg G k S [.str x, .obj n] (fun vs => PySem.call (.builtin "str.join") vs) (.str (Txt.join x l)) S := Lock.mk fun A σ s vs _ _ _ R V0 Q E H => by
  obtain ⟨v, vs, rfl, V, V0⟩ := V0.uncons
  obtain ⟨u, vs, rfl, U, V0⟩ := V0.uncons
  rw [V0.unnil]
  (first | (obtain ⟨_, rfl⟩ := VR.inv V) | (obtain rfl := VR.inv V)); (first | (obtain ⟨_, rfl⟩ := VR.inv U) | (obtain rfl := VR.inv U))
  obtain ⟨xs, c1, o1, v1⟩ := R.objs n _ hn
  obtain ⟨ts, rfl, e'⟩ := joinStrs v1
  exact SC.join ⟨_, o1, rfl, c1, rfl⟩ e' hok fun t' kk => H _ σ s.heap kk R Ext.refl (.str _ _)
end
set_option tactic.hygienic true
set_option tactic.hygienic false

/-! _law_replies -/
theorem lkObjNew : typeLookup (.type "object") "__new__" = pure (some (.builtin "object.__new__")) := by rw [typeLookup_type, builtinLookup_eq_fast]; kernel_rfl
theorem calledObj : TypeCalled "object" "object.__new__" "object.__init__" :=
  ⟨by decide +kernel, by decide +kernel, ⟨_, _, PySem.F.mro_object⟩, madeBy_type PySem.F.mro_object lkObjNew (by decide +kernel), by decide +kernel, by rw [isSubtype_type]; kernel_rfl, PySem.F.slot_object_init⟩
theorem typeCallObj : checkTypeCall "object" ⟨[], []⟩ = pure () := by kernel_rfl
theorem newCallObj : checkBuiltinCall "object.__new__" ⟨[.type "object"], []⟩ = pure () := by kernel_rfl
theorem madeHereObj : Bind.madeHere "object.__new__" (.type "object") = pure () := by
  have h : Bind.madeBy (.type "object") = pure (some "object.__new__") := calledObj.made
  unfold Bind.madeHere
  have hs : Bind.staticBase (.type "object") = pure (.type "object") := by kernel_rfl
  simp only [hs, pure_bind, h]
  rfl
theorem objNewMeets : Meets (Builtin.«object.__new__» ⟨[.type "object"], []⟩) (fun _ R s => R (.ok (.ret (.ref s.heap.objs.size))) { s with heap := s.heap.push { cls := .type "object", data := .plain } }) :=
  .of_wp fun prog w A R s h => by
    obtain ⟨hp, g, d, tk, os⟩ := s
    have h1 := madeHereObj
    have h2 : (Manifest.find? "object").elim false (·.mro.any fun t => (Manifest.find? t).elim false (·.noNew)) = false := by decide +kernel
    wp_walk
    exact ⟨_, rfl, h⟩
section
variable {prog : Program} {w : World} {mg : Str → Option Value} {G : Heap} {k : Nat} {env : Env} {ρ : Vars} {S S₁ S₂ S' : List PO}
theorem callObj {A : Around} {E : Value → Shared → Prop} {s : Shared} {Q : Value → Shared → Prop} (h : Q (.ref s.heap.objs.size) { s with heap := s.heap.push { cls := .type "object", data := .plain } }) :
    wpAny (model prog w) A (PySem.call (.type "object") []) Q E s := by
  refine callType_meets (Q₁ := fun r s₁ => r = .ref s.heap.objs.size ∧ s₁ = { s with heap := s.heap.push { cls := .type "object", data := .plain } }) calledObj typeCallObj newCallObj PySem.F.entry_object_new PySem.F.entry_object_init objNewMeets ⟨rfl, rfl⟩ fun obj s₁ hq => ?_
  obtain ⟨rfl, rfl⟩ := hq
  refine ⟨⟨_, Heap.get?_push_size _ rfl, rfl⟩, PySem.F.args_object_init_1 _, _, (?_ : Meets _ (fun _ R s => R (.ok (.ret .none)) s)), rfl, h⟩
  exact Meets.of_wp fun prog w A R s hs => wpAny_pure ⟨_, rfl, hs⟩
theorem OPL.obj0 : OPL prog w mg G k S [] (fun vs => PySem.call (.type "object") vs) (.obj S.length) (S ++ [.blank]) := Lock.mk fun A σ s vs _ _ _ R V0 Q E H => by
  rw [V0.unnil]
  refine callObj ?_
  obtain ⟨R₂, X₂, V₂⟩ := newAt (o := .blank) (h' := s.heap.push { cls := .type "object", data := .plain }) R (Nat.le_refl _) (fun a o e => Heap.get?_push_of_some _ e) ⟨_, Heap.get?_push_size _ rfl, rfl, rfl⟩
  exact H _ _ _ s.toks R₂ X₂ V₂
end
set_option tactic.hygienic true
set_option tactic.hygienic false

/-! _law_replies -/
section
variable {prog : Program} {w : World} {mg : Str → Option Value} {G : Heap} {k : Nat} {env : Env} {ρ : Vars} {S S₁ S₂ S₃ S' : List PO}
theorem EV.sliceG {value : Expr} {lo hi st : Option Expr} {p pos : Pos} {a : Addr} {vs : Array Value} {l : List PV} {i j c : Option Int} (h1 : EV prog w mg G k env ρ S value (.fn (.ref a)) S₁) (h2 : EPart prog w mg G k env ρ S₁ lo i S₂) (h3 : EPart prog w mg G k env ρ S₂ hi j S₃)
    (h4 : EPart prog w mg G k env ρ S₃ st c S') (hg : G.IsList a vs) (hv : ∀ σ N h, VRs σ N h vs l) (hc : c ≠ some 0) (hl : l.length ≤ sizeLine)
    (hs : ∀ o i, ∃ ops, subscripted (.Slice lo hi st p) false o i = operate ops (getItem o i) := by intro _ _; exact ⟨_, by with_unfolding_all rfl⟩) :
    EV prog w mg G k env ρ S (.Subscript value (.Slice lo hi st p) pos) (.obj S'.length) (S' ++ [.list (pick l i j c)]) := Lock.mk fun A σ s T Q E H => by
  refine Subscript_ (h1.run A σ s T _ _ fun v σ₁ h₁ tk₁ R₁ X₁ V₁ => ?_)
  (first | (obtain ⟨_, rfl⟩ := VR.inv V₁) | (obtain rfl := VR.inv V₁))
  have T₁ := T.ext R₁ X₁
  refine wpAny_Slice (h2.run T₁ fun o σ₂ h₂ tk₂ ho R₂ X₂ => ?_)
  have T₂ := T₁.ext R₂ X₂
  refine h3.run T₂ fun o' σ₃ h₃ tk₃ ho' R₃ X₃ => ?_
  have T₃ := T₂.ext R₃ X₃
  refine h4.run T₃ fun o'' σ₄ h₄ tk₄ ho'' R₄ X₄ => ?_
  subst ho ho' ho''
  have X : Ext σ S.length s.heap σ₄ S'.length h₄ := Ext.trans R₃ (Ext.trans R₂ (Ext.trans R₁ X₁ X₂) X₃) X₄
  have hk : ∀ a ob, h₄.get? a = some ob → (h₄.push { cls := .type "slice", data := .fields #[partValue o, partValue o', partValue o''] }).get? a = some ob := fun a ob e => Heap.get?_push_of_some _ e
  generalize hh5 : h₄.push { cls := .type "slice", data := .fields #[partValue o, partValue o', partValue o''] } = h₅ at hk
  have R₅ := R₄.keeps hk
  obtain ⟨ob, ho, hcl, m, hdt⟩ := id hg
  have hl' : h₅.IsList a vs := ⟨ob, R₅.ground _ _ ho, hcl, m, hdt⟩
  have hv' := hv σ₄ S'.length h₅
  obtain ⟨ops, hops⟩ := hs (.ref a) (.ref h₄.objs.size)
  refine tail_any (s := { s with heap := h₅, toks := tk₄ }) hl'.typeIs slot_list_getitem.lookup (wpAny_getItem_list_slice (s := { s with heap := h₅, toks := tk₄ }) hl' (by rw [← hh5]; exact Heap.IsSliceOf.new ..) (partIs o) (partIs o') (partIs o'') hc ?_ (by rw [hv'.1]; exact hl)) hops
  obtain ⟨R₆, X₆, V₆⟩ := newListAt (w := w) (A := A) (s := { s with heap := h₅, toks := tk₄ }) (S := S') R₅ (hv'.pick (o.map (·.1)) (o'.map (·.1)) (o''.map (·.1))) rfl
  exact H _ _ _ _ R₆ (Ext.trans R₅ (Ext.trans R₄ X (Ext.ofKeeps hk)) X₆) V₆
end
set_option tactic.hygienic true
set_option tactic.hygienic false

/-! _law_replies -/
noncomputable def argE : Expr → Expr | .Call _ (a :: _) _ _ => a | e => e
noncomputable def lwC1 : Expr := valA ((bd 28).getD 1 default)
noncomputable def lwC2 : Expr := valA ((bd 28).getD 2 default)
noncomputable def lwC3 : Expr := valA ((bd 28).getD 4 default)
noncomputable def lwC4 : Expr := argE (valA ((bd 28).getD 5 default))
noncomputable abbrev xEa : List Str := ["each"]
theorem nmEa : Nm xEa := ⟨by decide +kernel, by decide +kernel⟩
noncomputable abbrev xEn : List Str := ["each", "answer"]
theorem nmEn : Nm xEn := ⟨by decide +kernel, by decide +kernel⟩
noncomputable def okW (x : Way) : Prop := 0 ≤ x.1 ∧ x.1 < 5 ∧ 0 ≤ x.2.1 ∧ x.2.1 < 5 ∧ 1 ≤ x.2.2.1 ∧ x.2.2.1 ≤ 20 ∧ 0 ≤ x.2.2.2 ∧ x.2.2.2 < 8
theorem okDrawn (x : Int) : okW (drawnWay x) := by
  unfold okW drawnWay
  have e1 : x.fmod 5 = x % 5 := Int.fmod_eq_emod_of_nonneg _ (by decide)
  have e2 : (x.fdiv 5).fmod 5 = (x.fdiv 5) % 5 := Int.fmod_eq_emod_of_nonneg _ (by decide)
  have e3 : (x.fdiv 25).fmod 20 = (x.fdiv 25) % 20 := Int.fmod_eq_emod_of_nonneg _ (by decide)
  have e4 : (x.fdiv 500).fmod 8 = (x.fdiv 500) % 8 := Int.fmod_eq_emod_of_nonneg _ (by decide)
  dsimp only
  rw [e1, e2, e3, e4]
  omega
theorem okWays (xs : List Int) : ∀ y ∈ waysOf xs, okW y := by
  intro y hy
  unfold waysOf at hy
  rcases List.mem_append.mp hy with h | h
  · have : ∀ y ∈ fixedWays, okW y := by unfold okW; decide +kernel
    exact this y h
  · obtain ⟨x, _, rfl⟩ := List.mem_map.mp h
    exact okDrawn x
noncomputable abbrev dueW (x : Way) : PV := dueOf x.2.1 x.2.2.1 x.2.2.2
noncomputable def good (x : Way) : Bool := x.2.2.2 == 0 || x.2.2.2 == 4
noncomputable def ansN (x : Way) : Str := if x.2.2.2 == 0 then nameAt x.2.1 else ""
noncomputable def toWy (x : Way) : Wy := (nameAt x.1, ansN x, x.2.2.1)
theorem due_good {x : Way} (h : okW x) (g : good x = true) : dueW x = .tup [.str (ansN x), .tup [.str "host", .int x.2.2.1]] := by
  unfold good at g
  show dueOf _ _ _ = _
  unfold dueOf ansN
  rcases (Bool.or_eq_true _ _).mp g with e | e <;> rw [eq_of_beq e] <;> rfl
theorem due_bad {x : Way} (h : okW x) (g : good x = false) : dueW x = .str "reply" ∨ dueW x = .str "proto" := by
  unfold good at g
  obtain ⟨_, _, _, _, _, _, h7, h8⟩ := h
  show dueOf _ _ _ = _ ∨ dueOf _ _ _ = _
  generalize x.2.2.2 = kd at g h7 h8 ⊢
  generalize x.2.1 = gl
  generalize x.2.2.1 = co
  obtain ⟨n, rfl⟩ := Int.eq_ofNat_of_zero_le h7
  have : n < 8 := by omega
  match n, this with
  | 0, _ => simp at g
  | 1, _ => exact .inl rfl
  | 2, _ => exact .inr rfl
  | 3, _ => exact .inl rfl
  | 4, _ => simp at g
  | 5, _ => exact .inr rfl
  | 6, _ => exact .inr rfl
  | 7, _ => exact .inr rfl
section
theorem CompR.grow {step : PV → List PO → Option PV → List PO → Prop} {need : List PO → Prop} (f : PV → Option PV) (hn : ∀ S X, need S → need (S ++ X)) : ∀ (ps : List PV) (S : List PO), need S → (∀ p ∈ ps, ∀ S', need S' → ∃ X, step p S' (f p) (S' ++ X)) → ∃ X, CompR step need ps S (ps.filterMap f) (S ++ X)
  | [], S, _, _ => ⟨[], by rw [List.append_nil]; exact .nil⟩
  | p :: ps, S, h0, h => by
    obtain ⟨X, h1⟩ := h p (.head _) S h0
    obtain ⟨Y, ih⟩ := CompR.grow f hn ps (S ++ X) (hn _ _ h0) fun q hq => h q (.tail _ hq)
    refine ⟨X ++ Y, ?_⟩
    rw [← List.append_assoc]
    cases hf : f p with
    | none => rw [List.filterMap_cons, hf]; exact .skip (hf ▸ h1) (hn _ _ h0) ih
    | some q => rw [List.filterMap_cons, hf]; exact .take (hf ▸ h1) (hn _ _ h0) ih
variable {prog : Program} {w : World} {mg : Str → Option Value} {G : Heap} {k : Nat} {env : Env} {ρ : Vars} {S S₁ S₂ S' : List PO}
theorem CompR.ways {step : PV → List PO → Option PV → List PO → Prop} {need : List PO → Prop} {X : Type} (en : X → PV) (f : X → Option PV) (hn : ∀ S X, need S → need (S ++ X)) : ∀ (l : List X) (S : List PO), need S → (∀ y ∈ l, ∀ S', need S' → ∃ Z, step (en y) S' (f y) (S' ++ Z)) → ∃ Z, CompR step need (l.map en) S (l.filterMap f) (S ++ Z)
  | [], S, _, _ => ⟨[], by rw [List.append_nil]; exact .nil⟩
  | p :: ps, S, h0, h => by
    obtain ⟨X, h1⟩ := h p (.head _) S h0
    obtain ⟨Y, ih⟩ := CompR.ways en f hn ps (S ++ X) (hn _ _ h0) fun q hq => h q (.tail _ hq)
    refine ⟨X ++ Y, ?_⟩
    rw [← List.append_assoc]
    cases hf : f p with
    | none => rw [List.filterMap_cons, hf]; exact .skip (hf ▸ h1) (hn _ _ h0) ih
    | some q => rw [List.filterMap_cons, hf]; exact .take (hf ▸ h1) (hn _ _ h0) ih
theorem EV.ifExp {test body orelse : Expr} {pos : Pos} {b : Bool} {p : PV} (h1 : EB prog w mg G k env ρ S test b S₁) (h2 : b = true → EV prog w mg G k env ρ S₁ body p S') (h3 : b = false → EV prog w mg G k env ρ S₁ orelse p S') :
    EV prog w mg G k env ρ S (.IfExp test body orelse pos) p S' := Lock.mk fun A σ s T Q E H => by
  refine IfExp_ (h1.run A σ s T _ _ fun σ₁ h₁ tk₁ R₁ X₁ => ?_)
  have T₁ := T.ext R₁ X₁
  cases b with
  | true => exact (h2 rfl).run A σ₁ _ T₁ Q E fun v σ' h' tk' R X V => H v σ' h' tk' R (Ext.trans R₁ X₁ X) V
  | false => exact (h3 rfl).run A σ₁ _ T₁ Q E fun v σ' h' tk' R X V => H v σ' h' tk' R (Ext.trans R₁ X₁ X) V
theorem subW (x : Way) : SUB prog w mg G k S (encY x) (.int 0) (.int x.1) S ∧ SUB prog w mg G k S (encY x) (.int 1) (.int x.2.1) S ∧ SUB prog w mg G k S (encY x) (.int 2) (.int x.2.2.1) S ∧ SUB prog w mg G k S (encY x) (.int 3) (.int x.2.2.2) S :=
  ⟨SUB.tup (j := 0) (by decide) (by decide) rfl rfl, SUB.tup (j := 1) (by decide) (by decide) rfl rfl, SUB.tup (j := 2) (by decide) (by decide) rfl rfl, SUB.tup (j := 3) (by decide) (by decide) rfl rfl⟩
theorem subName {n : Nat} {i : Int} (hn : S[n]? = some (.list (names.map .str))) (h0 : 0 ≤ i) (h1 : i < 5) : SUB prog w mg G k S (.obj n) (.int i) (.str (nameAt i)) S := by
  obtain ⟨j, rfl⟩ := Int.eq_ofNat_of_zero_le h0
  have hj : j < 5 := by omega
  refine SUB.list (j := j) hn (by omega) (by omega) ?_ ?_
  · match j, hj with
    | 0, _ => rfl
    | 1, _ => rfl
    | 2, _ => rfl
    | 3, _ => rfl
    | 4, _ => rfl
  · match j, hj with
    | 0, _ => rfl
    | 1, _ => rfl
    | 2, _ => rfl
    | 3, _ => rfl
    | 4, _ => rfl
theorem heard_comp {C₁ C₂ : Addr} (T : Top mg G) (T2 : TwoCls mg G C₁ C₂) {all : List PV} {n : Nat} (l : List Way) (hl : ∀ y ∈ l, okW y) (hn : S[n]? = some (.list all)) :
    ∃ X, ∀ env, CompR (CompStep prog w mg G (k + 2) env (cscOf lwC1) (V xEa [none]) (genOf lwC1).target (genOf lwC1).ifs (eltOf lwC1)) (fun S => S[n]? = some (.list all)) (l.map encY) S (l.map dueW) (S ++ X) := by
  obtain ⟨f1, m1, K1, c1⟩ := replies_ok (prog := prog) (w := w) T
  obtain ⟨f2, m2, K2, c2⟩ := heardWay_ok (prog := prog) (w := w) T T2
  have key : ∀ (l : List Way), (∀ y ∈ l, okW y) → ∀ S : List PO, S[n]? = some (.list all) → ∃ X, ∀ env, CompR (CompStep prog w mg G (k + 2) env (cscOf lwC1) (V xEa [none]) (genOf lwC1).target (genOf lwC1).ifs (eltOf lwC1)) (fun S => S[n]? = some (.list all)) (l.map encY) S (l.map dueW) (S ++ X) := by
    intro l
    induction l with
    | nil => intro _ S _; exact ⟨[], fun env => by rw [List.append_nil]; exact .nil⟩
    | cons y l ih =>
      intro hl S hn
      obtain ⟨g0, g1, g2, g3, g4, g5, g6, g7⟩ := hl y (.head _)
      obtain ⟨X1, o1⟩ := c1 k S y.1 y.2.1 y.2.2.1 y.2.2.2 g2 g3 g4 g5 g6 g7
      obtain ⟨X2, o2⟩ := c2 k (S ++ X1) y.2.1 y.2.2.1 y.2.2.2 g2 g3 g4 g5 g6 g7
      obtain ⟨Y, r⟩ := ih (fun z hz => hl z (.tail _ hz)) (S ++ X1 ++ X2) (app_get (app_get hn))
      refine ⟨X1 ++ X2 ++ Y, fun env => ?_⟩
      rw [← List.append_assoc, ← List.append_assoc]
      have nm := nmEa
      have nd : ((cscOf lwC1).names.map (·.1)).Nodup := by decide +kernel
      refine .take (.take (V xEa [some (encY y)]) S (fun z q hz => by simp [V] at hz) fun C => ⟨?_, ?_, ?_⟩) (app_get (app_get hn)) (r env)
      · exact ASG.nm nm (.inl (kindC nd (by decide +kernel))) .hd
      · conv in (Comprehension.ifs _) => whnf
        exact .nil
      · have gr : (cenvOf (cscOf lwC1) env C).kindOf "_law_replies" = some .globalImplicit := kindG nd (by decide +kernel)
        have gh : (cenvOf (cscOf lwC1) env C).kindOf "_law_heard" = some .globalImplicit := kindG nd (by decide +kernel)
        generalize cenvOf (cscOf lwC1) env C = ce at gr gh
        conv in (eltOf _) => whnf
        refine EV.callStar gh m2 K2 (EV.callF gr m1 K1 (ELs.cons ?_ ELs.nil) o1) o2 (Nat.le_of_ble_eq_true rfl)
        repeat' array_get_dec
  exact key l hl S hn
noncomputable def dueTab : List (Int × Str) := [(1, "reply"), (2, "proto"), (3, "reply"), (5, "proto"), (6, "proto"), (7, "proto")]
theorem dueTab_is {x : Way} (h : okW x) : tabGet dueTab x.2.2.2 (.tup [.str (ansN x), .tup [.str "host", .int x.2.2.1]]) = dueW x := by
  obtain ⟨_, _, _, _, _, _, h7, h8⟩ := h
  show _ = dueOf _ _ _
  unfold ansN
  generalize x.2.2.2 = kd at h7 h8 ⊢
  generalize x.2.1 = gl
  generalize x.2.2.1 = co
  obtain ⟨n, rfl⟩ := Int.eq_ofNat_of_zero_le h7
  have : n < 8 := by omega
  match n, this with
  | 0, _ => rfl
  | 1, _ => rfl
  | 2, _ => rfl
  | 3, _ => rfl
  | 4, _ => rfl
  | 5, _ => rfl
  | 6, _ => rfl
  | 7, _ => rfl
theorem due_comp (T : Top mg G) {all : List PV} {n : Nat} (l : List Way) (hl : ∀ y ∈ l, okW y) (hn : S[n]? = some (.list all)) :
    ∃ X, ∀ env, CompR (CompStep prog w mg G (k + 2) env (cscOf lwC2) (V xEa [none]) (genOf lwC2).target (genOf lwC2).ifs (eltOf lwC2)) (fun S => S[n]? = some (.list all)) (l.map encY) S (l.map dueW) (S ++ X) := by
  obtain ⟨f1, m1, K1, c1⟩ := names_ok (prog := prog) (w := w) T
  have key : ∀ (l : List Way), (∀ y ∈ l, okW y) → ∀ S : List PO, S[n]? = some (.list all) → ∃ X, ∀ env, CompR (CompStep prog w mg G (k + 2) env (cscOf lwC2) (V xEa [none]) (genOf lwC2).target (genOf lwC2).ifs (eltOf lwC2)) (fun S => S[n]? = some (.list all)) (l.map encY) S (l.map dueW) (S ++ X) := by
    intro l
    induction l with
    | nil => intro _ S _; exact ⟨[], fun env => by rw [List.append_nil]; exact .nil⟩
    | cons y l ih =>
      intro hl S hn
      have hy := hl y (.head _)
      obtain ⟨g0, g1, g2, g3, g4, g5, g6, g7⟩ := id hy
      obtain ⟨Y, r⟩ := ih (fun z hz => hl z (.tail _ hz)) (S ++ if y.2.2.2 == 0 then [PO.list (names.map .str)] else []) (app_get hn)
      refine ⟨(if y.2.2.2 == 0 then [PO.list (names.map .str)] else []) ++ Y, fun env => ?_⟩
      rw [← List.append_assoc]
      have nm := nmEa
      have nd : ((cscOf lwC2).names.map (·.1)).Nodup := by decide +kernel
      refine .take (.take (V xEa [some (encY y)]) S (fun z q hz => by simp [V] at hz) fun C => ⟨?_, ?_, ?_⟩) (app_get hn) (r env)
      · exact ASG.nm nm (.inl (kindC nd (by decide +kernel))) .hd
      · conv in (Comprehension.ifs _) => whnf
        exact .nil
      · have gr : (cenvOf (cscOf lwC2) env C).kindOf "_law_names" = some .globalImplicit := kindG nd (by decide +kernel)
        generalize cenvOf (cscOf lwC2) env C = ce at gr
        obtain ⟨s0, s1, s2, s3⟩ := subW (prog := prog) (w := w) (mg := mg) (G := G) (k := k + 2) (S := S) y
        obtain ⟨_, t1, t2, _⟩ := subW (prog := prog) (w := w) (mg := mg) (G := G) (k := k + 2) (S := S ++ [PO.list (names.map .str)]) y
        have sn : SUB prog w mg G (k + 2) (S ++ [PO.list (names.map .str)]) (.obj S.length) (.int y.2.1) (.str (nameAt y.2.1)) _ := subName (by simp) g2 g3
        rw [← dueTab_is hy]
        conv in (eltOf _) => whnf
        refine EV.dispGet (knd := intKind prog w) (x := y.2.2.2) rfl (List.cons_ne_nil _ _) (Nat.le_of_ble_eq_true rfl) (Disp.intK (Disp.intK (Disp.intK (Disp.intK (Disp.intK (Disp.intK .nil)))))) (kp := .int y.2.2.2) (ELk.of ?_) ?_ (List.cons_ne_nil _ _) (fun σ N h v V => by (first | (obtain ⟨_, rfl⟩ := VR.inv V) | (obtain rfl := VR.inv V)); show (_ == _) = true; simp)
        · have c1' := c1 (k + 1) S
          refine ELs.cons (S₁ := S) ?_ (ELs.cons (S₁ := S ++ if y.2.2.2 == 0 then [PO.list (names.map .str)] else []) ?_ ELs.nil)
          · repeat' array_get_dec
          · refine EV.tup ?_ (Nat.le_of_ble_eq_true rfl)
            refine ELs.cons (S₁ := S ++ if y.2.2.2 == 0 then [PO.list (names.map .str)] else []) (EV.ifExp (b := y.2.2.2 == 0) (S₁ := S) ?_ ?_ ?_) (ELs.cons ?_ ELs.nil)
            · repeat' array_get_dec
            · intro e
              unfold ansN
              rw [e]
              show EV prog w mg G (k + 2) ce _ S _ (.str (nameAt y.2.1)) (S ++ [PO.list (names.map .str)])
              repeat' array_get_dec
            · intro e
              unfold ansN
              rw [e]
              show EV prog w mg G (k + 2) ce _ S _ (.str "") (S ++ [])
              rw [List.append_nil]
              exact EV.str
            · cases e : y.2.2.2 == 0 with
              | true => show EV prog w mg G (k + 2) ce _ (S ++ [PO.list (names.map .str)]) _ _ (S ++ [PO.list (names.map .str)]); repeat' array_get_dec
              | false => show EV prog w mg G (k + 2) ce _ (S ++ []) _ _ (S ++ []); rw [List.append_nil]; repeat' array_get_dec
        · intro od es ep e x hd he hk es' ep' hd' hst
          rw [hd] at hd'; cases hd'
          obtain ⟨n', t', q⟩ := hst e he
          rw [q] at hk; cases hk
  exact key l hl S hn
noncomputable abbrev encZ (y : Way) : PV := .tup [encY y, dueW y]
theorem zip_is (l : List Way) : zipP (l.map encY) (l.map dueW) = l.map encZ := by
  unfold zipP
  induction l with
  | nil => rfl
  | cons a l ih => simp only [List.map_cons, List.zip_cons_cons, ih]
noncomputable def toldF (y : Way) : Option PV := if good y then some (encW (toWy y)) else none
theorem told_comp (c : Expr) (hc : c = lwC3 ∨ c = lwC4) (T : Top mg G) {n1 n2 : Nat} {a1 a2 : List PV} (l : List Way) (hl : ∀ y ∈ l, okW y) (hn : S[n1]? = some (.list a1) ∧ S[n2]? = some (.list a2)) :
    ∃ X, ∀ env, CompR (CompStep prog w mg G (k + 2) env (cscOf c) (V xEn [none, none]) (genOf c).target (genOf c).ifs (eltOf c)) (fun S => S[n1]? = some (.list a1) ∧ S[n2]? = some (.list a2)) (l.map encZ) S (l.filterMap toldF) (S ++ X) := by
  obtain ⟨f1, m1, K1, c1⟩ := names_ok (prog := prog) (w := w) T
  have nm := nmEn
  have nd : ((cscOf c).names.map (·.1)).Nodup := by rcases hc with rfl | rfl <;> decide +kernel
  have hloc : ∀ x ∈ xEn, (x, NameKind.local) ∈ (cscOf c).names := by rcases hc with rfl | rfl <;> decide +kernel
  have hgl : ∀ x ∈ (["_law_names", "isinstance", "tuple"] : List Str), (x, NameKind.globalImplicit) ∈ (cscOf c).names := by rcases hc with rfl | rfl <;> decide +kernel
  have key : ∀ (l : List Way), (∀ y ∈ l, okW y) → ∀ S : List PO, (S[n1]? = some (.list a1) ∧ S[n2]? = some (.list a2)) → ∃ X, ∀ env, CompR (CompStep prog w mg G (k + 2) env (cscOf c) (V xEn [none, none]) (genOf c).target (genOf c).ifs (eltOf c)) (fun S => S[n1]? = some (.list a1) ∧ S[n2]? = some (.list a2)) (l.map encZ) S (l.filterMap toldF) (S ++ X) := by
    intro l
    induction l with
    | nil => intro _ S _; exact ⟨[], fun env => by rw [List.append_nil]; exact .nil⟩
    | cons y l ih =>
      intro hl S hn
      have hy := hl y (.head _)
      obtain ⟨g0, g1, g2, g3, g4, g5, g6, g7⟩ := id hy
      have ha : ∀ env C, ASG prog w mg G (k + 2) (cenvOf (cscOf c) env C) (genOf c).target (encZ y) (V xEn [none, none]) (V xEn [some (encY y), some (dueW y)]) S := fun env C => by
        have hk : ∀ x ∈ xEn, (cenvOf (cscOf c) env C).kindOf x = some .local ∨ (cenvOf (cscOf c) env C).kindOf x = some .cell := fun x hx => .inl (kindC nd (hloc x hx))
        generalize cenvOf (cscOf c) env C = ce at hk
        rcases hc with rfl | rfl <;> (conv in (Comprehension.target _) => whnf) <;> exact ASG.tupV nm hk (.cons .hd (.cons (.tl .hd) .nil))
      have hw : ∀ z q, (V xEn [none, none]).lookup z = some q → (V xEn [some (encY y), some (dueW y)]).lookup z = some q := fun z q hz => by simp [V] at hz
      have ht : ∀ env C b, OPL prog w mg G (k + 2) S [dueW y, .fn (.type "tuple")] (fun vs => PySem.call (.builtin "isinstance") vs) (.bool b) S → EIfs prog w mg G (k + 2) (cenvOf (cscOf c) env C) (V xEn [some (encY y), some (dueW y)]) S (genOf c).ifs b S := fun env C b hb => by
        have gi : (cenvOf (cscOf c) env C).kindOf "isinstance" = some .globalImplicit := kindG nd (hgl _ (by decide +kernel))
        have gt : (cenvOf (cscOf c) env C).kindOf "tuple" = some .globalImplicit := kindG nd (hgl _ (by decide +kernel))
        generalize cenvOf (cscOf c) env C = ce at gi gt
        rcases hc with rfl | rfl <;>
        · conv in (Comprehension.ifs _) => whnf
          apply EIfs.one
          refine EB.val (EV.callB T gi (by decide +kernel) (by decide +kernel) Kp.builtin (ELs.cons ?_ (ELs.cons (EV.builtin gt (T.bi _ (by decide +kernel)) (by decide +kernel) (by decide +kernel) (by decide +kernel)) ELs.nil)) hb (by decide +kernel) (by decide +kernel)) TR.bool
          repeat' array_get_dec
      cases hg : good y with
      | true =>
        obtain ⟨Y, r⟩ := ih (fun z hz => hl z (.tail _ hz)) (S ++ [PO.list (names.map .str)]) ⟨app_get hn.1, app_get hn.2⟩
        refine ⟨[PO.list (names.map .str)] ++ Y, fun env => ?_⟩
        rw [← List.append_assoc]
        have ed := due_good hy hg
        have hf : (y :: l).filterMap toldF = encW (toWy y) :: l.filterMap toldF := by
          rw [List.filterMap_cons]; unfold toldF; rw [if_pos hg]
        rw [hf]
        refine .take (.take (V xEn [some (encY y), some (dueW y)]) S hw fun C => ⟨ha env C, ht env C true (by rw [ed]; exact OPL.tupTup), ?_⟩) ⟨app_get hn.1, app_get hn.2⟩ (r env)
        have gr : (cenvOf (cscOf c) env C).kindOf "_law_names" = some .globalImplicit := kindG nd (hgl _ (by decide +kernel))
        generalize cenvOf (cscOf c) env C = ce at gr
        have c1' := c1 (k + 1) S
        obtain ⟨s0, s1, s2, s3⟩ := subW (prog := prog) (w := w) (mg := mg) (G := G) (k := k + 2) (S := S ++ [PO.list (names.map .str)]) y
        have sn : SUB prog w mg G (k + 2) (S ++ [PO.list (names.map .str)]) (.obj S.length) (.int y.1) (.str (nameAt y.1)) _ := subName (by simp) g0 g1
        have u0 : SUB prog w mg G (k + 2) (S ++ [PO.list (names.map .str)]) (.tup [.str (ansN y), .tup [.str "host", .int y.2.2.1]]) (.int 0) (.str (ansN y)) _ := SUB.tup (j := 0) (by decide) (by decide) rfl rfl
        have u1 : SUB prog w mg G (k + 2) (S ++ [PO.list (names.map .str)]) (.tup [.str (ansN y), .tup [.str "host", .int y.2.2.1]]) (.int 1) (.tup [.str "host", .int y.2.2.1]) _ := SUB.tup (j := 1) (by decide) (by decide) rfl rfl
        have u2 : SUB prog w mg G (k + 2) (S ++ [PO.list (names.map .str)]) (.tup [.str "host", .int y.2.2.1]) (.int 1) (.int y.2.2.1) _ := SUB.tup (j := 1) (by decide) (by decide) rfl rfl
        rw [ed]
        show EV prog w mg G (k + 2) ce _ _ _ (.tup [.str (nameAt y.1), .str (ansN y), .int y.2.2.1]) _
        rcases hc with rfl | rfl <;>
        · conv in (eltOf _) => whnf
          repeat' array_get_dec
      | false =>
        obtain ⟨Y, r⟩ := ih (fun z hz => hl z (.tail _ hz)) S hn
        refine ⟨Y, fun env => ?_⟩
        have hf : (y :: l).filterMap toldF = l.filterMap toldF := by
          rw [List.filterMap_cons]; unfold toldF; rw [if_neg (by rw [hg]; decide)]
        rw [hf]
        refine .skip (.skip (V xEn [some (encY y), some (dueW y)]) hw fun C => ⟨ha env C, ht env C false ?_⟩) hn (r env)
        rcases due_bad hy hg with e | e <;> (rw [e]; exact OPL.strTup)
  exact key l hl S hn
end
set_option tactic.hygienic true
set_option tactic.hygienic false

/-! _law_replies -/
noncomputable def rows : List (List Str) := [["*", "\""], ["[*]"], ["?", "?"], ["[!ab]", "*"], ["[ab]", "*", "b"], ["?", "a", "*"]]
noncomputable def cutOf (row : List Str) : List (Option Str) :=
  if row = (["*", "\""] : List Str) then [none, some "\""] else if row = (["[*]"] : List Str) then [some "[*]"] else if row = (["?", "?"] : List Str) then [some ".", some "."] else
  if row = (["[!ab]", "*"] : List Str) then [some "[^ab]", none] else if row = (["[ab]", "*", "b"] : List Str) then [some "[ab]", none, some "b"] else [some ".", some "a", none]
theorem tf_all : (rows.all fun row => names6.all fun n => takes n (cutOf row) == fits n row.reverse) = true := by decide +kernel
theorem tf {row : List Str} (hr : row ∈ rows) {n : Str} (hn : n ∈ names6) : takes n (cutOf row) = fits n row.reverse :=
  eq_of_beq (List.all_eq_true.mp (List.all_eq_true.mp tf_all row hr) n hn)
theorem okp_all : (rows.all fun row => names6.all fun n => (cutOf row).all fun p => okPart n p) = true := by decide +kernel
theorem okp {row : List Str} (hr : row ∈ rows) {n : Str} (hn : n ∈ names6) : ∀ p ∈ cutOf row, okPart n p = true :=
  List.all_eq_true.mp (List.all_eq_true.mp (List.all_eq_true.mp okp_all row hr) n hn)
theorem pick_rev {row : List Str} (hr : row ∈ rows) : pick (row.map .str) none none (some (-1)) = row.reverse.map .str := by
  unfold rows at hr
  simp only [List.mem_cons, List.not_mem_nil, or_false] at hr
  rcases hr with rfl | rfl | rfl | rfl | rfl | rfl <;> rfl
theorem joins : rows.map (Txt.join "") = (["*\"", "[*]", "??", "[!ab]*", "[ab]*b", "?a*"] : List Str) := by decide +kernel
theorem names6_len {n : Str} (hn : n ∈ names6) : n.length ≤ 1000 := by
  have : ∀ n ∈ names6, n.length ≤ 1000 := by decide +kernel
  exact this n hn
theorem br1 : BrFacts "[*]" 1 2 false "*" "*" where
  z := by decide +kernel
  h0 := by decide +kernel
  h1 := by decide +kernel
  h2 := by decide +kernel
  h3 := by decide +kernel
  h4 := fun k h1 h2 => by
    have : k = 1 := by simp at h1; omega
    subst this; decide +kernel
  h5 := by decide +kernel
  h6 := by decide +kernel
  h7 := by decide +kernel
  h8 := by decide +kernel
  h9 := by decide +kernel
  hA := ⟨100, by decide, by decide +kernel⟩
  hB := by decide +kernel
  hC := by decide +kernel
  hD := by decide +kernel
  hE := by decide +kernel
theorem br2 : BrFacts "[!ab]*" 1 4 true "!ab" "^ab" where
  z := by decide +kernel
  h0 := by decide +kernel
  h1 := by decide +kernel
  h2 := by decide +kernel
  h3 := by decide +kernel
  h4 := fun k h1 h2 => by
    have : k = 2 ∨ k = 3 := by simp at h1; omega
    rcases this with rfl | rfl <;> decide +kernel
  h5 := by decide +kernel
  h6 := by decide +kernel
  h7 := by decide +kernel
  h8 := by decide +kernel
  h9 := by decide +kernel
  hA := ⟨100, by decide, by decide +kernel⟩
  hB := by decide +kernel
  hC := by decide +kernel
  hD := by decide +kernel
  hE := by decide +kernel
theorem br3 : BrFacts "[ab]*b" 1 3 false "ab" "ab" where
  z := by decide +kernel
  h0 := by decide +kernel
  h1 := by decide +kernel
  h2 := by decide +kernel
  h3 := by decide +kernel
  h4 := fun k h1 h2 => by
    have : k = 1 ∨ k = 2 := by simp at h1; omega
    rcases this with rfl | rfl <;> decide +kernel
  h5 := by decide +kernel
  h6 := by decide +kernel
  h7 := by decide +kernel
  h8 := by decide +kernel
  h9 := by decide +kernel
  hA := ⟨100, by decide, by decide +kernel⟩
  hB := by decide +kernel
  hC := by decide +kernel
  hD := by decide +kernel
  hE := by decide +kernel
theorem tns {row : List Str} (hr : row ∈ rows) (st : Nat) : Turns (Txt.join "" row) st 0 [] (Txt.join "" row).length ((cutOf row).map (encP st)) := by
  unfold rows at hr
  simp only [List.mem_cons, List.not_mem_nil, or_false] at hr
  rcases hr with rfl | rfl | rfl | rfl | rfl | rfl
  · exact .cons (.star (by decide +kernel) (by decide +kernel) (.inl rfl)) (.cons (.plain (ch := 34) (by decide +kernel) (by decide +kernel) (.inl rfl)) .nil)
  · exact .cons (.br (by decide +kernel) (by decide +kernel) br1) .nil
  · exact .cons (.q (by decide +kernel) (by decide +kernel)) (.cons (.q (by decide +kernel) (by decide +kernel)) .nil)
  · exact .cons (.br (by decide +kernel) (by decide +kernel) br2) (.cons (.star (by decide +kernel) (by decide +kernel) (.inr ⟨_, rfl⟩)) .nil)
  · exact .cons (.br (by decide +kernel) (by decide +kernel) br3) (.cons (.star (by decide +kernel) (by decide +kernel) (.inr ⟨_, rfl⟩)) (.cons (.plain (ch := 98) (by decide +kernel) (by decide +kernel) (.inr (.inr rfl))) .nil))
  · exact .cons (.q (by decide +kernel) (by decide +kernel)) (.cons (.plain (ch := 97) (by decide +kernel) (by decide +kernel) (.inr (.inl rfl))) (.cons (.star (by decide +kernel) (by decide +kernel) (.inr ⟨_, rfl⟩)) .nil))
set_option tactic.hygienic true
set_option tactic.hygienic false

/-! _law_replies -/
theorem pick1 (l : List PV) (h : l.length ≤ 10) : pick l none (some 1) none = l.take 1 := by
  match l, h with
  | [], _ => rfl
  | [a], _ => rfl
  | [a, b], _ => rfl
  | [a, b, c], _ => rfl
  | [a, b, c, d], _ => rfl
  | [a, b, c, d, e], _ => rfl
  | [a, b, c, d, e, f], _ => rfl
  | [a, b, c, d, e, f, g], _ => rfl
  | [a, b, c, d, e, f, g, i], _ => rfl
  | [a, b, c, d, e, f, g, i, j], _ => rfl
  | [a, b, c, d, e, f, g, i, j, k], _ => rfl
  | a :: b :: c :: d :: e :: f :: g :: i :: j :: k :: m :: n, h => simp at h
theorem kindCell {scope : Scope} {env : Env} {x : Str} {C : Addr} (nd : (scope.names.map (·.1)).Nodup) (h : (x, NameKind.cell) ∈ scope.names) : (cenvOf scope env C).kindOf x = some .cell := by
  have e : (cenvOf scope env C).kindOf x = (relabel scope env).names.lookup x := rfl
  rw [e, relabel_look, look_nodup nd h]; rfl
theorem kindF {scope : Scope} {env : Env} {x : Str} {C : Addr} (nd : (scope.names.map (·.1)).Nodup) (h : (x, NameKind.free) ∈ scope.names) : (cenvOf scope env C).kindOf x = some .cell ∨ (cenvOf scope env C).kindOf x = some .free := by
  have e : (cenvOf scope env C).kindOf x = (relabel scope env).names.lookup x := rfl
  rw [e, relabel_look, look_nodup nd h, Option.map_some]
  split <;> simp
noncomputable def subVal : Expr → Expr | .Subscript e _ _ => e | e => e
noncomputable def lwC5 : Expr := valA ((bd 28).getD 10 default)
noncomputable def lwC6 : Expr := valA ((bd 28).getD 11 default)
noncomputable def lwC7 : Expr := rightOf (retE ((bd 28).getD 12 default))
noncomputable def lwI6 : Expr := subVal (eltOf lwC6)
noncomputable def lwI7 : Expr := subVal (eltOf lwC7)
noncomputable def nearL (f : Str → Bool) (o : List It) : List Str := (o.filter fun x => f x.2).map (·.2)
theorem nearL_len (f : Str → Bool) (o : List It) : (nearL f o).length ≤ o.length := by
  unfold nearL; rw [List.length_map]; exact List.length_filter_le _ _
noncomputable abbrev xI6 : List Str := ["far_off", "there", "blank", "cut"]
theorem nmI6 : Nm xI6 := ⟨by decide +kernel, by decide +kernel⟩
noncomputable abbrev xI7 : List Str := ["far_off", "there", "sieve"]
theorem nmI7 : Nm xI7 := ⟨by decide +kernel, by decide +kernel⟩
section
variable {prog : Program} {w : World} {mg : Str → Option Value} {G : Heap} {k : Nat} {env : Env} {ρ : Vars} {S S₁ S₂ S' : List PO}
theorem in6 (T : Top mg G) {m b fo : Nat} {row : List Str} (hr : row ∈ rows) {all : List PV} : ∀ (o : List It), (∀ x ∈ o, x.2 ∈ names6) → ∀ S : List PO, S[m]? = some (.list ((cutOf row).map (encP b))) → S[fo]? = some (.list all) →
    ∃ X, ∀ env, CompR (CompStep prog w mg G (k + 1) env (cscOf lwI6) (V xI6 [none, none, some (.obj b), some (.obj m)]) (genOf lwI6).target (genOf lwI6).ifs (eltOf lwI6)) (fun S => S[fo]? = some (.list all)) (o.map enc) S ((nearL (fun n => takes n (cutOf row)) o).map .str) (S ++ X)
  | [], _, S, _, _ => ⟨[], fun env => by rw [List.append_nil]; exact .nil⟩
  | x :: o, ho, S, hm, hf => by
    obtain ⟨f, mf, Kf, cf⟩ := takes_ok (prog := prog) (w := w) T
    obtain ⟨g, hg⟩ := cf k S m b x.2 (cutOf row) hm (names6_len (ho x (.head _))) (okp hr (ho x (.head _)))
    obtain ⟨X, r⟩ := in6 T hr o (fun y hy => ho y (.tail _ hy)) (S ++ g) (app_get hm) (app_get hf)
    refine ⟨g ++ X, fun env => ?_⟩
    rw [← List.append_assoc]
    have nm := nmI6
    have nd : ((cscOf lwI6).names.map (·.1)).Nodup := by decide +kernel
    have ha : ∀ C, ASG prog w mg G (k + 1) (cenvOf (cscOf lwI6) env C) (genOf lwI6).target (enc x) (V xI6 [none, none, some (.obj b), some (.obj m)]) (V xI6 [some (.int x.1), some (.str x.2), some (.obj b), some (.obj m)]) S := fun C => by
      have k1 : (cenvOf (cscOf lwI6) env C).kindOf "far_off" = some .local := kindC nd (by decide +kernel)
      have k2 : (cenvOf (cscOf lwI6) env C).kindOf "there" = some .local := kindC nd (by decide +kernel)
      generalize cenvOf (cscOf lwI6) env C = ce at k1 k2
      conv in (Comprehension.target _) => whnf
      exact ASG.tup (ASGs.cons (ASG.nm nm (.inl k1) .hd) (ASGs.cons (ASG.nm nm (.inl k2) (.tl .hd)) ASGs.nil)) rfl rfl rfl
    have hw : ∀ z q, (V xI6 [none, none, some (.obj b), some (.obj m)]).lookup z = some q → (V xI6 [some (.int x.1), some (.str x.2), some (.obj b), some (.obj m)]).lookup z = some q := fun z q hz =>
      V.fresh (xs := xI6) (vs := [some (.int x.1), none, some (.obj b), some (.obj m)]) (x := "there") (p := .str x.2) (.tl .hd) (.tl .hd) nm.nd z q (V.fresh (xs := xI6) (vs := [none, none, some (.obj b), some (.obj m)]) (x := "far_off") (p := .int x.1) .hd .hd nm.nd z q hz)
    have ht : ∀ C, EIfs prog w mg G (k + 1) (cenvOf (cscOf lwI6) env C) (V xI6 [some (.int x.1), some (.str x.2), some (.obj b), some (.obj m)]) S (genOf lwI6).ifs (takes x.2 (cutOf row)) (S ++ g) := fun C => by
      have gi : (cenvOf (cscOf lwI6) env C).kindOf "_law_takes" = some .globalImplicit := kindG nd (by decide +kernel)
      generalize cenvOf (cscOf lwI6) env C = ce at gi
      conv in (Comprehension.ifs _) => whnf
      apply EIfs.one
      refine EB.val (EV.callF gi mf Kf ?_ hg) TR.bool
      repeat' array_get_dec
    cases hx : takes x.2 (cutOf row) with
    | true =>
      rw [hx] at ht
      have e : nearL (fun n => takes n (cutOf row)) (x :: o) = x.2 :: nearL (fun n => takes n (cutOf row)) o := by unfold nearL; rw [List.filter_cons, if_pos hx]; rfl
      rw [e]
      refine .take (.take _ (S ++ g) hw fun C => ⟨ha C, ht C, ?_⟩) (app_get hf) (r env)
      generalize cenvOf (cscOf lwI6) env C = ce
      conv in (eltOf _) => whnf
      repeat' array_get_dec
    | false =>
      rw [hx] at ht
      have e : nearL (fun n => takes n (cutOf row)) (x :: o) = nearL (fun n => takes n (cutOf row)) o := by unfold nearL; rw [List.filter_cons, if_neg (by show ¬ (_ : Bool) = true; first | (show ¬ takes x.2 (cutOf row) = true; rw [hx]; decide) | (show ¬ fits x.2 row.reverse = true; rw [hx]; decide))]
      rw [e]
      exact .skip (.skip _ hw fun C => ⟨ha C, ht C⟩) (app_get hf) (r env)
theorem in7 (T : Top mg G) {m fo : Nat} {row : List Str} (hr : row ∈ rows) {all : List PV} : ∀ (o : List It), (∀ x ∈ o, x.2 ∈ names6) → ∀ S : List PO, S[m]? = some (.list (row.map .str)) → S[fo]? = some (.list all) →
    ∃ X, ∀ env, CompR (CompStep prog w mg G (k + 1) env (cscOf lwI7) (V xI7 [none, none, some (.obj m)]) (genOf lwI7).target (genOf lwI7).ifs (eltOf lwI7)) (fun S => S[fo]? = some (.list all)) (o.map enc) S ((nearL (fun n => fits n row.reverse) o).map .str) (S ++ X)
  | [], _, S, _, _ => ⟨[], fun env => by rw [List.append_nil]; exact .nil⟩
  | x :: o, ho, S, hm, hf => by
    obtain ⟨f, mf, Kf, cf⟩ := fits_ok (prog := prog) (w := w) T
    have hrl : row.length ≤ 1000 := by
      have : ∀ r ∈ rows, r.length ≤ 1000 := by decide +kernel
      exact this row hr
    obtain ⟨g, hg⟩ := cf k S m x.2 row row.reverse hm (names6_len (ho x (.head _))) hrl (pick_rev hr)
    obtain ⟨X, r⟩ := in7 T hr o (fun y hy => ho y (.tail _ hy)) (S ++ g) (app_get hm) (app_get hf)
    refine ⟨g ++ X, fun env => ?_⟩
    rw [← List.append_assoc]
    have nm := nmI7
    have nd : ((cscOf lwI7).names.map (·.1)).Nodup := by decide +kernel
    have ha : ∀ C, ASG prog w mg G (k + 1) (cenvOf (cscOf lwI7) env C) (genOf lwI7).target (enc x) (V xI7 [none, none, some (.obj m)]) (V xI7 [some (.int x.1), some (.str x.2), some (.obj m)]) S := fun C => by
      have k1 : (cenvOf (cscOf lwI7) env C).kindOf "far_off" = some .local := kindC nd (by decide +kernel)
      have k2 : (cenvOf (cscOf lwI7) env C).kindOf "there" = some .local := kindC nd (by decide +kernel)
      generalize cenvOf (cscOf lwI7) env C = ce at k1 k2
      conv in (Comprehension.target _) => whnf
      exact ASG.tup (ASGs.cons (ASG.nm nm (.inl k1) .hd) (ASGs.cons (ASG.nm nm (.inl k2) (.tl .hd)) ASGs.nil)) rfl rfl rfl
    have hw : ∀ z q, (V xI7 [none, none, some (.obj m)]).lookup z = some q → (V xI7 [some (.int x.1), some (.str x.2), some (.obj m)]).lookup z = some q := fun z q hz =>
      V.fresh (xs := xI7) (vs := [some (.int x.1), none, some (.obj m)]) (x := "there") (p := .str x.2) (.tl .hd) (.tl .hd) nm.nd z q (V.fresh (xs := xI7) (vs := [none, none, some (.obj m)]) (x := "far_off") (p := .int x.1) .hd .hd nm.nd z q hz)
    have ht : ∀ C, EIfs prog w mg G (k + 1) (cenvOf (cscOf lwI7) env C) (V xI7 [some (.int x.1), some (.str x.2), some (.obj m)]) S (genOf lwI7).ifs (fits x.2 row.reverse) (S ++ g) := fun C => by
      have gi : (cenvOf (cscOf lwI7) env C).kindOf "_law_fits" = some .globalImplicit := kindG nd (by decide +kernel)
      generalize cenvOf (cscOf lwI7) env C = ce at gi
      conv in (Comprehension.ifs _) => whnf
      apply EIfs.one
      refine EB.val (EV.callF gi mf Kf ?_ hg) TR.bool
      repeat' array_get_dec
    cases hx : fits x.2 row.reverse with
    | true =>
      rw [hx] at ht
      have e : nearL (fun n => fits n row.reverse) (x :: o) = x.2 :: nearL (fun n => fits n row.reverse) o := by unfold nearL; rw [List.filter_cons, if_pos hx]; rfl
      rw [e]
      refine .take (.take _ (S ++ g) hw fun C => ⟨ha C, ht C, ?_⟩) (app_get hf) (r env)
      generalize cenvOf (cscOf lwI7) env C = ce
      conv in (eltOf _) => whnf
      repeat' array_get_dec
    | false =>
      rw [hx] at ht
      have e : nearL (fun n => fits n row.reverse) (x :: o) = nearL (fun n => fits n row.reverse) o := by unfold nearL; rw [List.filter_cons, if_neg (by show ¬ (_ : Bool) = true; first | (show ¬ takes x.2 (cutOf row) = true; rw [hx]; decide) | (show ¬ fits x.2 row.reverse = true; rw [hx]; decide))]
      rw [e]
      exact .skip (.skip _ hw fun C => ⟨ha C, ht C⟩) (app_get hf) (r env)
end
set_option tactic.hygienic true
set_option tactic.hygienic false

/-! _law_replies -/
noncomputable abbrev xC5 : List Str := ["sieve", "blank"]
theorem nmC5 : Nm xC5 := ⟨by decide +kernel, by decide +kernel⟩
noncomputable abbrev xC6 : List Str := ["cut", "blank", "found"]
theorem nmC6 : Nm xC6 := ⟨by decide +kernel, by decide +kernel⟩
noncomputable abbrev xC7 : List Str := ["sieve", "fair"]
theorem nmC7 : Nm xC7 := ⟨by decide +kernel, by decide +kernel⟩
theorem joinOks {row : List Str} (hr : row ∈ rows) : JoinOk "" row = true ∧ (Txt.join "" row).length ≤ 100 := by
  have : ∀ r ∈ rows, JoinOk "" r = true ∧ (Txt.join "" r).length ≤ 100 := by decide +kernel
  exact this row hr
theorem ScOk.inn {inner outer : Scope} {env : Env} {C : Addr} (kind : inner.kind = .function) (nodup : (inner.names.map (·.1)).Nodup) (nd : (outer.names.map (·.1)).Nodup)
    (free : (inner.names.all fun x => x.2 != .free || (outer.names.contains (x.1, .cell) || outer.names.contains (x.1, .free))) = true) : ScOk inner (cenvOf outer env C) :=
  ⟨kind, nodup, fun x hx hf => by
    have h := List.all_eq_true.mp free x hx
    rw [hf] at h
    have h' : outer.names.contains (x.1, NameKind.cell) = true ∨ outer.names.contains (x.1, NameKind.free) = true := by simpa using h
    rcases h' with q | q
    · exact .inl (kindCell nd (by simpa using q))
    · exact kindF nd (by simpa using q)⟩
section
variable {prog : Program} {w : World} {mg : Str → Option Value} {G : Heap} {k : Nat} {env : Env} {ρ : Vars} {S S₁ S₂ S' : List PO}
noncomputable abbrev objs (l : List (Nat × List Str)) : List PV := l.map fun q => .obj q.1
theorem cuts_comp {cc Pt : Addr} (T : Top mg G) (TT : TrTop prog w mg G cc Pt) {b sv tb : Nat} {all : List PV} : ∀ (l : List (Nat × List Str)), (∀ q ∈ l, q.2 ∈ rows) → ∀ S : List PO, (∀ q ∈ l, S[q.1]? = some (.list (q.2.map .str))) → S[sv]? = some (.list all) → b < S.length → S[tb]? = some (.tab Pt) →
    ∃ (r : List (Nat × List Str)) (X : List PO), r.map (·.2) = l.map (·.2) ∧ (∀ q ∈ r, (S ++ X)[q.1]? = some (.list ((cutOf q.2).map (encP b)))) ∧
      ∀ env, CompR (CompStep prog w mg G (k + 2) env (cscOf lwC5) (V xC5 [none, some (.obj b)]) (genOf lwC5).target (genOf lwC5).ifs (eltOf lwC5)) (fun S => S[sv]? = some (.list all)) (objs l) S (objs r) (S ++ X)
  | [], _, S, _, _, _, _ => ⟨[], [], rfl, fun q h => (nomatch h), fun env => by rw [List.append_nil]; exact .nil⟩
  | (n, row) :: l, hr, S, hl, hs, hb, htb => by
    have hrow : row ∈ rows := hr _ (.head _)
    obtain ⟨f, mf, Kf, cf⟩ := translate_ok (prog := prog) (w := w) T TT
    obtain ⟨j1, j2⟩ := joinOks hrow
    have hj := OPL.join (prog := prog) (w := w) (mg := mg) (G := G) (k := k + 2) (x := "") (hl _ (.head _)) j1
    have ho := cf k S (Txt.join "" row) b tb _ j2 hb htb (tns hrow b)
    obtain ⟨r, X, h1, h2, h3⟩ := cuts_comp T TT (b := b) (sv := sv) (tb := tb) (all := all) l (fun q hq => hr q (.tail _ hq)) (S ++ [.list ((cutOf row).map (encP b))] ++ [PO.bound S.length "list.append"]) (fun q hq => app_get (app_get (hl q (.tail _ hq)))) (app_get (app_get hs)) (by simp; omega) (app_get (app_get htb))
    refine ⟨(S.length, row) :: r, [.list ((cutOf row).map (encP b))] ++ [PO.bound S.length "list.append"] ++ X, by simp [h1], fun q hq => ?_, fun env => ?_⟩
    · rw [← List.append_assoc, ← List.append_assoc]
      rcases List.mem_cons.mp hq with rfl | hq
      · exact app_get (app_get (by simp))
      · exact h2 q hq
    · rw [← List.append_assoc, ← List.append_assoc]
      have nm := nmC5
      have nd : ((cscOf lwC5).names.map (·.1)).Nodup := by decide +kernel
      refine .take (.take (V xC5 [some (.obj n), some (.obj b)]) S (V.fresh (x := "sieve") (p := .obj n) .hd .hd nm.nd) fun C => ⟨?_, ?_, ?_⟩) (app_get (app_get hs)) (h3 env)
      · exact ASG.nm nm (.inl (kindC nd (by decide +kernel))) .hd
      · conv in (Comprehension.ifs _) => whnf
        exact .nil
      · have gt : (cenvOf (cscOf lwC5) env C).kindOf "_translate" = some .globalImplicit := kindG nd (by decide +kernel)
        generalize cenvOf (cscOf lwC5) env C = ce at gt
        conv in (eltOf _) => whnf
        refine EV.callF gt mf Kf (ELs.cons (S₁ := S) (EV.meth (S₁ := S) (S₂ := S) (p := .str "") (ps := [.obj n]) EV.str (MT.str PySem.F.slot_str_join PySem.F.type_str_join) ?_ hj) ?_) ho
        · repeat' array_get_dec
        · repeat' array_get_dec
theorem out6 (T : Top mg G) {b fo cu : Nat} {o : List It} (ho : ∀ x ∈ o, x.2 ∈ names6) (ho6 : o.length ≤ 6) {all : List PV} : ∀ (l : List (Nat × List Str)), (∀ q ∈ l, q.2 ∈ rows) → ∀ S : List PO, (∀ q ∈ l, S[q.1]? = some (.list ((cutOf q.2).map (encP b)))) → S[cu]? = some (.list all) → S[fo]? = some (.list (o.map enc)) →
    ∃ (r : List (Nat × List Str)) (X : List PO), r.map (·.2) = l.map (·.2) ∧ (∀ q ∈ r, (S ++ X)[q.1]? = some (.list (((nearL (fun n => takes n (cutOf q.2)) o).map .str).take 1))) ∧
      ∀ env, CompR (CompStep prog w mg G (k + 1) env (cscOf lwC6) (V xC6 [none, some (.obj b), some (.obj fo)]) (genOf lwC6).target (genOf lwC6).ifs (eltOf lwC6)) (fun S => S[cu]? = some (.list all)) (objs l) S (objs r) (S ++ X)
  | [], _, S, _, _, _ => ⟨[], [], rfl, fun q h => (nomatch h), fun env => by rw [List.append_nil]; exact .nil⟩
  | (n, row) :: l, hr, S, hl, hs, hf => by
    have hrow : row ∈ rows := hr _ (.head _)
    have hbig : (1000 : Nat) ≤ sizeLine := Nat.le_of_ble_eq_true rfl
    obtain ⟨Y, hI⟩ := in6 (prog := prog) (w := w) (k := k) T hrow (b := b) (m := n) (fo := fo) o ho S (hl _ (.head _)) hf
    obtain ⟨r, X, h1, h2, h3⟩ := out6 T (b := b) (fo := fo) (cu := cu) ho ho6 (all := all) l (fun q hq => hr q (.tail _ hq)) (S ++ Y ++ [.list ((nearL (fun n => takes n (cutOf row)) o).map .str)] ++ [.list (((nearL (fun n => takes n (cutOf row)) o).map .str).take 1)]) (fun q hq => app_get (app_get (app_get (hl q (.tail _ hq))))) (app_get (app_get (app_get hs))) (app_get (app_get (app_get hf)))
    have hnl := nearL_len (fun n => takes n (cutOf row)) o
    refine ⟨((S ++ Y ++ [PO.list ((nearL (fun n => takes n (cutOf row)) o).map .str)]).length, row) :: r, Y ++ [.list ((nearL (fun n => takes n (cutOf row)) o).map .str)] ++ [.list (((nearL (fun n => takes n (cutOf row)) o).map .str).take 1)] ++ X, by simp [h1], fun q hq => ?_, fun env => ?_⟩
    · rw [← List.append_assoc, ← List.append_assoc, ← List.append_assoc]
      rcases List.mem_cons.mp hq with rfl | hq
      · exact app_get (by simp)
      · exact h2 q hq
    · rw [← List.append_assoc, ← List.append_assoc, ← List.append_assoc]
      have nm := nmC6
      have nd : ((cscOf lwC6).names.map (·.1)).Nodup := by decide +kernel
      refine .take (.take (V xC6 [some (.obj n), some (.obj b), some (.obj fo)]) S (V.fresh (x := "cut") (p := .obj n) .hd .hd nm.nd) fun C => ⟨?_, ?_, ?_⟩) (app_get (app_get (app_get hs))) (h3 env)
      · exact ASG.nm nm (.inr (kindCell nd (by decide +kernel))) .hd
      · conv in (Comprehension.ifs _) => whnf
        exact .nil
      · have hI' := hI (cenvOf (cscOf lwC6) env C)
        have ok : ScOk (cscOf lwI6) (cenvOf (cscOf lwC6) env C) := ScOk.inn (by rfl) (by decide +kernel) nd (by decide +kernel)
        generalize cenvOf (cscOf lwC6) env C = ce at hI' ok
        rw [← pick1 _ (by rw [List.length_map]; omega)]
        conv in (eltOf lwC6) => whnf
        refine EV.sliceL (n := (S ++ Y).length) (l := (nearL (fun n => takes n (cutOf row)) o).map .str) (S₁ := S ++ Y ++ [PO.list ((nearL (fun n => takes n (cutOf row)) o).map .str)]) ?_ .no (.some EV.int) .no (by simp) (by decide) (by rw [List.length_map]; omega)
        refine EV.comp (S₁ := S) (ITR.list (n := fo) ?_ hf) ok ?_ ?_ hI' ?_ ?_
        · repeat' array_get_dec
        · exact (Sub.no (Sub.no (Sub.take (.tl .hd) (by decide +kernel) (Sub.take .hd (by decide +kernel) Sub.nil)))).use nm.nd
        · decide +kernel
        · rw [List.length_map]; omega
        · intro _; rfl
theorem out7 (T : Top mg G) {fo sv : Nat} {o : List It} (ho : ∀ x ∈ o, x.2 ∈ names6) (ho6 : o.length ≤ 6) {all : List PV} : ∀ (l : List (Nat × List Str)), (∀ q ∈ l, q.2 ∈ rows) → ∀ S : List PO, (∀ q ∈ l, S[q.1]? = some (.list (q.2.map .str))) → S[sv]? = some (.list all) → S[fo]? = some (.list (o.map enc)) →
    ∃ (r : List (Nat × List Str)) (X : List PO), r.map (·.2) = l.map (·.2) ∧ (∀ q ∈ r, (S ++ X)[q.1]? = some (.list (((nearL (fun n => fits n q.2.reverse) o).map .str).take 1))) ∧
      ∀ env, CompR (CompStep prog w mg G (k + 1) env (cscOf lwC7) (V xC7 [none, some (.obj fo)]) (genOf lwC7).target (genOf lwC7).ifs (eltOf lwC7)) (fun S => S[sv]? = some (.list all)) (objs l) S (objs r) (S ++ X)
  | [], _, S, _, _, _ => ⟨[], [], rfl, fun q h => (nomatch h), fun env => by rw [List.append_nil]; exact .nil⟩
  | (n, row) :: l, hr, S, hl, hs, hf => by
    have hrow : row ∈ rows := hr _ (.head _)
    have hbig : (1000 : Nat) ≤ sizeLine := Nat.le_of_ble_eq_true rfl
    obtain ⟨Y, hI⟩ := in7 (prog := prog) (w := w) (k := k) T hrow (m := n) (fo := fo) o ho S (hl _ (.head _)) hf
    obtain ⟨r, X, h1, h2, h3⟩ := out7 T (fo := fo) (sv := sv) ho ho6 (all := all) l (fun q hq => hr q (.tail _ hq)) (S ++ Y ++ [.list ((nearL (fun n => fits n row.reverse) o).map .str)] ++ [.list (((nearL (fun n => fits n row.reverse) o).map .str).take 1)]) (fun q hq => app_get (app_get (app_get (hl q (.tail _ hq))))) (app_get (app_get (app_get hs))) (app_get (app_get (app_get hf)))
    have hnl := nearL_len (fun n => fits n row.reverse) o
    refine ⟨((S ++ Y ++ [PO.list ((nearL (fun n => fits n row.reverse) o).map .str)]).length, row) :: r, Y ++ [.list ((nearL (fun n => fits n row.reverse) o).map .str)] ++ [.list (((nearL (fun n => fits n row.reverse) o).map .str).take 1)] ++ X, by simp [h1], fun q hq => ?_, fun env => ?_⟩
    · rw [← List.append_assoc, ← List.append_assoc, ← List.append_assoc]
      rcases List.mem_cons.mp hq with rfl | hq
      · exact app_get (by simp)
      · exact h2 q hq
    · rw [← List.append_assoc, ← List.append_assoc, ← List.append_assoc]
      have nm := nmC7
      have nd : ((cscOf lwC7).names.map (·.1)).Nodup := by decide +kernel
      refine .take (.take (V xC7 [some (.obj n), some (.obj fo)]) S (V.fresh (x := "sieve") (p := .obj n) .hd .hd nm.nd) fun C => ⟨?_, ?_, ?_⟩) (app_get (app_get (app_get hs))) (h3 env)
      · exact ASG.nm nm (.inr (kindCell nd (by decide +kernel))) .hd
      · conv in (Comprehension.ifs _) => whnf
        exact .nil
      · have hI' := hI (cenvOf (cscOf lwC7) env C)
        have ok : ScOk (cscOf lwI7) (cenvOf (cscOf lwC7) env C) := ScOk.inn (by rfl) (by decide +kernel) nd (by decide +kernel)
        generalize cenvOf (cscOf lwC7) env C = ce at hI' ok
        rw [← pick1 _ (by rw [List.length_map]; omega)]
        conv in (eltOf lwC7) => whnf
        refine EV.sliceL (n := (S ++ Y).length) (l := (nearL (fun n => fits n row.reverse) o).map .str) (S₁ := S ++ Y ++ [PO.list ((nearL (fun n => fits n row.reverse) o).map .str)]) ?_ .no (.some EV.int) .no (by simp) (by decide) (by rw [List.length_map]; omega)
        refine EV.comp (S₁ := S) (ITR.list (n := fo) ?_ hf) ok ?_ ?_ hI' ?_ ?_
        · repeat' array_get_dec
        · exact (Sub.no (Sub.no (Sub.take .hd (by decide +kernel) Sub.nil))).use nm.nd
        · decide +kernel
        · rw [List.length_map]; omega
        · intro _; rfl
end
set_option tactic.hygienic true
set_option tactic.hygienic false

/-! _law_replies -/
noncomputable abbrev xLw : List Str := ["script", "drawn", "heard", "due", "told", "fair", "found", "blank", "sieves", "cuts", "nearest"]
theorem nmLw : Nm xLw := ⟨by decide +kernel, by decide +kernel⟩
structure LwEnv (env : Env) : Prop where
  hk : ∀ x ∈ xLw, env.kindOf x = some .local ∨ env.kindOf x = some .cell
  hl : ∀ x ∈ (["heard", "due", "told", "cuts", "nearest"] : List Str), env.kindOf x = some .local
  hg : ∀ x ∈ (["_law_ways", "zip", "_law_least", "_law_searched", "object"] : List Str), env.kindOf x = some .globalImplicit
  hs : env.scope = sc 28
  hb : (env.blockKind == .function) = true
theorem swapsLoc {elt : Expr} {gens : List Comprehension} {scope : Scope} {pos p : Pos} {t : Str} {line : Nat} {env : Env} (hb : (env.blockKind == .function) = true) (hl : env.kindOf t = some .local) (hp : (p.line == pos.line && !(scope.names.any fun (n, k) => n == t && (k == .local || k == .cell))) = true) :
    swapsWith (.ListComp elt gens scope pos) (some (.Name t p)) line env = pure true := by
  show (pure (env.blockKind == .function && env.kindOf t == some .local && p.line == pos.line && !(scope.names.any fun (n, k) => n == t && (k == .local || k == .cell))) : Sem Bool) = pure true
  rw [hl, hb, Bool.and_assoc, hp]
  rfl
theorem nearL_congr {f g : Str → Bool} {o : List It} (h : ∀ x ∈ o, f x.2 = g x.2) : nearL f o = nearL g o := by
  unfold nearL
  rw [List.filter_congr h]
noncomputable def nearD (ls : List (List Str)) : PyData := .list (ls.map fun l => .list (l.map .str))
theorem shapedD (ls : List (List Str)) (h : ∀ l ∈ ls, ∀ x ∈ l, PyData.strOk x = true) : PySem.SeqAt.shaped (nearD ls) = true := by
  have h1 : ∀ l : List Str, (∀ x ∈ l, PyData.strOk x = true) → PyData.canLayAll0 (l.map .str) = true ∧ PyData.depthAll (l.map .str) ≤ 2 := by
    intro l
    induction l with
    | nil => intro _; exact ⟨rfl, by simp [PyData.depthAll]⟩
    | cons x l ih =>
      intro hx
      obtain ⟨a, b⟩ := ih fun y hy => hx y (.tail _ hy)
      refine ⟨by rw [List.map_cons, PyData.canLayAll0, a, PyData.canLay0, hx x (.head _)]; rfl, ?_⟩
      rw [List.map_cons, PyData.depthAll, PyData.depth]; omega
  have h2 : ∀ ls : List (List Str), (∀ l ∈ ls, ∀ x ∈ l, PyData.strOk x = true) → PyData.canLayAll0 (ls.map fun l => .list (l.map .str)) = true ∧ PyData.depthAll (ls.map fun l => .list (l.map .str)) ≤ 6 := by
    intro ls
    induction ls with
    | nil => intro _; exact ⟨rfl, by simp [PyData.depthAll]⟩
    | cons x l ih =>
      intro hx
      obtain ⟨a, b⟩ := ih fun y hy => hx y (.tail _ hy)
      obtain ⟨c, d⟩ := h1 x (hx x (.head _))
      refine ⟨by rw [List.map_cons, PyData.canLayAll0, a, PyData.canLay0, c]; rfl, ?_⟩
      rw [List.map_cons, PyData.depthAll, PyData.depth]; omega
  obtain ⟨a, b⟩ := h2 ls h
  unfold PySem.SeqAt.shaped nearD
  rw [Bool.and_eq_true, decide_eq_true_eq]
  refine ⟨by rw [PyData.canLay0]; exact a, ?_⟩
  rw [PyData.depth]; omega
theorem RD.near {S : List PO} {n : Nat} (l : List (Nat × List Str)) (c : List Str → List Str) (hn : S[n]? = some (.list (objs l))) (h : ∀ q ∈ l, S[q.1]? = some (.list ((c q.2).map .str))) : RD S (.obj n) (nearD (l.map fun q => c q.2)) := by
  unfold nearD
  refine .list hn (by simp) fun i p d hp hd => ?_
  rw [List.getElem?_map] at hp
  rw [List.getElem?_map, List.getElem?_map] at hd
  cases hq : l[i]? with
  | none => rw [hq] at hp; cases hp
  | some q =>
    rw [hq] at hp hd
    cases hp; cases hd
    refine .list (h q (List.mem_of_getElem? hq)) (by simp) fun j p d hp hd => ?_
    rw [List.getElem?_map] at hp hd
    cases hx : (c q.2)[j]? with
    | none => rw [hx] at hp; cases hp
    | some x => rw [hx] at hp hd; cases hp; cases hd; exact .str x
theorem nearL_sub {f : Str → Bool} {o : List It} (ho : ∀ x ∈ o, x.2 ∈ names6) : ∀ x ∈ (nearL f o).take 1, x ∈ names6 := by
  intro x hx
  have := List.mem_of_mem_take hx
  unfold nearL at this
  obtain ⟨y, hy, rfl⟩ := List.mem_map.mp this
  exact ho y (List.mem_filter.mp hy).1
section
variable {prog : Program} {w : World} {mg : Str → Option Value} {G : Heap} {k : Nat} {env : Env} {ρ : Vars} {S S₁ S₂ S' : List PO}
theorem law_end (T : Top mg G) {b fo fa cu sv : Nat} {o : List It} (ho : ∀ x ∈ o, x.2 ∈ names6) (ho6 : o.length ≤ 6) (l r : List (Nat × List Str)) (hl : ∀ q ∈ l, q.2 ∈ rows) (hrl : r.map (·.2) = l.map (·.2)) (S : List PO)
    (h1 : ∀ q ∈ l, S[q.1]? = some (.list (q.2.map .str))) (h2 : ∀ q ∈ r, S[q.1]? = some (.list ((cutOf q.2).map (encP b)))) (hl6 : l.length ≤ 6) (hsv : S[sv]? = some (.list (objs l))) (hcu : S[cu]? = some (.list (objs r))) (hfo : S[fo]? = some (.list (o.map enc))) (hfa : S[fa]? = some (.list (o.map enc))) :
    ∃ S', (∀ (i : Nat) (o : PO), S[i]? = some o → S'[i]? = some o) ∧ ∀ env, LwEnv env → ∀ o1 o2 o3 o4 o5 : Option PV, EXs prog w mg G (k + 1) env (V xLw [o1, o2, o3, o4, o5, some (.obj fa), some (.obj fo), some (.obj b), some (.obj sv), some (.obj cu), none]) S ((bd 28).drop 11) (.ret (.bool true) S') := by
  have hbig : (1000 : Nat) ≤ sizeLine := Nat.le_of_ble_eq_true rfl
  have hr : ∀ q ∈ r, q.2 ∈ rows := fun q hq => by
    have : q.2 ∈ r.map (·.2) := List.mem_map_of_mem (f := (·.2)) hq
    rw [hrl] at this
    obtain ⟨q', hq', e⟩ := List.mem_map.mp this
    rw [← e]; exact hl q' hq'
  have hrlen : r.length = l.length := by have := congrArg List.length hrl; simpa using this
  obtain ⟨r6, X6, a1, a2, a3⟩ := out6 (prog := prog) (w := w) (k := k) T (b := b) (fo := fo) (cu := cu) ho ho6 r hr S h2 hcu hfo
  obtain ⟨r7, X7, b1, b2, b3⟩ := out7 (prog := prog) (w := w) (k := k) T (fo := fa) (sv := sv) ho ho6 l hl (S ++ X6 ++ [PO.list (objs r6)]) (fun q hq => app_get (app_get (h1 q hq))) (app_get (app_get hsv)) (app_get (app_get hfa))
  refine ⟨S ++ X6 ++ [PO.list (objs r6)] ++ X7 ++ [PO.list (objs r7)], fun i o h => app_get (app_get (app_get (app_get h))), fun env he o1 o2 o3 o4 o5 => ?_⟩
  obtain ⟨hk, hloc, hg, hs, hb⟩ := he
  have nm := nmLw
  have e6 : r6.map (fun q => (nearL (fun n => takes n (cutOf q.2)) o).take 1) = r7.map (fun q => (nearL (fun n => fits n q.2.reverse) o).take 1) := by
    have q1 : r6.map (fun q => (nearL (fun n => takes n (cutOf q.2)) o).take 1) = (l.map (·.2)).map (fun row => (nearL (fun n => takes n (cutOf row)) o).take 1) := by rw [← hrl, ← a1, List.map_map]; rfl
    have q2 : r7.map (fun q => (nearL (fun n => fits n q.2.reverse) o).take 1) = (l.map (·.2)).map (fun row => (nearL (fun n => fits n row.reverse) o).take 1) := by rw [← b1, List.map_map]; rfl
    rw [q1, q2]
    refine List.map_congr_left fun row hrow => ?_
    obtain ⟨q, hq, rfl⟩ := List.mem_map.mp hrow
    rw [nearL_congr (f := fun n => takes n (cutOf q.2)) (g := fun n => fits n q.2.reverse) fun x hx => tf (hl q hq) (ho x hx)]
  have d6 : RD (S ++ X6 ++ [PO.list (objs r6)] ++ X7 ++ [PO.list (objs r7)]) (.obj (S ++ X6).length) (nearD (r6.map fun q => (nearL (fun n => takes n (cutOf q.2)) o).take 1)) :=
    RD.near r6 (fun row => (nearL (fun n => takes n (cutOf row)) o).take 1) (app_get (app_get (by simp))) fun q hq => app_get (app_get (app_get (by rw [List.map_take]; exact a2 q hq)))
  have d7 : RD (S ++ X6 ++ [PO.list (objs r6)] ++ X7 ++ [PO.list (objs r7)]) (.obj (S ++ X6 ++ [PO.list (objs r6)] ++ X7).length) (nearD (r6.map fun q => (nearL (fun n => takes n (cutOf q.2)) o).take 1)) := by
    rw [e6]
    exact RD.near r7 (fun row => (nearL (fun n => fits n row.reverse) o).take 1) (by simp) fun q hq => app_get (by rw [List.map_take]; exact b2 q hq)
  have sd : PySem.SeqAt.shaped (nearD (r6.map fun q => (nearL (fun n => takes n (cutOf q.2)) o).take 1)) = true := by
    refine shapedD _ fun l hl x hx => ?_
    obtain ⟨q, _, rfl⟩ := List.mem_map.mp hl
    exact names6_ok _ (nearL_sub ho x hx)
  have hcmp := O.eqD (prog := prog) (w := w) (mg := mg) (G := G) (k := k + 1) d6 d7 sd sd
  rw [PySem.SeqAt.eqv_refl _ (PySem.SeqAt.canLay_of_shaped sd)] at hcmp
  conv in ((bd 28).drop 11) => whnf
  refine EXs.cons (EX.asgComp nm (ITR.list (n := cu) ?_ hcu) ?_ ?_ ?_ (a3 env) ?_ (hloc _ (by decide +kernel)) ?_ (.tl (.tl (.tl (.tl (.tl (.tl (.tl (.tl (.tl (.tl .hd))))))))))) ?_
  · repeat' array_get_dec
  · exact ScOk.mk' 28 hs rfl (by decide +kernel) (by decide +kernel)
  · exact (Sub.no (Sub.take (.tl (.tl (.tl (.tl (.tl (.tl (.tl .hd))))))) (by decide +kernel) (Sub.take (.tl (.tl (.tl (.tl (.tl (.tl .hd)))))) (by decide +kernel) Sub.nil))).use nm.nd
  · decide +kernel
  · simp; omega
  · exact swapsLoc hb (hloc _ (by decide +kernel)) (by decide +kernel)
  · refine EXs.ret_ (EV.cmp (S₁ := S ++ X6 ++ [PO.list (objs r6)]) (p := .obj (S ++ X6).length) ?_ (EV.comp (ITR.list (n := sv) ?_ (app_get (app_get hsv))) ?_ ?_ ?_ (b3 env) ?_ ?_) hcmp)
    · repeat' array_get_dec
    · repeat' array_get_dec
    · exact ScOk.mk' 28 hs rfl (by decide +kernel) (by decide +kernel)
    · exact (Sub.no (Sub.take (.tl (.tl (.tl (.tl (.tl .hd))))) (by decide +kernel) Sub.nil)).use nm.nd
    · decide +kernel
    · simp; omega
    · intro _; rfl
end
set_option tactic.hygienic true
set_option tactic.hygienic false

/-! _law_replies -/
section
variable {prog : Program} {w : World} {mg : Str → Option Value} {G : Heap} {k : Nat} {env : Env} {ρ : Vars} {S S₁ S₂ S' : List PO}
theorem law_mid {cc Pt : Addr} (T : Top mg G) (TT : TrTop prog w mg G cc Pt) {fo fa tb : Nat} {o : List It} (ho : ∀ x ∈ o, x.2 ∈ names6) (ho6 : o.length ≤ 6) (S : List PO) (htb : S[tb]? = some (.tab Pt)) (hfo : S[fo]? = some (.list (o.map enc))) (hfa : S[fa]? = some (.list (o.map enc))) :
    ∃ S', (∀ (i : Nat) (o : PO), S[i]? = some o → S'[i]? = some o) ∧ ∀ env, LwEnv env → ∀ o1 o2 o3 o4 o5 : Option PV, EXs prog w mg G (k + 2) env (V xLw [o1, o2, o3, o4, o5, some (.obj fa), some (.obj fo), none, none, none, none]) S ((bd 28).drop 8) (.ret (.bool true) S') := by
  have hbig : (1000 : Nat) ≤ sizeLine := Nat.le_of_ble_eq_true rfl
  generalize hS1 : S ++ [PO.blank] = S1
  have b1 : S1[S.length]? = some .blank := by rw [← hS1]; simp
  have k1 : ∀ {i : Nat} {o : PO}, S[i]? = some o → S1[i]? = some o := fun h => by rw [← hS1]; exact app_get h
  have l1 : S.length < S1.length := by rw [← hS1]; simp
  generalize hR0 : S1 ++ [PO.list [.str "*", .str "\""]] = R0
  generalize hR1 : R0 ++ [PO.list [.str "[*]"]] = R1
  generalize hR2 : R1 ++ [PO.list [.str "?", .str "?"]] = R2
  generalize hR3 : R2 ++ [PO.list [.str "[!ab]", .str "*"]] = R3
  generalize hR4 : R3 ++ [PO.list [.str "[ab]", .str "*", .str "b"]] = R4
  generalize hR5 : R4 ++ [PO.list [.str "?", .str "a", .str "*"]] = R5
  generalize hl : ([(S1.length, ["*", "\""]), (R0.length, ["[*]"]), (R1.length, ["?", "?"]), (R2.length, ["[!ab]", "*"]), (R3.length, ["[ab]", "*", "b"]), (R4.length, ["?", "a", "*"])] : List (Nat × List Str)) = l
  generalize hS3 : R5 ++ [PO.list (objs l)] = S3
  have kR : ∀ {i : Nat} {o : PO}, S1[i]? = some o → S3[i]? = some o := fun h => by
    rw [← hS3, ← hR5, ← hR4, ← hR3, ← hR2, ← hR1, ← hR0]
    exact app_get (app_get (app_get (app_get (app_get (app_get (app_get h))))))
  have len3 : S1.length < S3.length := by rw [← hS3, ← hR5, ← hR4, ← hR3, ← hR2, ← hR1, ← hR0]; simp
  have hrows : ∀ q ∈ l, q.2 ∈ rows := by rw [← hl]; intro q hq; simp only [List.mem_cons, List.not_mem_nil, or_false] at hq; rcases hq with rfl | rfl | rfl | rfl | rfl | rfl <;> (unfold rows; repeat (first | exact .head _ | apply List.Mem.tail))
  have h3 : ∀ q ∈ l, S3[q.1]? = some (.list (q.2.map .str)) := by
    rw [← hl]; intro q hq; simp only [List.mem_cons, List.not_mem_nil, or_false] at hq
    rw [← hS3]
    refine app_get ?_
    rcases hq with rfl | rfl | rfl | rfl | rfl | rfl
    · rw [← hR5, ← hR4, ← hR3, ← hR2, ← hR1, ← hR0]; exact app_get (app_get (app_get (app_get (app_get (by simp)))))
    · rw [← hR5, ← hR4, ← hR3, ← hR2, ← hR1]; exact app_get (app_get (app_get (app_get (by simp))))
    · rw [← hR5, ← hR4, ← hR3, ← hR2]; exact app_get (app_get (app_get (by simp)))
    · rw [← hR5, ← hR4, ← hR3]; exact app_get (app_get (by simp))
    · rw [← hR5, ← hR4]; exact app_get (by simp)
    · rw [← hR5]; simp
  have hsv : S3[R5.length]? = some (.list (objs l)) := by rw [← hS3]; simp
  have hl6 : l.length = 6 := by rw [← hl]; rfl
  obtain ⟨r8, X8, c1, c2, c3⟩ := cuts_comp (prog := prog) (w := w) (k := k) T TT (b := S.length) (sv := R5.length) (tb := tb) l hrows S3 h3 hsv (by omega) (kR (k1 htb))
  obtain ⟨S', kE, W⟩ := law_end (prog := prog) (w := w) (k := k + 1) T (b := S.length) (fo := fo) (fa := fa) (cu := (S3 ++ X8).length) (sv := R5.length) ho ho6 l r8 hrows c1 (S3 ++ X8 ++ [PO.list (objs r8)]) (fun q hq => app_get (app_get (h3 q hq))) (fun q hq => app_get (c2 q hq)) (by omega) (app_get (app_get hsv)) (by simp) (app_get (app_get (kR (k1 hfo)))) (app_get (app_get (kR (k1 hfa))))
  refine ⟨S', fun i o h => kE i o (app_get (app_get (kR (k1 h)))), fun env he o1 o2 o3 o4 o5 => ?_⟩
  have W := W env he o1 o2 o3 o4 o5
  obtain ⟨hk, hloc, hg, hs, hb⟩ := he
  have nm := nmLw
  have hobj : EV prog w mg G (k + 2) env (V xLw [o1, o2, o3, o4, o5, some (.obj fa), some (.obj fo), none, none, none, none]) S (valA ((bd 28).getD 8 default)) (.obj S.length) S1 := by
    rw [← hS1]
    conv in (valA _) => whnf
    exact EV.callN0 (EV.builtin (hg _ (by decide +kernel)) (T.bi _ (by decide +kernel)) (by decide +kernel) (by decide +kernel) (by decide +kernel)) Kp.type OPL.obj0
  have hsie : EV prog w mg G (k + 2) env (V xLw [o1, o2, o3, o4, o5, some (.obj fa), some (.obj fo), some (.obj S.length), none, none, none]) S1 (valA ((bd 28).getD 9 default)) (.obj R5.length) S3 := by
    rw [← hS3, ← hl]
    conv in (valA _) => whnf
    refine EV.list (S₁ := R5) (ps := [.obj S1.length, .obj R0.length, .obj R1.length, .obj R2.length, .obj R3.length, .obj R4.length]) ?_ (Nat.le_of_ble_eq_true rfl)
    refine ELs.cons (S₁ := R0) ?_ (ELs.cons (S₁ := R1) ?_ (ELs.cons (S₁ := R2) ?_ (ELs.cons (S₁ := R3) ?_ (ELs.cons (S₁ := R4) ?_ (ELs.cons (S₁ := R5) ?_ ELs.nil)))))
    · rw [← hR0]; repeat' array_get_dec
    · rw [← hR1]; repeat' array_get_dec
    · rw [← hR2]; repeat' array_get_dec
    · rw [← hR3]; repeat' array_get_dec
    · rw [← hR4]; repeat' array_get_dec
    · rw [← hR5]; repeat' array_get_dec
  conv in ((bd 28).drop 8) => whnf
  refine EXs.asg nm hk hobj (.tl (.tl (.tl (.tl (.tl (.tl (.tl .hd))))))) rfl ?_
  refine EXs.asg nm hk hsie (.tl (.tl (.tl (.tl (.tl (.tl (.tl (.tl .hd)))))))) rfl ?_
  refine EXs.cons (EX.asgComp nm (ITR.list (n := R5.length) ?_ hsv) ?_ ?_ ?_ (c3 env) ?_ (hloc _ (by decide +kernel)) ?_ (.tl (.tl (.tl (.tl (.tl (.tl (.tl (.tl (.tl .hd)))))))))) ?_
  · repeat' array_get_dec
  · exact ScOk.mk' 28 hs rfl (by decide +kernel) (by decide +kernel)
  · exact (Sub.no (Sub.take (.tl (.tl (.tl (.tl (.tl (.tl (.tl .hd))))))) (by decide +kernel) Sub.nil)).use nm.nd
  · decide +kernel
  · simp; omega
  · exact swapsLoc hb (hloc _ (by decide +kernel)) (by decide +kernel)
  · exact W
end
set_option tactic.hygienic true
set_option tactic.hygienic false

/-! _law_replies -/
theorem range_pick (l : List PV) : ∀ m : Nat, m ≤ l.length → (List.range m).filterMap (l[·]?) = l.take m
  | 0, _ => by simp
  | m + 1, h => by
    rw [List.range_succ, List.filterMap_append, range_pick l m (by omega)]
    have e : l[m]? = some (l[m]'(by omega)) := List.getElem?_eq_getElem _
    simp only [List.filterMap_cons, List.filterMap_nil, e]
    rw [List.take_add_one, e]
    rfl
theorem pick5 (l : List PV) (h : l.length ≤ 63) : pick l none (some 5) none = l.take 5 := by
  have hb : ∀ n : Nat, n ≤ 63 → sliceRange (sliceBounds none (some 5) none n).1 (sliceBounds none (some 5) none n).2.1 (sliceBounds none (some 5) none n).2.2 = List.range (min 5 n) := by decide +kernel
  unfold pick
  rw [hb _ h, range_pick l _ (by omega)]
  by_cases q : 5 ≤ l.length
  · rw [Nat.min_eq_left q]
  · rw [Nat.min_eq_right (by omega), List.take_of_length_le (by omega), List.take_of_length_le (by omega)]
noncomputable def wsG (ys : List Int) : List Wy := ((waysOf ys).filter good).map toWy
theorem told_is (l : List Way) : l.filterMap toldF = ((l.filter good).map toWy).map encW := by
  induction l with
  | nil => rfl
  | cons a l ih =>
    rw [List.filterMap_cons, List.filter_cons]
    unfold toldF
    cases h : good a with
    | true => rw [if_pos rfl, if_pos rfl]; simp only [List.map_cons]; rw [← ih]; rfl
    | false => simp; rw [← List.map_map, ← ih]; rfl
theorem nameAt6 {i : Int} (h0 : 0 ≤ i) (h1 : i < 5) : nameAt i ∈ names6 := by
  obtain ⟨j, rfl⟩ := Int.eq_ofNat_of_zero_le h0
  have : ∀ j : Nat, j < 5 → nameAt (j : Int) ∈ names6 := by decide +kernel
  exact this j (by omega)
theorem waysG (ys : List Int) (h : ys.length ≤ 5) : Ways (wsG ys) := by
  have key : ∀ x ∈ wsG ys, ∃ y, okW y ∧ toWy y = x := fun x hx => by
    obtain ⟨y, hy, rfl⟩ := List.mem_map.mp hx
    exact ⟨y, okWays ys y (List.mem_filter.mp hy).1, rfl⟩
  refine ⟨?_, fun x hx => ?_, fun x hx => ?_, fun x hx => ?_, fun x hx => ?_⟩
  · unfold wsG
    rw [List.length_map]
    refine Nat.le_trans (List.length_filter_le _ _) ?_
    unfold waysOf
    rw [List.length_append, List.length_map]
    have : fixedWays.length = 13 := rfl
    omega
  all_goals obtain ⟨y, ⟨g0, g1, g2, g3, g4, g5, g6, g7⟩, rfl⟩ := key x hx
  · exact nameAt6 g0 g1
  · show ansN y ∈ names6
    unfold ansN
    split
    · exact nameAt6 g2 g3
    · decide +kernel
  · exact g4
  · exact g5
theorem fixG (ys : List Int) : (nameAt 0, nameAt 1, (4 : Int)) ∈ wsG ys := by
  refine List.mem_map.mpr ⟨(0, 1, 4, 0), List.mem_filter.mpr ⟨?_, by decide +kernel⟩, rfl⟩
  unfold waysOf
  exact List.mem_append_left _ (.head _)
theorem okDue {y : Way} (h : okW y) : okP (dueW y) = true := by
  cases hg : good y with
  | true =>
    rw [due_good h hg]
    obtain ⟨_, _, g2, g3, _⟩ := h
    have : PyData.strOk (ansN y) = true := by
      unfold ansN
      split
      · exact names6_ok _ (nameAt6 g2 g3)
      · decide +kernel
    have h2 : PyData.strOk "host" = true := by decide +kernel
    unfold okP
    simp [flatB, flatL, pd, pdL, PyData.canLay0, PyData.canLayAll0, PyData.depth, PyData.depthAll, this, h2]
  | false => rcases due_bad h hg with e | e <;> (rw [e]; decide +kernel)
section
variable {prog : Program} {w : World} {mg : Str → Option Value} {G : Heap} {k : Nat} {env : Env} {ρ : Vars} {S S₁ S₂ S' : List PO}
theorem law_ok {cc Pt C₁ C₂ : Addr} (hp : prog.given.tree = none) (T : Top mg G) (TT : TrTop prog w mg G cc Pt) (T2 : TwoCls mg G C₁ C₂) : ∃ f fd, mg "law" = some (.ref f) ∧ DefAt G f fd (bd 28) (argsOf (nth 28)) ∧ ∀ (k : Nat) (S : List PO) (tb : Nat) (a : Addr) (vs : Array Value) (xs : List Int), S[tb]? = some (.tab Pt) → G.IsList a vs → (∀ σ N h, VRs σ N h vs (xs.map .int)) → xs.length ≤ 63 →
    ∃ S', (∀ (i : Nat) (o : PO), S[i]? = some o → S'[i]? = some o) ∧ ∀ L, EXs prog w mg G (k + 4) (fenv fd f L) ((argsOf (nth 28)).zip [.fn (.ref a)]) S (bd 28) (.ret (.bool true) S') := by
  obtain ⟨f, fd, hm, D, hs⟩ := T.fn 28 (by decide)
  refine ⟨f, fd, hm, D, fun k S tb a vs xs htb hG hv hz => ?_⟩
  have hbig : (1000 : Nat) ≤ sizeLine := Nat.le_of_ble_eq_true rfl
  obtain ⟨fW, mW, KW, cW⟩ := ways_ok (prog := prog) (w := w) hp T
  obtain ⟨fL, mL, KL, cL⟩ := least_ok (prog := prog) (w := w) T
  obtain ⟨fS, mS, KS, cS⟩ := searched_ok (prog := prog) (w := w) hp T
  have h5 : (xs.take 5).length ≤ 5 := by simp; omega
  generalize hys : xs.take 5 = ys at h5
  obtain ⟨o, hrun, ho, ho6, m2, m64, p, mrun, mps, mpb, mo⟩ := math (waysG ys h5) (fixG ys) (by decide +kernel) (by decide +kernel)
  have hok := okWays ys
  have hwl : (waysOf ys).length ≤ 18 := by
    unfold waysOf; rw [List.length_append, List.length_map]
    have : fixedWays.length = 13 := rfl
    omega
  have hgl : (wsG ys).length ≤ 100 := (waysG ys h5).len
  -- drawn
  have e1 := cW (k + 3) (S ++ [PO.list (ys.map .int)]) S.length ys (by simp) (by omega)
  generalize hS1 : S ++ [PO.list (ys.map .int)] ++ [PO.list (fixedWays.map encY)] ++ [PO.list ((ys.map drawnWay).map encY)] ++ [PO.list ((waysOf ys).map encY)] = S1 at e1
  generalize hd : (S ++ [PO.list (ys.map .int)]).length + 2 = d at e1
  have hS1d : S1[d]? = some (.list ((waysOf ys).map encY)) := by
    rw [← hS1, ← hd]
    rw [List.getElem?_append_right (by simp)]; simp
  have k1 : ∀ {i : Nat} {o : PO}, S[i]? = some o → S1[i]? = some o := fun h => by rw [← hS1]; exact app_get (app_get (app_get (app_get h)))
  -- heard
  obtain ⟨X1, e2⟩ := heard_comp (prog := prog) (w := w) (k := k + 2) T T2 (waysOf ys) hok hS1d
  generalize hS2 : S1 ++ X1 ++ [PO.list ((waysOf ys).map dueW)] = S2
  have k2 : ∀ {i : Nat} {o : PO}, S1[i]? = some o → S2[i]? = some o := fun h => by rw [← hS2]; exact app_get (app_get h)
  have hS2h : S2[(S1 ++ X1).length]? = some (.list ((waysOf ys).map dueW)) := by rw [← hS2]; simp
  -- due
  obtain ⟨X2, e3⟩ := due_comp (prog := prog) (w := w) (k := k + 2) T (waysOf ys) hok (k2 hS1d)
  generalize hS3 : S2 ++ X2 ++ [PO.list ((waysOf ys).map dueW)] = S3
  have k3 : ∀ {i : Nat} {o : PO}, S2[i]? = some o → S3[i]? = some o := fun h => by rw [← hS3]; exact app_get (app_get h)
  have hS3u : S3[(S2 ++ X2).length]? = some (.list ((waysOf ys).map dueW)) := by rw [← hS3]; simp
  have e4 := O.neSame (prog := prog) (w := w) (mg := mg) (G := G) (k := k + 4) (k3 hS2h) hS3u (fun q hq => by obtain ⟨y, hy, rfl⟩ := List.mem_map.mp hq; exact okDue (hok y hy))
  -- told
  obtain ⟨X4, e5⟩ := told_comp (prog := prog) (w := w) (k := k + 2) lwC3 (.inl rfl) T (waysOf ys) hok ⟨k3 (k2 hS1d), k3 hS2h⟩
  rw [told_is] at e5
  generalize hS4 : S3 ++ X4 ++ [PO.list ((wsG ys).map encW)] = S4
  have k4 : ∀ {i : Nat} {o : PO}, S3[i]? = some o → S4[i]? = some o := fun h => by rw [← hS4]; exact app_get (app_get h)
  have hS4t : S4[(S3 ++ X4).length]? = some (.list ((wsG ys).map encW)) := by rw [← hS4]; simp
  -- fair
  obtain ⟨X5, e6⟩ := told_comp (prog := prog) (w := w) (k := k + 2) lwC4 (.inr rfl) T (waysOf ys) hok ⟨k4 (k3 (k2 hS1d)), k4 hS3u⟩
  rw [told_is] at e6
  generalize hS5 : S4 ++ X5 ++ [PO.list ((wsG ys).map encW)] = S5
  have k5 : ∀ {i : Nat} {o : PO}, S4[i]? = some o → S5[i]? = some o := fun h => by rw [← hS5]; exact app_get (app_get h)
  have hS5a : S5[(S4 ++ X5).length]? = some (.list ((wsG ys).map encW)) := by rw [← hS5]; simp
  obtain ⟨S6, fa, e7, hS6, k6⟩ := cL (k + 3) S5 _ (wsG ys) _ p hS5a (by omega) rfl m2 m64 mrun mps mpb
  rw [mo] at hS6
  -- found
  obtain ⟨S7, fo, e8, hS7, k7⟩ := cS k S6 _ (wsG ys) o (k6 _ _ (k5 hS4t)) (by omega) hrun
  have e9 := O.neSame (prog := prog) (w := w) (mg := mg) (G := G) (k := k + 4) hS7 (k7 _ _ hS6) (fun q hq => by obtain ⟨y, hy, rfl⟩ := List.mem_map.mp hq; exact okIt (names6_ok _ (ho y hy)))
  obtain ⟨S', kM, W⟩ := law_mid (prog := prog) (w := w) (k := k + 2) T TT (fo := fo) (fa := fa) (tb := tb) ho ho6 S7 (k7 _ _ (k6 _ _ (k5 (k4 (k3 (k2 (k1 htb))))))) hS7 (k7 _ _ hS6)
  refine ⟨S', fun i o h => kM i o (k7 _ _ (k6 _ _ (k5 (k4 (k3 (k2 (k1 h)))))) ), fun L => ?_⟩
  show EXs prog w mg G (k + 4) (fenv fd f L) ((["script"] : List Str).zip [.fn (.ref a)]) S (bd 28) _
  rw [← V.zip ["script"] ["drawn", "heard", "due", "told", "fair", "found", "blank", "sieves", "cuts", "nearest"] [.fn (.ref a)] rfl]
  have he : LwEnv (fenv fd f L) := ⟨kinds 28 xLw (by decide +kernel) hs, fun x hx => by unfold Env.kindOf; show fd.scope.names.lookup _ = _; rw [hs]; revert x; decide +kernel, fun x hx => by unfold Env.kindOf; show fd.scope.names.lookup _ = _; rw [hs]; revert x; decide +kernel, hs, by unfold Env.blockKind; show ((if fd.scope.kind.isAnnotationScope then ScopeKind.function else fd.scope.kind) == .function) = true; rw [hs]; decide +kernel⟩
  generalize fenv fd f L = env at he
  have W := W env he
  obtain ⟨hk, hloc, hg, hs, hb⟩ := he
  have e2 := e2 env
  have e3 := e3 env
  have e5 := e5 env
  have e6 := e6 env
  have nm := nmLw
  have bz : ∀ (ρ : Vars) (S : List PO) (pos : Pos), EV prog w mg G (k + 4) env ρ S (.Name "zip" pos) (.fn (.type "zip")) S := fun ρ S pos => EV.builtin (hg _ (by decide +kernel)) (T.bi _ (by decide +kernel)) (by decide +kernel) (by decide +kernel) (by decide +kernel)
  have hdr : EV prog w mg G (k + 4) env (V xLw [some (.fn (.ref a)), none, none, none, none, none, none, none, none, none, none]) S (valA ((bd 28).getD 0 default)) (.obj d) S1 := by
    conv in (valA _) => whnf
    refine EV.callF (S₁ := S ++ [PO.list (ys.map .int)]) (hg _ (by decide +kernel)) mW KW (ELs.cons (S₁ := S ++ [PO.list (ys.map .int)]) ?_ ELs.nil) e1
    rw [← hys, List.map_take, ← pick5 _ (by rw [List.length_map]; exact hz)]
    refine EV.sliceG (S₁ := S) ?_ .no (.some EV.int) .no hG hv (by decide) (by rw [List.length_map]; omega)
    repeat' array_get_dec
  have hfa : ∀ o1 o2 o3 : Option PV, EV prog w mg G (k + 4) env (V xLw [o1, some (.obj d), o2, some (.obj (S2 ++ X2).length), o3, none, none, none, none, none, none]) S4 (valA ((bd 28).getD 5 default)) (.obj fa) S6 := fun o1 o2 o3 => by
    conv in (valA _) => whnf
    refine EV.callF (S₁ := S5) (hg _ (by decide +kernel)) mL KL (ELs.cons (S₁ := S5) ?_ ELs.nil) e7
    rw [← hS5]
    refine EV.comp (S₁ := S4) (ITR.zip (n1 := d) (n2 := (S2 ++ X2).length) (bz _ _ _) ?_ (k4 (k3 (k2 hS1d))) (k4 hS3u) (by simp)) ?_ ?_ ?_ (by rw [zip_is]; exact e6) ?_ ?_
    · repeat' array_get_dec
    · exact ScOk.mk' 28 hs rfl (by decide +kernel) (by decide +kernel)
    · exact (Sub.no (Sub.no Sub.nil)).use nm.nd
    · decide +kernel
    · rw [zip_is, List.length_map]; omega
    · intro _; rfl
  show EXs prog w mg G (k + 4) env (V xLw [some (.fn (.ref a)), none, none, none, none, none, none, none, none, none, none]) S (bd 28) _
  conv in (bd 28) => whnf
  refine EXs.asg nm hk hdr (.tl .hd) rfl ?_
  refine EXs.cons (EX.asgComp nm (ITR.list (n := d) ?_ hS1d) ?_ ?_ ?_ e2 ?_ (hloc _ (by decide +kernel)) ?_ (.tl (.tl .hd))) ?_
  · repeat' array_get_dec
  · exact ScOk.mk' 28 hs rfl (by decide +kernel) (by decide +kernel)
  · exact (Sub.no Sub.nil).use nm.nd
  · decide +kernel
  · rw [List.length_map]; omega
  · exact swapsLoc hb (hloc _ (by decide +kernel)) (by decide +kernel)
  rw [hS2]
  refine EXs.cons (EX.asgComp nm (ITR.list (n := d) ?_ (k2 hS1d)) ?_ ?_ ?_ e3 ?_ (hloc _ (by decide +kernel)) ?_ (.tl (.tl (.tl .hd)))) ?_
  · repeat' array_get_dec
  · exact ScOk.mk' 28 hs rfl (by decide +kernel) (by decide +kernel)
  · exact (Sub.no Sub.nil).use nm.nd
  · decide +kernel
  · rw [List.length_map]; omega
  · exact swapsLoc hb (hloc _ (by decide +kernel)) (by decide +kernel)
  rw [hS3]
  refine EXs.cons (EX.ifF (b := false) (S₁ := S3) (EB.cmp (S₁ := S3) (S₂ := S3) ?_ ?_ e4) rfl EXs.nil) ?_
  · repeat' array_get_dec
  · repeat' array_get_dec
  refine EXs.cons (EX.asgComp nm (ITR.zip (n1 := d) (n2 := (S1 ++ X1).length) (bz _ _ _) ?_ (k3 (k2 hS1d)) (k3 hS2h) (by simp)) ?_ ?_ ?_ (by rw [zip_is]; exact e5) ?_ (hloc _ (by decide +kernel)) ?_ (.tl (.tl (.tl (.tl .hd))))) ?_
  · repeat' array_get_dec
  · exact ScOk.mk' 28 hs rfl (by decide +kernel) (by decide +kernel)
  · exact (Sub.no (Sub.no Sub.nil)).use nm.nd
  · decide +kernel
  · rw [zip_is, List.length_map]; omega
  · exact swapsLoc hb (hloc _ (by decide +kernel)) (by decide +kernel)
  show EXs prog w mg G (k + 4) env _ (S3 ++ X4 ++ [PO.list ((wsG ys).map encW)]) _ _
  rw [hS4]
  refine EXs.asg nm hk (hfa _ _ _) (.tl (.tl (.tl (.tl (.tl .hd))))) rfl ?_
  refine EXs.asg (S₁ := S7) nm hk (EV.callF (S₁ := S6) (hg _ (by decide +kernel)) mS KS (ELs.cons (S₁ := S6) ?_ ELs.nil) e8) (.tl (.tl (.tl (.tl (.tl (.tl .hd)))))) rfl ?_
  · repeat' array_get_dec
  refine EXs.cons (EX.ifF (b := false) (S₁ := S7) (EB.cmp (S₁ := S7) (S₂ := S7) ?_ ?_ e9) rfl EXs.nil) ?_
  · repeat' array_get_dec
  · repeat' array_get_dec
  exact W _ _ _ _ _
end
set_option tactic.hygienic true
set_option tactic.hygienic false
noncomputable def objK (P : Params) (a : Addr) : Obj := ((Mine.frag P).lookup a).getD default
noncomputable def fdK (P : Params) (a : Addr) : FuncData := match (objK P a).data with | .func fd => fd | _ => default
noncomputable def okDef (i : Nat) : Bool := (sc i).kind == .function && !(sc i).isCoroutine && !(sc i).isGenerator && decide (argsOf (nth i)).Nodup && (argsOf (nth i)).all (fun x => (sc i).names.lookup x == some .local || (sc i).names.lookup x == some .cell) && (sc i).names.all (fun q => q.2 != .free)
theorem mkDef {G : Heap} {f : Addr} {fd : FuncData} {i : Nat} (hat : ∃ o, G.get? f = some o ∧ o.data = .func fd) (code : G.CodeRec fd.code fd.qualname) (hb : fd.body = .stmts (bd i)) (hc : fd.closure = []) (gl : fd.globals = mainGlobals) (bi : fd.builtins = builtinsNs) (hs : fd.scope = sc i)
    (bind : ∀ vs : List Value, vs.length = (argsOf (nth i)).length → bindArgs fd ⟨vs, []⟩ = pure ((argsOf (nth i)).zip vs)) (h : okDef i = true) : DefAt G f fd (bd i) (argsOf (nth i)) := by
  unfold okDef at h
  simp only [Bool.and_eq_true, Bool.not_eq_true', decide_eq_true_eq, List.all_eq_true] at h
  obtain ⟨⟨⟨⟨⟨h1, h2⟩, h3⟩, h4⟩, h5⟩, h6⟩ := h
  refine ⟨hat, code, hb, hc, gl, bi, by rw [hs]; exact eq_of_beq h1, by rw [hs]; exact h2, by rw [hs]; exact h3, bind, h4, fun x hx => ?_, fun x hx => ?_, fun x hx => ?_⟩
  · have := h5 x hx
    rw [hs]
    rw [Bool.or_eq_true] at this
    exact this.imp eq_of_beq eq_of_beq
  · rw [hs] at hx ⊢; exact look_mem hx
  · rw [hs] at hx
    have := h6 _ (look_mem hx)
    simp at this
theorem okDefs : ([5, 6, 10, 12, 14, 15, 16, 17, 19, 20, 21, 22, 23, 24, 25, 26, 27, 28].all okDef) = true := by decide +kernel
section
variable {P : Params} {G : Heap} {mg : Str → Option Value}
theorem getK (X : (Mine.frag P).In G) {a : Addr} (h : (Mine.frag P).lookup a = some (objK P a)) : G.get? a = some (objK P a) := X _ _ h
theorem len0 {vs : List Value} (h : vs.length = 0) : vs = [] := List.eq_nil_of_length_eq_zero h
theorem len1 {n : Nat} {vs : List Value} (h : vs.length = n + 1) : ∃ a r, vs = a :: r ∧ r.length = n := by
  cases vs with
  | nil => simp at h
  | cons a r => exact ⟨a, r, rfl, by simpa using h⟩
theorem def5 (X : (Mine.frag P).In G) : DefAt G 75 (fdK P 75) (bd 5) (argsOf (nth 5)) := by
  refine mkDef ⟨_, getK X (by kernel_rfl), by kernel_rfl⟩ (codeRec_of X (by kernel_rfl)) (by kernel_rfl) (by kernel_rfl) (by kernel_rfl) (by kernel_rfl) (by kernel_rfl) (fun vs hvs => ?_) (by decide +kernel)
  have hvs : vs.length = 2 := hvs
  obtain ⟨a, r0, rfl, h0⟩ := len1 hvs
  obtain ⟨b, r1, rfl, h1⟩ := len1 h0
  obtain rfl := len0 h1
  kernel_rfl
theorem def6 (X : (Mine.frag P).In G) : DefAt G 82 (fdK P 82) (bd 6) (argsOf (nth 6)) := by
  refine mkDef ⟨_, getK X (by kernel_rfl), by kernel_rfl⟩ (codeRec_of X (by kernel_rfl)) (by kernel_rfl) (by kernel_rfl) (by kernel_rfl) (by kernel_rfl) (by kernel_rfl) (fun vs hvs => ?_) (by decide +kernel)
  have hvs : vs.length = 1 := hvs
  obtain ⟨a, r0, rfl, h0⟩ := len1 hvs
  obtain rfl := len0 h0
  kernel_rfl
theorem def10 (X : (Mine.frag P).In G) : DefAt G 99 (fdK P 99) (bd 10) (argsOf (nth 10)) := by
  refine mkDef ⟨_, getK X (by kernel_rfl), by kernel_rfl⟩ (codeRec_of X (by kernel_rfl)) (by kernel_rfl) (by kernel_rfl) (by kernel_rfl) (by kernel_rfl) (by kernel_rfl) (fun vs hvs => ?_) (by decide +kernel)
  have hvs : vs.length = 1 := hvs
  obtain ⟨a, r0, rfl, h0⟩ := len1 hvs
  obtain rfl := len0 h0
  kernel_rfl
theorem def12 (X : (Mine.frag P).In G) : DefAt G 106 (fdK P 106) (bd 12) (argsOf (nth 12)) := by
  refine mkDef ⟨_, getK X (by kernel_rfl), by kernel_rfl⟩ (codeRec_of X (by kernel_rfl)) (by kernel_rfl) (by kernel_rfl) (by kernel_rfl) (by kernel_rfl) (by kernel_rfl) (fun vs hvs => ?_) (by decide +kernel)
  have hvs : vs.length = 3 := hvs
  obtain ⟨a, r0, rfl, h0⟩ := len1 hvs
  obtain ⟨b, r1, rfl, h1⟩ := len1 h0
  obtain ⟨c, r2, rfl, h2⟩ := len1 h1
  obtain rfl := len0 h2
  kernel_rfl
theorem def14 (X : (Mine.frag P).In G) : DefAt G 113 (fdK P 113) (bd 14) (argsOf (nth 14)) := by
  refine mkDef ⟨_, getK X (by kernel_rfl), by kernel_rfl⟩ (codeRec_of X (by kernel_rfl)) (by kernel_rfl) (by kernel_rfl) (by kernel_rfl) (by kernel_rfl) (by kernel_rfl) (fun vs hvs => ?_) (by decide +kernel)
  have hvs : vs.length = 2 := hvs
  obtain ⟨a, r0, rfl, h0⟩ := len1 hvs
  obtain ⟨b, r1, rfl, h1⟩ := len1 h0
  obtain rfl := len0 h1
  kernel_rfl
theorem def15 (X : (Mine.frag P).In G) : DefAt G 120 (fdK P 120) (bd 15) (argsOf (nth 15)) := by
  refine mkDef ⟨_, getK X (by kernel_rfl), by kernel_rfl⟩ (codeRec_of X (by kernel_rfl)) (by kernel_rfl) (by kernel_rfl) (by kernel_rfl) (by kernel_rfl) (by kernel_rfl) (fun vs hvs => ?_) (by decide +kernel)
  have hvs : vs.length = 1 := hvs
  obtain ⟨a, r0, rfl, h0⟩ := len1 hvs
  obtain rfl := len0 h0
  kernel_rfl
theorem def16 (X : (Mine.frag P).In G) : DefAt G 127 (fdK P 127) (bd 16) (argsOf (nth 16)) := by
  refine mkDef ⟨_, getK X (by kernel_rfl), by kernel_rfl⟩ (codeRec_of X (by kernel_rfl)) (by kernel_rfl) (by kernel_rfl) (by kernel_rfl) (by kernel_rfl) (by kernel_rfl) (fun vs hvs => ?_) (by decide +kernel)
  have hvs : vs.length = 3 := hvs
  obtain ⟨a, r0, rfl, h0⟩ := len1 hvs
  obtain ⟨b, r1, rfl, h1⟩ := len1 h0
  obtain ⟨c, r2, rfl, h2⟩ := len1 h1
  obtain rfl := len0 h2
  kernel_rfl
theorem def17 (X : (Mine.frag P).In G) : DefAt G 134 (fdK P 134) (bd 17) (argsOf (nth 17)) := by
  refine mkDef ⟨_, getK X (by kernel_rfl), by kernel_rfl⟩ (codeRec_of X (by kernel_rfl)) (by kernel_rfl) (by kernel_rfl) (by kernel_rfl) (by kernel_rfl) (by kernel_rfl) (fun vs hvs => ?_) (by decide +kernel)
  have hvs : vs.length = 2 := hvs
  obtain ⟨a, r0, rfl, h0⟩ := len1 hvs
  obtain ⟨b, r1, rfl, h1⟩ := len1 h0
  obtain rfl := len0 h1
  kernel_rfl
theorem def19 (X : (Mine.frag P).In G) : DefAt G 141 (fdK P 141) (bd 19) (argsOf (nth 19)) := by
  refine mkDef ⟨_, getK X (by kernel_rfl), by kernel_rfl⟩ (codeRec_of X (by kernel_rfl)) (by kernel_rfl) (by kernel_rfl) (by kernel_rfl) (by kernel_rfl) (by kernel_rfl) (fun vs hvs => ?_) (by decide +kernel)
  have hvs : vs.length = 0 := hvs
  obtain rfl := len0 hvs
  kernel_rfl
theorem def20 (X : (Mine.frag P).In G) : DefAt G 146 (fdK P 146) (bd 20) (argsOf (nth 20)) := by
  refine mkDef ⟨_, getK X (by kernel_rfl), by kernel_rfl⟩ (codeRec_of X (by kernel_rfl)) (by kernel_rfl) (by kernel_rfl) (by kernel_rfl) (by kernel_rfl) (by kernel_rfl) (fun vs hvs => ?_) (by decide +kernel)
  have hvs : vs.length = 1 := hvs
  obtain ⟨a, r0, rfl, h0⟩ := len1 hvs
  obtain rfl := len0 h0
  kernel_rfl
theorem def21 (X : (Mine.frag P).In G) : DefAt G 153 (fdK P 153) (bd 21) (argsOf (nth 21)) := by
  refine mkDef ⟨_, getK X (by kernel_rfl), by kernel_rfl⟩ (codeRec_of X (by kernel_rfl)) (by kernel_rfl) (by kernel_rfl) (by kernel_rfl) (by kernel_rfl) (by kernel_rfl) (fun vs hvs => ?_) (by decide +kernel)
  have hvs : vs.length = 1 := hvs
  obtain ⟨a, r0, rfl, h0⟩ := len1 hvs
  obtain rfl := len0 h0
  kernel_rfl
theorem def22 (X : (Mine.frag P).In G) : DefAt G 160 (fdK P 160) (bd 22) (argsOf (nth 22)) := by
  refine mkDef ⟨_, getK X (by kernel_rfl), by kernel_rfl⟩ (codeRec_of X (by kernel_rfl)) (by kernel_rfl) (by kernel_rfl) (by kernel_rfl) (by kernel_rfl) (by kernel_rfl) (fun vs hvs => ?_) (by decide +kernel)
  have hvs : vs.length = 2 := hvs
  obtain ⟨a, r0, rfl, h0⟩ := len1 hvs
  obtain ⟨b, r1, rfl, h1⟩ := len1 h0
  obtain rfl := len0 h1
  kernel_rfl
theorem def23 (X : (Mine.frag P).In G) : DefAt G 165 (fdK P 165) (bd 23) (argsOf (nth 23)) := by
  refine mkDef ⟨_, getK X (by kernel_rfl), by kernel_rfl⟩ (codeRec_of X (by kernel_rfl)) (by kernel_rfl) (by kernel_rfl) (by kernel_rfl) (by kernel_rfl) (by kernel_rfl) (fun vs hvs => ?_) (by decide +kernel)
  have hvs : vs.length = 1 := hvs
  obtain ⟨a, r0, rfl, h0⟩ := len1 hvs
  obtain rfl := len0 h0
  kernel_rfl
theorem def24 (X : (Mine.frag P).In G) : DefAt G 170 (fdK P 170) (bd 24) (argsOf (nth 24)) := by
  refine mkDef ⟨_, getK X (by kernel_rfl), by kernel_rfl⟩ (codeRec_of X (by kernel_rfl)) (by kernel_rfl) (by kernel_rfl) (by kernel_rfl) (by kernel_rfl) (by kernel_rfl) (fun vs hvs => ?_) (by decide +kernel)
  have hvs : vs.length = 1 := hvs
  obtain ⟨a, r0, rfl, h0⟩ := len1 hvs
  obtain rfl := len0 h0
  kernel_rfl
theorem def25 (X : (Mine.frag P).In G) : DefAt G 175 (fdK P 175) (bd 25) (argsOf (nth 25)) := by
  refine mkDef ⟨_, getK X (by kernel_rfl), by kernel_rfl⟩ (codeRec_of X (by kernel_rfl)) (by kernel_rfl) (by kernel_rfl) (by kernel_rfl) (by kernel_rfl) (by kernel_rfl) (fun vs hvs => ?_) (by decide +kernel)
  have hvs : vs.length = 3 := hvs
  obtain ⟨a, r0, rfl, h0⟩ := len1 hvs
  obtain ⟨b, r1, rfl, h1⟩ := len1 h0
  obtain ⟨c, r2, rfl, h2⟩ := len1 h1
  obtain rfl := len0 h2
  kernel_rfl
theorem def26 (X : (Mine.frag P).In G) : DefAt G 180 (fdK P 180) (bd 26) (argsOf (nth 26)) := by
  refine mkDef ⟨_, getK X (by kernel_rfl), by kernel_rfl⟩ (codeRec_of X (by kernel_rfl)) (by kernel_rfl) (by kernel_rfl) (by kernel_rfl) (by kernel_rfl) (by kernel_rfl) (fun vs hvs => ?_) (by decide +kernel)
  have hvs : vs.length = 2 := hvs
  obtain ⟨a, r0, rfl, h0⟩ := len1 hvs
  obtain ⟨b, r1, rfl, h1⟩ := len1 h0
  obtain rfl := len0 h1
  kernel_rfl
theorem def27 (X : (Mine.frag P).In G) : DefAt G 185 (fdK P 185) (bd 27) (argsOf (nth 27)) := by
  refine mkDef ⟨_, getK X (by kernel_rfl), by kernel_rfl⟩ (codeRec_of X (by kernel_rfl)) (by kernel_rfl) (by kernel_rfl) (by kernel_rfl) (by kernel_rfl) (by kernel_rfl) (fun vs hvs => ?_) (by decide +kernel)
  have hvs : vs.length = 1 := hvs
  obtain ⟨a, r0, rfl, h0⟩ := len1 hvs
  obtain rfl := len0 h0
  kernel_rfl
theorem def28 (X : (Mine.frag P).In G) : DefAt G 190 (fdK P 190) (bd 28) (argsOf (nth 28)) := by
  refine mkDef ⟨_, getK X (by kernel_rfl), by kernel_rfl⟩ (codeRec_of X (by kernel_rfl)) (by kernel_rfl) (by kernel_rfl) (by kernel_rfl) (by kernel_rfl) (by kernel_rfl) (fun vs hvs => ?_) (by decide +kernel)
  have hvs : vs.length = 1 := hvs
  obtain ⟨a, r0, rfl, h0⟩ := len1 hvs
  obtain rfl := len0 h0
  kernel_rfl
theorem topOf (X : (Mine.frag P).In G) (g : G.Ns mainGlobals mg) : Mine.Top mg G := by
  refine ⟨fun i hi => ?_, fun x hx => ?_⟩
  · simp only [List.mem_cons, List.not_mem_nil, or_false] at hi
    rcases hi with rfl | rfl | rfl | rfl | rfl | rfl | rfl | rfl | rfl | rfl | rfl | rfl | rfl | rfl | rfl | rfl | rfl | rfl
    · exact ⟨75, fdK P 75, mg_of X g (by kernel_rfl), def5 X, by kernel_rfl⟩
    · exact ⟨82, fdK P 82, mg_of X g (by kernel_rfl), def6 X, by kernel_rfl⟩
    · exact ⟨99, fdK P 99, mg_of X g (by kernel_rfl), def10 X, by kernel_rfl⟩
    · exact ⟨106, fdK P 106, mg_of X g (by kernel_rfl), def12 X, by kernel_rfl⟩
    · exact ⟨113, fdK P 113, mg_of X g (by kernel_rfl), def14 X, by kernel_rfl⟩
    · exact ⟨120, fdK P 120, mg_of X g (by kernel_rfl), def15 X, by kernel_rfl⟩
    · exact ⟨127, fdK P 127, mg_of X g (by kernel_rfl), def16 X, by kernel_rfl⟩
    · exact ⟨134, fdK P 134, mg_of X g (by kernel_rfl), def17 X, by kernel_rfl⟩
    · exact ⟨141, fdK P 141, mg_of X g (by kernel_rfl), def19 X, by kernel_rfl⟩
    · exact ⟨146, fdK P 146, mg_of X g (by kernel_rfl), def20 X, by kernel_rfl⟩
    · exact ⟨153, fdK P 153, mg_of X g (by kernel_rfl), def21 X, by kernel_rfl⟩
    · exact ⟨160, fdK P 160, mg_of X g (by kernel_rfl), def22 X, by kernel_rfl⟩
    · exact ⟨165, fdK P 165, mg_of X g (by kernel_rfl), def23 X, by kernel_rfl⟩
    · exact ⟨170, fdK P 170, mg_of X g (by kernel_rfl), def24 X, by kernel_rfl⟩
    · exact ⟨175, fdK P 175, mg_of X g (by kernel_rfl), def25 X, by kernel_rfl⟩
    · exact ⟨180, fdK P 180, mg_of X g (by kernel_rfl), def26 X, by kernel_rfl⟩
    · exact ⟨185, fdK P 185, mg_of X g (by kernel_rfl), def27 X, by kernel_rfl⟩
    · exact ⟨190, fdK P 190, mg_of X g (by kernel_rfl), def28 X, by kernel_rfl⟩
  · simp only [List.mem_cons, List.not_mem_nil, or_false] at hx
    rcases hx with rfl | rfl | rfl | rfl | rfl | rfl | rfl | rfl | rfl | rfl | rfl
    all_goals exact mg_none_of X g (by kernel_rfl)
end
set_option tactic.hygienic true
noncomputable def esK (P : Params) (a : Addr) : Array DictEntry := match (objK P a).data with | .dict es _ => es | _ => #[]
noncomputable def epK (P : Params) (a : Addr) : Nat := match (objK P a).data with | .dict _ n => n | _ => 0
noncomputable def isStrE (e : DictEntry) : Bool := match e.key with | .str _ _ => true | _ => false
noncomputable def isIntE (e : DictEntry) : Bool := match e.key with | .int i _ => e.hash == hashInt i | _ => false
noncomputable def kvE (e : DictEntry) : Int × Value := (match e.key with | .int i _ => i | _ => 0, e.val)
section
variable {P : Params} {G : Heap} {mg : Str → Option Value}
theorem nsK (X : (Mine.frag P).In G) (a : Addr) (h : (Mine.frag P).lookup a = some (objK P a)) (hd : (objK P a).data = .dict (esK P a) (epK P a)) (hs : (esK P a).toList.all isStrE = true) : G.Ns a (fun n => nsFind (esK P a) n) := by
  refine ⟨_, _, _, getK X h, hd, fun e he => ?_, fun _ => rfl⟩
  have := List.all_eq_true.mp hs e (Array.mem_toList_iff.mpr he)
  unfold isStrE at this
  split at this
  · rename_i x t q; exact ⟨x, t, q⟩
  · cases this
theorem isIntE_shape {prog : Program} {w : World} {e : DictEntry} (h : isIntE e = true) : (intKind prog w).is (kvE e).1 e.key = true ∧ e.hash = (intKind prog w).hash (kvE e).1 ∧ e.val = (kvE e).2 := by
  unfold isIntE at h
  unfold kvE
  split at h
  · rename_i i t q
    rw [q]
    exact ⟨by show (i == i) = true; simp, eq_of_beq h, rfl⟩
  · cases h
theorem dictK {prog : Program} {w : World} (X : (Mine.frag P).In G) (a : Addr) (h : (Mine.frag P).lookup a = some (objK P a)) (hd : (objK P a).data = .dict (esK P a) (epK P a)) (hx : (objK P a).cls = .type "dict" ∧ (objK P a).dict = none ∧ (objK P a).slots = #[])
    (hs : (esK P a).toList.all isIntE = true) (hn : decide (((esK P a).toList.map kvE).map (·.1)).Nodup = true) : G.DictOf (intKind prog w) a ((esK P a).toList.map kvE) := by
  refine ⟨_, _, _, getK X h, hx, hd, fun e he => ?_, ?_, of_decide_eq_true hn⟩
  · obtain ⟨h1, h2, _⟩ := isIntE_shape (prog := prog) (w := w) (List.all_eq_true.mp hs e (Array.mem_toList_iff.mpr he))
    exact ⟨_, h1, h2⟩
  · revert hs
    generalize (esK P a).toList = l
    intro hs
    induction l with
    | nil => exact .nil
    | cons e l ih =>
      rw [List.all_cons, Bool.and_eq_true] at hs
      obtain ⟨h1, _, h3⟩ := isIntE_shape (prog := prog) (w := w) hs.1
      exact .cons h1 h3 (ih hs.2)
theorem quietK (a : Addr) (h : (quietNames.all fun n => (nsFind (esK P a) n).isNone) = true) : ∀ n ∈ quietNames, nsFind (esK P a) n = none := fun n hn => by
  have := List.all_eq_true.mp h n hn
  simpa using this
theorem cls41 : objK P 41 = { cls := .type "type", data := (objK P 41).data, slots := (objK P 41).slots } := by kernel_rfl
noncomputable def e54 : Obj := excClassObj "error_reply" "error_reply" 54 53 [.ref 41] [.ref 41, .type "Exception", .type "BaseException", .type "object"] true [] [] false none none (some (.ref 45)) none (some (.str "error_reply" 304)) (some (.str "error_reply" 312)) (some (.bool true)) "Exception.__new__"
noncomputable def e66 : Obj := excClassObj "error_proto" "error_proto" 66 65 [.ref 41] [.ref 41, .type "Exception", .type "BaseException", .type "object"] true [] [] false none none (some (.ref 57)) none (some (.str "error_proto" 320)) (some (.str "error_proto" 328)) (some (.bool true)) "Exception.__new__"
noncomputable def e41 : Obj := excClassObj "Error" "Error" 41 40 [.type "Exception"] [.type "Exception", .type "BaseException", .type "object"] true [] [.ref 54, .ref 66] false none none (some (.ref 32)) none (some (.str "Error" 284)) (some (.str "Error" 292)) (some (.bool true)) "Exception.__new__"
theorem l54 : (Mine.frag P).lookup 54 = some e54 := by kernel_rfl
theorem l66 : (Mine.frag P).lookup 66 = some e66 := by kernel_rfl
theorem l41 : (Mine.frag P).lookup 41 = some e41 := by kernel_rfl
theorem tailK (X : (Mine.frag P).In G) : OwnTailQ G bmExc [.ref 41, .type "Exception", .type "BaseException", .type "object"] :=
  .own (X _ _ l41) (nsK X 40 (by kernel_rfl) (by kernel_rfl) (by kernel_rfl)) (quietK 40 (by kernel_rfl)) .base
theorem twoOf (X : (Mine.frag P).In G) (g : G.Ns mainGlobals mg) : TwoCls mg G 54 66 where
  o1 := ⟨mg_of X g (by kernel_rfl), _, _, _, _, _, _, _, _, _, _, _, _, _, _, _, _, _, X _ _ l54, nsK X 53 (by kernel_rfl) (by kernel_rfl) (by kernel_rfl), quietK 53 (by kernel_rfl), tailK X⟩
  o2 := ⟨mg_of X g (by kernel_rfl), _, _, _, _, _, _, _, _, _, _, _, _, _, _, _, _, _, X _ _ l66, nsK X 65 (by kernel_rfl) (by kernel_rfl) (by kernel_rfl), quietK 65 (by kernel_rfl), tailK X⟩
  ne := fun bm N nm q bs hdct sn sub ab col dd k0 k1 k2 k3 k5 h => by
    rw [X _ _ l66] at h
    cases h
    decide +kernel
noncomputable def o87 : Obj := { cls := .type "re.Pattern", data := .fields #[.str "([&~|])" 361, .int 32 396, .int 1 0, .none, .none, .ref 86, .int 0 0] }
noncomputable def ws86 (P : Params) : Array Value := match (objK P 86).data with | .seq ws _ => ws | _ => #[]
theorem trOf {prog : Program} {w : World} (X : (Mine.frag P).In G) (g : G.Ns mainGlobals mg) (hbm : ∃ bm ob, mg "__builtins__" = some (.ref bm) ∧ bm ≠ builtinsNs ∧ G.get? bm = some ob ∧ ob.cls = .type "module" ∧ ob.dict = some builtinsNs ∧ ob.data = .plain) (h101 : G.get? 101 = none) : TrTop prog w mg G 105 101 where
  code := fun f o fd hm ho hd => by
    have e := mg_of X g (n := "_translate") (v := .ref 106) (by kernel_rfl)
    rw [e] at hm; cases hm
    rw [getK X (a := 106) (by kernel_rfl)] at ho; cases ho
    rw [show (objK P 106).data = .func (fdK P 106) from by kernel_rfl] at hd
    cases hd
    kernel_rfl
  hd := codeHd_of_K X (by kernel_rfl)
  pat := ⟨87, 86, _, _, _, ws86 P, mg_of X g (by kernel_rfl), X _ o87 (by kernel_rfl), X _ { cls := .type "tuple", data := .seq (ws86 P) } (by kernel_rfl), by kernel_rfl⟩
  map := ⟨89, (esK P 89).toList.map kvE, mg_of X g (by kernel_rfl), dictK X 89 (by kernel_rfl) (by kernel_rfl) ⟨by kernel_rfl, by kernel_rfl, by kernel_rfl⟩ (by kernel_rfl) (by kernel_rfl), by decide +kernel, by kernel_rfl, by kernel_rfl, by kernel_rfl⟩
  bi := by
    obtain ⟨bm, ob, h1, h2, h3, h4, h5, h6⟩ := hbm
    refine ⟨bm, ob, h1, h2, fun q => ?_, fun q => ?_, h3, h4, h5, h6⟩
    · obtain ⟨o, es, ep, ho, hd, _⟩ := g
      rw [q, ho] at h3; cases h3
      rw [h6] at hd; cases hd
    · rw [q, h101] at h3; cases h3
  gP := by decide
end
set_option tactic.hygienic false
theorem intsVR {σ : Lo} {N : Nat} {h : Heap} : ∀ {vs : List Value} {xs : List Int}, IntsAre vs xs → VRs σ N h vs.toArray (xs.map .int) := by
  intro vs xs H
  induction H with
  | nil => exact VRs.nil
  | cons n t _ ih => exact VRs.cons (.int n t) ih
theorem ghostSeer {tabs : List (Addr × Addr)} {h : Heap} (hT : TabsAt tabs h) (x : h.NoSeer) : (ghostOf h tabs).NoSeer where
  statics := let ⟨mc, a, b⟩ := x.statics; ⟨mc, ghost_ns hT a, b⟩
  mods := let ⟨mc, a, b⟩ := x.mods; ⟨mc, ghost_ns hT a, b⟩
  imp := let ⟨mb, a, b⟩ := x.imp; ⟨mb, ghost_ns hT a, b⟩
  main := let ⟨mg, bm, ob, a, b, c, d, e⟩ := x.main; ⟨mg, bm, ob, ghost_ns hT a, b, ghost_get hT c (fun q => by rw [q] at d; cases d), d, e⟩
theorem joinLaw {w : World} {s₁ : Shared} {mg mb : Str → Option Value} {loose : List Str} {mean : ExcName → Option Value} {fa a : Addr} {vs : List Value} {xs : List Int}
    (KX : (Mine.frag w.params).In s₁.heap) (hT : TabsAt [(105, 101)] s₁.heap) (T : PyProof.Rows.Top Mine.view loose mean mg mb s₁.heap) (hg : s₁.gens = #[]) (hmg : mg "law" = some (.ref fa)) (hL : s₁.heap.IsList a vs.toArray) (hI : IntsAre vs xs) (hlen : xs.length ≤ 63) :
    codeAny (model rw_kt0018_01.row.prog w) callerA (.call (.ref fa) ⟨[.ref a], []⟩)
      (fun r s' => r = .ok (.ret (.bool true)) ∧ (∀ b o, (ghostOf s₁.heap [(105, 101)]).get? b = some o → s'.heap.get? b = some o) ∧ s'.os = s₁.os ∧ s'.gens = #[] ∧ GrownAll [(105, 101)] s'.heap) s₁ := by
  have X : (Mine.frag w.params).In (ghostOf s₁.heap [(105, 101)]) := ghost_K hT KX (by kernel_rfl)
  have T' := ghost_top hT T
  have hs := ghostSeer hT (T.seer (by decide +kernel))
  have hL' := ghost_list hT hL
  have h101 : (ghostOf s₁.heap [(105, 101)]).get? 101 = none := hideAll_none _ (by simp)
  have t101 : s₁.heap.get? 101 = some (tabObj #[]) := (hT (105, 101) (.head _)).2
  have hsub : ∀ b o, (ghostOf s₁.heap [(105, 101)]).get? b = some o → s₁.heap.get? b = some o := fun b o e => of_hideAll _ e
  generalize ghostOf s₁.heap [(105, 101)] = G at X T' hs hL' h101 hsub
  have gd : Gd mg G := ⟨T'.g, ⟨mb, T'.b, T'.builtins⟩, T'.nolimit, hs, T'.nodigits⟩
  have top := topOf X T'.g
  have hbm : ∃ bm ob, mg "__builtins__" = some (.ref bm) ∧ bm ≠ builtinsNs ∧ G.get? bm = some ob ∧ ob.cls = .type "module" ∧ ob.dict = some builtinsNs ∧ ob.data = .plain := by
    obtain ⟨bm, ob, a1, a2, a3, a4, a5, a6⟩ := T'.bmain
    exact ⟨bm, ob, a1, a2, a3, a4, a5, a6⟩
  obtain ⟨f, fd, mf, D, hlaw⟩ := law_ok (prog := rw_kt0018_01.row.prog) (w := w) (by rfl) top (trOf X T'.g hbm h101) (twoOf X T'.g)
  rw [hmg] at mf; cases mf
  obtain ⟨S', kS, hE⟩ := hlaw 0 [PO.tab 101] 0 a vs.toArray xs rfl hL' (fun σ N h => intsVR hI) hlen
  have rel : Rel w.params G ⟨fun _ => 101, fun _ => False⟩ [PO.tab 101] s₁.heap := by
    refine ⟨hsub, fun i o h => ?_, fun i _ => h101, fun i j hi hj _ => ?_, fun a h => h.elim⟩
    · match i, h with
      | 0, h => cases h; exact ⟨rfl, #[], t101, trivial⟩
      | i + 1, h => simp at h
    · simp at hi hj; omega
  refine enter (k := 4) (σ := ⟨fun _ => 101, fun _ => False⟩) (S := [PO.tab 101]) (ps := [.fn (.ref a)]) D rfl gd ⟨rfl, by decide, by decide⟩ ⟨[], rfl, trivial, fun env h => (nomatch h)⟩ rel (VRs.cons (.fn _) VRs.nil) fun L h₁ tk₁ St O hL hk hsz => ?_
  refine wpAny_mono ((hE L).run _ _ { s₁ with heap := h₁, toks := tk₁ } St O _ (fun _ _ => False) fun v σ' h' tk' R' X' V' => ?_) (fun fl s' q => q) fun _ _ q => q.elim
  (first | (obtain ⟨_, rfl⟩ := VR.inv V') | (obtain rfl := VR.inv V'))
  refine ⟨rfl, R'.ground, rfl, hg, ⟨?_, trivial⟩⟩
  have h0 := R'.objs 0 _ (kS 0 _ rfl)
  obtain ⟨e, ps, hp, _⟩ := h0
  rw [e] at hp
  exact ⟨ps, hp⟩
theorem tabs {h : Heap} (KX : ∃ P, (frag P).In h) (t : h.get? 101 = some (tabObj #[])) : TabsAt [(105, 101)] h := fun q hq => by
  obtain ⟨P, KX⟩ := KX
  obtain rfl := List.mem_singleton.mp hq
  exact ⟨codeHd_of_K KX (by kernel_rfl), t⟩
set_option tactic.hygienic true
end Mine
theorem PySem.Challenge.cw_kt0018_01_holds : PySem.Challenge.rw_kt0018_01.Holds := by
  refine holds_law Mine.said fun said => ?_
  refine holds_open (q := Mine.view) (loose := Mine.looseN) (Xt := fun s => xlAt Mine.view [] s && recOk (RowW.records PySem.Challenge.rw_kt0018_01.row.toRowW) s) (XP := XL Mine.view []) (Yf := Hook.obs Mine.hook) (Ya := Hook.val Mine.hook) (YP := Hook.says Mine.hook) (N := 5212) Mine.left (Hook.of Mine.hook) (Hook.keeps Mine.hook)
    (fun s e => xl_of s (Bool.and_eq_true_iff.mp e).1) XL.keeps (by rfl) (by rfl) (by rfl) (fun s e => recFacts_of (Bool.and_eq_true_iff.mp e).2) (by rfl) said (by decide +kernel) ⟨rfl, rfl, rfl, rfl, rfl, by decide +kernel⟩ ?hw ?hc
  case hw => w_witness2
  case hc =>
    intro w s₀ s₁ mg mb G Y fa o pm cd doc dV kV ho hd hcd hD hmg hg args vals as hpre hlay hrd hwl hlo
    have KX := km_in_of Y
    have hT9 := Mine.tabs ⟨_, KX⟩ (km_tabs_of Y 101 (.head _))
    refine Ground.open G ?_
    intro T B D TE TW
    wrow_args hpre hlay hrd hwl hlo
    all_goals (
      refine enter_call ?_
      refine kn_post hT9 (fun _ _ => rfl) ?_
      rename IntsAre _ _ => hI
      rename Heap.IsList _ _ _ => hL
      rename ¬ _ < _ => hlen
      refine codeAny_mono (Mine.joinLaw KX hT9 T hg hmg hL hI (by omega)) fun r s' hh => ?_
      obtain ⟨rfl, h2, h3, h4, h5⟩ := hh
      exact ⟨⟨.inl ⟨.bool true, .bool true, [], rfl, fun _ => rfl, .bool true, postW_of (X := true) (by rfl) (by show WTm.value _ (.eq .res (.lit (.bool true))) _ = _; simp [WTm.value, PySem.W.same]) rfl, fun _ => ⟨List.nodup_nil, fun a h => nomatch h⟩⟩, h2, h3, h4⟩, h5⟩)
