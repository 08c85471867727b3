import PyProof.Rows.All
import Wide.All
import OpenK.AllK
import Wide.FinOn
import Lean
import PySem.Challenge.RW_dn0069_03
set_option Elab.async false
set_option maxRecDepth 100000
set_option linter.all false
set_option genSizeOf false
set_option bootstrap.genMatcherCode false
section H03x
open PySem PySem.Calls PySem.W PyProof.Rows PySem.Builtin.Str
open PySem.W.X PySem.W.ZRun
set_option maxHeartbeats 0
namespace Mine
noncomputable def hGo : List Nat → Option Stmt → Option Stmt
  | [], s => s
  | j :: r, some (.ClassDef _ _ _ b _ _ _ _ _ _ _) => hGo r b[j]?
  | j :: r, some (.FunctionDef _ _ b _ _ _ _ _ _ _) => hGo r b[j]?
  | _, _ => none
noncomputable def hAt (p : Program) (l : List Nat) : Option Stmt := match l with
  | [] => none
  | i :: r => hGo r p.main.body[i]?
noncomputable def hPs (s : Option Stmt) : Arguments := match s with
  | some (.FunctionDef _ a _ _ _ _ _ _ _ _) => a
  | _ => default
noncomputable def hBd (s : Option Stmt) : List Stmt := match s with
  | some (.FunctionDef _ _ b _ _ _ _ _ _ _) => b
  | _ => []
noncomputable def hSc (s : Option Stmt) : Scope := match s with
  | some (.FunctionDef _ _ _ _ _ _ s _ _ _) => s
  | _ => default
noncomputable abbrev hs (x : String) : PySem.Str := PySem.Str.ofString x
noncomputable abbrev hk (P : Params) (x : String) (t : Nat) (v : PySem.Value) : DictEntry := ⟨PyData.keyHash P (hs x), .str (hs x) t, v⟩
noncomputable abbrev hW : Program := PySem.Challenge.pw_dn0069_03
noncomputable def view03 : Program := PySem.W.view PySem.Challenge.pw_dn0069_03 [0, 1, 2, 4, 5, 7, 9, 11, 13, 14, 16, 18, 20, 21, 22, 23, 25, 26, 27, 28, 29, 30, 31, 32]
noncomputable def ho1 (P : Params) : Obj := ⟨.type "dict", none, .dict #[hk P "builtins" 162 (.ref 4), hk P "__main__" 163 (.ref 5), hk P "_sre" 244 (.ref 12)] 3, #[]⟩
noncomputable def ho2 (P : Params) : Obj := ⟨.none, none, .dict #[⟨PyData.keyHash P (⟨#[105, 109, 112, 111, 114, 116, 46, 108, 111, 97, 100, 101, 100, 46, 95, 115, 114, 101]⟩), .str (⟨#[105, 109, 112, 111, 114, 116, 46, 108, 111, 97, 100, 101, 100, 46, 95, 115, 114, 101]⟩) 183, .bool true⟩, hk P "class._frozen_importlib.BuiltinImporter" 185 (.ref 14), ⟨PyData.keyHash P (⟨#[119, 97, 116, 99, 104, 101, 100, 46, 105, 109, 112, 111, 114, 116]⟩), .str (⟨#[119, 97, 116, 99, 104, 101, 100, 46, 105, 109, 112, 111, 114, 116]⟩) 206, .ref 18⟩, hk P "class._frozen_importlib.ModuleSpec" 216 (.ref 22), hk P "sys.modules.booked-epoch" 245 (.int (3) 0), ⟨PyData.keyHash P (⟨#[105, 109, 112, 111, 114, 116, 46, 108, 97, 116, 101, 114, 45, 108, 97, 105, 100, 46, 95, 115, 114, 101]⟩), .str (⟨#[105, 109, 112, 111, 114, 116, 46, 108, 97, 116, 101, 114, 45, 108, 97, 105, 100, 46, 95, 115, 114, 101]⟩) 270, .bool true⟩, hk P "watched.library" 272 (.ref 27), ⟨PyData.keyHash P (hs "watched.library-objects"), .str (hs "watched.library-objects") 0, .str ((⟨#[12]⟩ : PySem.Str)) 0⟩, ⟨PyData.keyHash P (hs "watched.library-deep._sre"), .str (hs "watched.library-deep._sre") 273, .str ((⟨#[4, 0, 0, 11, 4, 0, 0, 11, 4, 0, 0, 3, 4, 0, 0, 11, 8, 4, 100, 105, 99, 116, 2]⟩ : PySem.Str)) 0⟩] 9, #[]⟩
noncomputable def ho3 (P : Params) : Obj := ⟨.type "dict", none, .dict #[hk P "__name__" 165 (.str (hs "__main__") 164), hk P "__doc__" 166 (.none), hk P "__package__" 167 (.none), hk P "__loader__" 168 (.builtin "__main__.__loader__#opaque"), hk P "__spec__" 169 (.none), hk P "__annotations__" 170 (.ref 6), hk P "__builtins__" 171 (.ref 4), hk P "__file__" 173 (.str (hs "/claim/cut.py") 172), hk P "__cached__" 174 (.none), hk P "_sre" 275 (.ref 12)] 10, #[]⟩
noncomputable def ho11 (P : Params) : Obj := ⟨.type "dict", none, .dict #[hk P "__name__" 247 (.str (hs "_sre") 246), hk P "__doc__" 248 (.none), hk P "__package__" 250 (.str (hs "") 249), hk P "__loader__" 251 (.builtin "off-the-table:_sre.__loader__:shared#opaque"), hk P "__spec__" 252 (.builtin "off-the-table:_sre.__spec__:shared#opaque"), hk P "compile" 253 (.builtin "_sre.compile"), hk P "template" 254 (.builtin "off-the-table:_sre.template:shared#opaque"), hk P "getcodesize" 255 (.builtin "off-the-table:_sre.getcodesize:shared#opaque"), hk P "ascii_iscased" 256 (.builtin "off-the-table:_sre.ascii_iscased:shared#opaque"), hk P "unicode_iscased" 257 (.builtin "off-the-table:_sre.unicode_iscased:shared#opaque"), hk P "ascii_tolower" 258 (.builtin "off-the-table:_sre.ascii_tolower:shared#opaque"), hk P "unicode_tolower" 259 (.builtin "off-the-table:_sre.unicode_tolower:shared#opaque"), hk P "MAGIC" 261 (.int (20230612) 260), hk P "CODESIZE" 263 (.int (4) 262), hk P "MAXREPEAT" 265 (.int (4294967295) 264), hk P "MAXGROUPS" 267 (.int (1073741823) 266), hk P "copyright" 269 (.str (hs " SRE 2.2.2 Copyright (c) 1997-2002 by Secret Labs AB ") 268)] 17, #[]⟩
noncomputable def ho12 (P : Params) : Obj := ⟨.type "module", (some 11), .plain, #[]⟩
noncomputable def ho13 (P : Params) : Obj := ⟨.type "dict", none, .dict #[hk P "__module__" 189 (.str (hs "_frozen_importlib") 186), hk P "__firstlineno__" 190 (.int (971) 187), hk P "__doc__" 191 (.builtin "_frozen_importlib.BuiltinImporter.__doc__:str#opaque"), hk P "_ORIGIN" 192 (.str (hs "built-in") 188), hk P "find_spec" 193 (.builtin "_frozen_importlib.BuiltinImporter.find_spec#opaque"), hk P "create_module" 194 (.builtin "_frozen_importlib.BuiltinImporter.create_module#opaque"), hk P "exec_module" 195 (.builtin "_frozen_importlib.BuiltinImporter.exec_module#opaque"), hk P "get_code" 196 (.builtin "_frozen_importlib.BuiltinImporter.get_code#opaque"), hk P "get_source" 197 (.builtin "_frozen_importlib.BuiltinImporter.get_source#opaque"), hk P "is_package" 198 (.builtin "_frozen_importlib.BuiltinImporter.is_package#opaque"), hk P "load_module" 199 (.builtin "_frozen_importlib.BuiltinImporter.load_module#opaque"), hk P "__static_attributes__" 200 (.ref 15), hk P "__dict__" 202 (.ref 16), hk P "__weakref__" 204 (.ref 17)] 14, #[]⟩
noncomputable def ho14 (P : Params) : Obj := ⟨.type "type", none, .cls ⟨hs "BuiltinImporter", [.type "object"], [.ref 14, .type "object"], 13, hs "BuiltinImporter", true, [], [], false, none, false⟩, #[]⟩
noncomputable def ho15 (P : Params) : Obj := ⟨.type "tuple", none, .seq #[] 0, #[]⟩
noncomputable def ho16 (P : Params) : Obj := ⟨.type "getset_descriptor", none, .fields #[.str (hs "__dict__") 201, .ref 14, .builtin "function.__dict__", .builtin "function.__dict__#set"], #[]⟩
noncomputable def ho17 (P : Params) : Obj := ⟨.type "getset_descriptor", none, .fields #[.str (hs "__weakref__") 203, .ref 14, .builtin "ExceptionGroup.__weakref__", .none], #[]⟩
noncomputable def ho18 (P : Params) : Obj := ⟨.none, none, .seq #[.int (13) 0, .str ((⟨#[6, 189, 10, 95, 95, 109, 111, 100, 117, 108, 101, 95, 95, 6, 186, 17, 95, 102, 114, 111, 122, 101, 110, 95, 105, 109, 112, 111, 114, 116, 108, 105, 98, 6, 190, 15, 95, 95, 102, 105, 114, 115, 116, 108, 105, 110, 101, 110, 111, 95, 95, 4, 187, 0, 971, 6, 191, 7, 95, 95, 100, 111, 99, 95, 95, 9, 52, 95, 102, 114, 111, 122, 101, 110, 95, 105, 109, 112, 111, 114, 116, 108, 105, 98, 46, 66, 117, 105, 108, 116, 105, 110, 73, 109, 112, 111, 114, 116, 101, 114, 46, 95, 95, 100, 111, 99, 95, 95, 58, 115, 116, 114, 35, 111, 112, 97, 113, 117, 101, 6, 192, 7, 95, 79, 82, 73, 71, 73, 78, 6, 188, 8, 98, 117, 105, 108, 116, 45, 105, 110, 6, 193, 9, 102, 105, 110, 100, 95, 115, 112, 101, 99, 9, 50, 95, 102, 114, 111, 122, 101, 110, 95, 105, 109, 112, 111, 114, 116, 108, 105, 98, 46, 66, 117, 105, 108, 116, 105, 110, 73, 109, 112, 111, 114, 116, 101, 114, 46, 102, 105, 110, 100, 95, 115, 112, 101, 99, 35, 111, 112, 97, 113, 117, 101, 6, 194, 13, 99, 114, 101, 97, 116, 101, 95, 109, 111, 100, 117, 108, 101, 9, 54, 95, 102, 114, 111, 122, 101, 110, 95, 105, 109, 112, 111, 114, 116, 108, 105, 98, 46, 66, 117, 105, 108, 116, 105, 110, 73, 109, 112, 111, 114, 116, 101, 114, 46, 99, 114, 101, 97, 116, 101, 95, 109, 111, 100, 117, 108, 101, 35, 111, 112, 97, 113, 117, 101, 6, 195, 11, 101, 120, 101, 99, 95, 109, 111, 100, 117, 108, 101, 9, 52, 95, 102, 114, 111, 122, 101, 110, 95, 105, 109, 112, 111, 114, 116, 108, 105, 98, 46, 66, 117, 105, 108, 116, 105, 110, 73, 109, 112, 111, 114, 116, 101, 114, 46, 101, 120, 101, 99, 95, 109, 111, 100, 117, 108, 101, 35, 111, 112, 97, 113, 117, 101, 6, 196, 8, 103, 101, 116, 95, 99, 111, 100, 101, 9, 49, 95, 102, 114, 111, 122, 101, 110, 95, 105, 109, 112, 111, 114, 116, 108, 105, 98, 46, 66, 117, 105, 108, 116, 105, 110, 73, 109, 112, 111, 114, 116, 101, 114, 46, 103, 101, 116, 95, 99, 111, 100, 101, 35, 111, 112, 97, 113, 117, 101, 6, 197, 10, 103, 101, 116, 95, 115, 111, 117, 114, 99, 101, 9, 51, 95, 102, 114, 111, 122, 101, 110, 95, 105, 109, 112, 111, 114, 116, 108, 105, 98, 46, 66, 117, 105, 108, 116, 105, 110, 73, 109, 112, 111, 114, 116, 101, 114, 46, 103, 101, 116, 95, 115, 111, 117, 114, 99, 101, 35, 111, 112, 97, 113, 117, 101, 6, 198, 10, 105, 115, 95, 112, 97, 99, 107, 97, 103, 101, 9, 51, 95, 102, 114, 111, 122, 101, 110, 95, 105, 109, 112, 111, 114, 116, 108, 105, 98, 46, 66, 117, 105, 108, 116, 105, 110, 73, 109, 112, 111, 114, 116, 101, 114, 46, 105, 115, 95, 112, 97, 99, 107, 97, 103, 101, 35, 111, 112, 97, 113, 117, 101, 6, 199, 11, 108, 111, 97, 100, 95, 109, 111, 100, 117, 108, 101, 9, 52, 95, 102, 114, 111, 122, 101, 110, 95, 105, 109, 112, 111, 114, 116, 108, 105, 98, 46, 66, 117, 105, 108, 116, 105, 110, 73, 109, 112, 111, 114, 116, 101, 114, 46, 108, 111, 97, 100, 95, 109, 111, 100, 117, 108, 101, 35, 111, 112, 97, 113, 117, 101, 6, 200, 21, 95, 95, 115, 116, 97, 116, 105, 99, 95, 97, 116, 116, 114, 105, 98, 117, 116, 101, 115, 95, 95, 4, 0, 0, 15, 6, 202, 8, 95, 95, 100, 105, 99, 116, 95, 95, 4, 0, 0, 16, 6, 204, 11, 95, 95, 119, 101, 97, 107, 114, 101, 102, 95, 95, 4, 0, 0, 17]⟩ : PySem.Str)) 0, .bool true, .bool true, .str (hs "") 205, .int (21) 0, .str ((⟨#[6, 227, 10, 95, 95, 109, 111, 100, 117, 108, 101, 95, 95, 6, 217, 17, 95, 102, 114, 111, 122, 101, 110, 95, 105, 109, 112, 111, 114, 116, 108, 105, 98, 6, 228, 15, 95, 95, 102, 105, 114, 115, 116, 108, 105, 110, 101, 110, 111, 95, 95, 4, 218, 0, 562, 6, 229, 7, 95, 95, 100, 111, 99, 95, 95, 9, 47, 95, 102, 114, 111, 122, 101, 110, 95, 105, 109, 112, 111, 114, 116, 108, 105, 98, 46, 77, 111, 100, 117, 108, 101, 83, 112, 101, 99, 46, 95, 95, 100, 111, 99, 95, 95, 58, 115, 116, 114, 35, 111, 112, 97, 113, 117, 101, 6, 230, 8, 95, 95, 105, 110, 105, 116, 95, 95, 9, 44, 95, 102, 114, 111, 122, 101, 110, 95, 105, 109, 112, 111, 114, 116, 108, 105, 98, 46, 77, 111, 100, 117, 108, 101, 83, 112, 101, 99, 46, 95, 95, 105, 110, 105, 116, 95, 95, 35, 111, 112, 97, 113, 117, 101, 6, 231, 8, 95, 95, 114, 101, 112, 114, 95, 95, 9, 44, 95, 102, 114, 111, 122, 101, 110, 95, 105, 109, 112, 111, 114, 116, 108, 105, 98, 46, 77, 111, 100, 117, 108, 101, 83, 112, 101, 99, 46, 95, 95, 114, 101, 112, 114, 95, 95, 35, 111, 112, 97, 113, 117, 101, 6, 232, 6, 95, 95, 101, 113, 95, 95, 9, 42, 95, 102, 114, 111, 122, 101, 110, 95, 105, 109, 112, 111, 114, 116, 108, 105, 98, 46, 77, 111, 100, 117, 108, 101, 83, 112, 101, 99, 46, 95, 95, 101, 113, 95, 95, 35, 111, 112, 97, 113, 117, 101, 6, 233, 6, 99, 97, 99, 104, 101, 100, 9, 42, 95, 102, 114, 111, 122, 101, 110, 95, 105, 109, 112, 111, 114, 116, 108, 105, 98, 46, 77, 111, 100, 117, 108, 101, 83, 112, 101, 99, 46, 99, 97, 99, 104, 101, 100, 35, 111, 112, 97, 113, 117, 101, 6, 234, 6, 112, 97, 114, 101, 110, 116, 9, 42, 95, 102, 114, 111, 122, 101, 110, 95, 105, 109, 112, 111, 114, 116, 108, 105, 98, 46, 77, 111, 100, 117, 108, 101, 83, 112, 101, 99, 46, 112, 97, 114, 101, 110, 116, 35, 111, 112, 97, 113, 117, 101, 6, 235, 12, 104, 97, 115, 95, 108, 111, 99, 97, 116, 105, 111, 110, 9, 48, 95, 102, 114, 111, 122, 101, 110, 95, 105, 109, 112, 111, 114, 116, 108, 105, 98, 46, 77, 111, 100, 117, 108, 101, 83, 112, 101, 99, 46, 104, 97, 115, 95, 108, 111, 99, 97, 116, 105, 111, 110, 35, 111, 112, 97, 113, 117, 101, 6, 236, 21, 95, 95, 115, 116, 97, 116, 105, 99, 95, 97, 116, 116, 114, 105, 98, 117, 116, 101, 115, 95, 95, 4, 0, 0, 23, 6, 238, 8, 95, 95, 100, 105, 99, 116, 95, 95, 4, 0, 0, 24, 6, 240, 11, 95, 95, 119, 101, 97, 107, 114, 101, 102, 95, 95, 4, 0, 0, 25, 6, 241, 8, 95, 95, 104, 97, 115, 104, 95, 95, 0]⟩ : PySem.Str)) 0, .bool true, .bool true, .str (hs "") 242] 1, #[]⟩
noncomputable def ho19 (P : Params) : Obj := ⟨.type "list", none, .seq #[] 0, #[]⟩
noncomputable def ho20 (P : Params) : Obj := ⟨.type "dict", none, .dict #[hk P "name" 208 (.str (hs "_sre") 207), hk P "loader" 209 (.ref 14), hk P "origin" 210 (.str (hs "built-in") 184), hk P "loader_state" 211 (.none), hk P "submodule_search_locations" 212 (.none), hk P "_uninitialized_submodules" 213 (.ref 19), hk P "_set_fileattr" 214 (.bool false), hk P "_cached" 215 (.none), hk P "_initializing" 243 (.bool false)] 9, #[]⟩
noncomputable def ho21 (P : Params) : Obj := ⟨.type "dict", none, .dict #[hk P "__module__" 227 (.str (hs "_frozen_importlib") 217), hk P "__firstlineno__" 228 (.int (562) 218), hk P "__doc__" 229 (.builtin "_frozen_importlib.ModuleSpec.__doc__:str#opaque"), hk P "__init__" 230 (.builtin "_frozen_importlib.ModuleSpec.__init__#opaque"), hk P "__repr__" 231 (.builtin "_frozen_importlib.ModuleSpec.__repr__#opaque"), hk P "__eq__" 232 (.builtin "_frozen_importlib.ModuleSpec.__eq__#opaque"), hk P "cached" 233 (.builtin "_frozen_importlib.ModuleSpec.cached#opaque"), hk P "parent" 234 (.builtin "_frozen_importlib.ModuleSpec.parent#opaque"), hk P "has_location" 235 (.builtin "_frozen_importlib.ModuleSpec.has_location#opaque"), hk P "__static_attributes__" 236 (.ref 23), hk P "__dict__" 238 (.ref 24), hk P "__weakref__" 240 (.ref 25), hk P "__hash__" 241 (.none)] 13, #[]⟩
noncomputable def ho22 (P : Params) : Obj := ⟨.type "type", none, .cls ⟨hs "ModuleSpec", [.type "object"], [.ref 22, .type "object"], 21, hs "ModuleSpec", true, [], [], false, none, false⟩, #[]⟩
noncomputable def ho23 (P : Params) : Obj := ⟨.type "tuple", none, .seq #[.str (hs "_cached") 219, .str (hs "_set_fileattr") 220, .str (hs "_uninitialized_submodules") 221, .str (hs "loader") 222, .str (hs "loader_state") 223, .str (hs "name") 224, .str (hs "origin") 225, .str (hs "submodule_search_locations") 226] 0, #[]⟩
noncomputable def ho24 (P : Params) : Obj := ⟨.type "getset_descriptor", none, .fields #[.str (hs "__dict__") 237, .ref 22, .builtin "function.__dict__", .builtin "function.__dict__#set"], #[]⟩
noncomputable def ho25 (P : Params) : Obj := ⟨.type "getset_descriptor", none, .fields #[.str (hs "__weakref__") 239, .ref 22, .builtin "ExceptionGroup.__weakref__", .none], #[]⟩
noncomputable def ho26 (P : Params) : Obj := ⟨.ref 22, (some 20), .plain, #[]⟩
noncomputable def ho27 (P : Params) : Obj := ⟨.none, none, .seq #[.int (11) 0, .str ((⟨#[6, 247, 8, 95, 95, 110, 97, 109, 101, 95, 95, 6, 246, 4, 95, 115, 114, 101, 6, 248, 7, 95, 95, 100, 111, 99, 95, 95, 0, 6, 250, 11, 95, 95, 112, 97, 99, 107, 97, 103, 101, 95, 95, 6, 249, 0, 6, 251, 10, 95, 95, 108, 111, 97, 100, 101, 114, 95, 95, 4, 0, 0, 14, 6, 252, 8, 95, 95, 115, 112, 101, 99, 95, 95, 4, 0, 0, 26, 6, 253, 7, 99, 111, 109, 112, 105, 108, 101, 9, 12, 95, 115, 114, 101, 46, 99, 111, 109, 112, 105, 108, 101, 6, 254, 8, 116, 101, 109, 112, 108, 97, 116, 101, 9, 13, 95, 115, 114, 101, 46, 116, 101, 109, 112, 108, 97, 116, 101, 6, 255, 11, 103, 101, 116, 99, 111, 100, 101, 115, 105, 122, 101, 9, 16, 95, 115, 114, 101, 46, 103, 101, 116, 99, 111, 100, 101, 115, 105, 122, 101, 6, 256, 13, 97, 115, 99, 105, 105, 95, 105, 115, 99, 97, 115, 101, 100, 9, 18, 95, 115, 114, 101, 46, 97, 115, 99, 105, 105, 95, 105, 115, 99, 97, 115, 101, 100, 6, 257, 15, 117, 110, 105, 99, 111, 100, 101, 95, 105, 115, 99, 97, 115, 101, 100, 9, 20, 95, 115, 114, 101, 46, 117, 110, 105, 99, 111, 100, 101, 95, 105, 115, 99, 97, 115, 101, 100, 6, 258, 13, 97, 115, 99, 105, 105, 95, 116, 111, 108, 111, 119, 101, 114, 9, 18, 95, 115, 114, 101, 46, 97, 115, 99, 105, 105, 95, 116, 111, 108, 111, 119, 101, 114, 6, 259, 15, 117, 110, 105, 99, 111, 100, 101, 95, 116, 111, 108, 111, 119, 101, 114, 9, 20, 95, 115, 114, 101, 46, 117, 110, 105, 99, 111, 100, 101, 95, 116, 111, 108, 111, 119, 101, 114, 6, 261, 5, 77, 65, 71, 73, 67, 4, 260, 0, 20230612, 6, 263, 8, 67, 79, 68, 69, 83, 73, 90, 69, 4, 262, 0, 4, 6, 265, 9, 77, 65, 88, 82, 69, 80, 69, 65, 84, 4, 264, 0, 4294967295, 6, 267, 9, 77, 65, 88, 71, 82, 79, 85, 80, 83, 4, 266, 0, 1073741823, 6, 269, 9, 99, 111, 112, 121, 114, 105, 103, 104, 116, 6, 268, 53, 32, 83, 82, 69, 32, 50, 46, 50, 46, 50, 32, 67, 111, 112, 121, 114, 105, 103, 104, 116, 32, 40, 99, 41, 32, 49, 57, 57, 55, 45, 50, 48, 48, 50, 32, 98, 121, 32, 83, 101, 99, 114, 101, 116, 32, 76, 97, 98, 115, 32, 65, 66, 32]⟩ : PySem.Str)) 0, .bool true, .bool false, .str (hs "_sre") 271] 0, #[]⟩
noncomputable def hp0 (P : Params) : Heap := ⟨Array.mk [boot_o_0 P, ho1 P, ho2 P, ho3 P, boot_o_4 P, boot_o_5 P, boot_o_6 P, boot_o_7 P, boot_o_8 P, boot_o_9 P, boot_o_10 P, ho11 P, ho12 P, ho13 P, ho14 P, ho15 P, ho16 P, ho17 P, ho18 P, ho19 P, ho20 P, ho21 P, ho22 P, ho23 P, ho24 P, ho25 P, ho26 P, ho27 P], { }⟩
noncomputable def ho28 (P : Params) : Obj := ⟨.type "tuple", none, .seq #[] 0, #[]⟩
noncomputable def ho29 (P : Params) : Obj := ⟨.none, none, .fields #[], #[]⟩
noncomputable def ho30 (P : Params) : Obj := ⟨.type "code", none, .fields #[.str (hs "<module>") 277, .str (hs "<module>") 278, .str (hs "/claim/cut.py") 279, .int (1) 0, .int (0) 0, .int (0) 0, .int (0) 0, .int (0) 0, .ref 28, .bool false, .int (276) 0, .ref 29, .none, .none, .none, .none, .int (280) 0, .int (1) 0, .str (hs "/claim/cut.py") 281], #[]⟩
noncomputable def ho31 (P : Params) : Obj := ⟨.type "frame", none, .plain, #[some (.ref 30), some (.ref 3), some (.ref 3), none, some (.str (hs "__main__") 164), none, some (.ref 0)]⟩
noncomputable def hp_pre (P : Params) : Heap := ⟨Array.mk [boot_o_0 P, ho1 P, ho2 P, ho3 P, boot_o_4 P, boot_o_5 P, boot_o_6 P, boot_o_7 P, boot_o_8 P, boot_o_9 P, boot_o_10 P, ho11 P, ho12 P, ho13 P, ho14 P, ho15 P, ho16 P, ho17 P, ho18 P, ho19 P, ho20 P, ho21 P, ho22 P, ho23 P, ho24 P, ho25 P, ho26 P, ho27 P, ho28 P, ho29 P, ho30 P, ho31 P], { }⟩
noncomputable def ho3x (P : Params) : Obj := ⟨.type "dict", none, .dict #[hk P "__name__" 165 (.str (hs "re") 327), hk P "__doc__" 166 (.none), hk P "__package__" 167 (.none), hk P "__loader__" 168 (.builtin "__main__.__loader__#opaque"), hk P "__spec__" 169 (.none), hk P "__annotations__" 170 (.ref 6), hk P "__builtins__" 171 (.ref 4), hk P "__file__" 173 (.str (hs "/claim/cut.py") 172), hk P "__cached__" 174 (.none), hk P "_sre" 275 (.ref 12), hk P "_wall" 288 (.ref 38), hk P "_twin_re_1" 326 (.ref 43)] 12, #[]⟩
noncomputable def ho29x (P : Params) : Obj := ⟨.none, none, .fields #[.int (2) 0, .int (0) 0, .ref 37], #[]⟩
noncomputable def ho32 (P : Params) : Obj := ⟨.type "tuple", none, .seq #[] 0, #[]⟩
noncomputable def ho33 (P : Params) : Obj := ⟨.none, none, .fields #[], #[]⟩
noncomputable def ho34 (P : Params) : Obj := ⟨.type "tuple", none, .seq #[.str (hs "k") 285] 0, #[]⟩
noncomputable def ho35 (P : Params) : Obj := ⟨.type "tuple", none, .seq #[] 0, #[]⟩
noncomputable def ho36 (P : Params) : Obj := ⟨.none, none, .func ⟨hs "_wall", hs "_wall", hPs (hAt hW [1]), .stmts (hBd (hAt hW [1])), hSc (hAt hW [1]), 0, [], .none, .none, .none, .none, none, .none, .none, 0⟩, #[]⟩
noncomputable def ho37 (P : Params) : Obj := ⟨.type "code", none, .fields #[.str (hs "_wall") 282, .str (hs "_wall") 283, .str (hs "/claim/cut.py") 284, .int (2) 0, .int (1) 0, .int (0) 0, .int (0) 0, .int (3) 0, .ref 32, .bool true, .int (276) 0, .ref 33, .none, .ref 34, .ref 35, .ref 36, .int (286) 0, .int (2) 0, .str (hs "/claim/cut.py") 287], #[]⟩
noncomputable def ho38 (P : Params) : Obj := ⟨.type "function", none, .func ⟨hs "_wall", hs "_wall", hPs (hAt hW [1]), .stmts (hBd (hAt hW [1])), hSc (hAt hW [1]), 3, [], .none, .none, .none, .str (hs "__main__") 164, none, .ref 37, .none, 0⟩, #[]⟩
noncomputable def ho39 (P : Params) : Obj := ⟨.type "list", none, .seq #[.int (14) 292, .int (14) 293, .int (4) 294, .int (1) 295, .int (1) 296, .int (9) 297, .int (0) 298, .int (64) 299, .int (0) 300, .int (1342177280) 301, .int (0) 302, .int (0) 303, .int (0) 304, .int (0) 305, .int (0) 306, .int (17) 307, .int (0) 308, .int (13) 309, .int (11) 310, .int (9) 311, .int (0) 312, .int (64) 313, .int (0) 314, .int (1342177280) 315, .int (0) 316, .int (0) 317, .int (0) 318, .int (0) 319, .int (0) 320, .int (17) 321, .int (1) 322, .int (1) 323] 0, #[]⟩
noncomputable def ho40 (P : Params) : Obj := ⟨.type "dict", none, .dict #[] 0, #[]⟩
noncomputable def ho41 (P : Params) : Obj := ⟨.type "tuple", none, .seq #[.none, .none] 0, #[]⟩
noncomputable def ho42 (P : Params) : Obj := ⟨.type "tuple", none, .seq #[.int (14) 0, .int (14) 0, .int (4) 0, .int (1) 0, .int (1) 0, .int (9) 0, .int (0) 0, .int (64) 0, .int (0) 0, .int (1342177280) 0, .int (0) 0, .int (0) 0, .int (0) 0, .int (0) 0, .int (0) 0, .int (17) 0, .int (0) 0, .int (13) 0, .int (11) 0, .int (9) 0, .int (0) 0, .int (64) 0, .int (0) 0, .int (1342177280) 0, .int (0) 0, .int (0) 0, .int (0) 0, .int (0) 0, .int (0) 0, .int (17) 0, .int (1) 0, .int (1) 0] 0, #[]⟩
noncomputable def ho43 (P : Params) : Obj := ⟨.type "re.Pattern", none, .fields #[.str (hs "([&~|])") 290, .int (32) 325, .int (1) 0, .none, .none, .ref 42, .int (0) 0], #[]⟩
noncomputable def hp3 (P : Params) : Heap := ⟨Array.mk [boot_o_0 P, ho1 P, ho2 P, ho3x P, boot_o_4 P, boot_o_5 P, boot_o_6 P, boot_o_7 P, boot_o_8 P, boot_o_9 P, boot_o_10 P, ho11 P, ho12 P, ho13 P, ho14 P, ho15 P, ho16 P, ho17 P, ho18 P, ho19 P, ho20 P, ho21 P, ho22 P, ho23 P, ho24 P, ho25 P, ho26 P, ho27 P, ho28 P, ho29x P, ho30 P, ho31 P, ho32 P, ho33 P, ho34 P, ho35 P, ho36 P, ho37 P, ho38 P, ho39 P, ho40 P, ho41 P, ho42 P, ho43 P], { }⟩
noncomputable def ho3xx (P : Params) : Obj := ⟨.type "dict", none, .dict #[hk P "__name__" 165 (.str (hs "re") 327), hk P "__doc__" 166 (.none), hk P "__package__" 167 (.none), hk P "__loader__" 168 (.builtin "__main__.__loader__#opaque"), hk P "__spec__" 169 (.none), hk P "__annotations__" 170 (.ref 6), hk P "__builtins__" 171 (.ref 4), hk P "__file__" 173 (.str (hs "/claim/cut.py") 172), hk P "__cached__" 174 (.none), hk P "_sre" 275 (.ref 12), hk P "_wall" 288 (.ref 38), hk P "_twin_re_1" 326 (.ref 43), hk P "_special_chars_map" 474 (.ref 45)] 13, #[]⟩
noncomputable def ho44 (P : Params) : Obj := ⟨.type "bytes_iterator", none, .fields #[.none, .int (24) 0], #[]⟩
noncomputable def ho45 (P : Params) : Obj := ⟨.type "dict", none, .dict #[⟨40, .int (40) 330, .str (hs "\\(") 334⟩, ⟨41, .int (41) 336, .str (hs "\\)") 340⟩, ⟨91, .int (91) 342, .str (hs "\\[") 346⟩, ⟨93, .int (93) 348, .str (hs "\\]") 352⟩, ⟨123, .int (123) 354, .str (hs "\\{") 358⟩, ⟨125, .int (125) 360, .str (hs "\\}") 364⟩, ⟨63, .int (63) 366, .str (hs "\\?") 370⟩, ⟨42, .int (42) 372, .str (hs "\\*") 376⟩, ⟨43, .int (43) 378, .str (hs "\\+") 382⟩, ⟨45, .int (45) 384, .str (hs "\\-") 388⟩, ⟨124, .int (124) 390, .str (hs "\\|") 394⟩, ⟨94, .int (94) 396, .str (hs "\\^") 400⟩, ⟨36, .int (36) 402, .str (hs "\\$") 406⟩, ⟨92, .int (92) 408, .str (hs "\\\\") 412⟩, ⟨46, .int (46) 414, .str (hs "\\.") 418⟩, ⟨38, .int (38) 420, .str (hs "\\&") 424⟩, ⟨126, .int (126) 426, .str (hs "\\~") 430⟩, ⟨35, .int (35) 432, .str (hs "\\#") 436⟩, ⟨32, .int (32) 438, .str (hs "\\ ") 442⟩, ⟨9, .int (9) 444, .str ((⟨#[92, 9]⟩ : PySem.Str)) 448⟩, ⟨10, .int (10) 450, .str ((⟨#[92, 10]⟩ : PySem.Str)) 454⟩, ⟨13, .int (13) 456, .str ((⟨#[92, 13]⟩ : PySem.Str)) 460⟩, ⟨11, .int (11) 462, .str ((⟨#[92, 11]⟩ : PySem.Str)) 466⟩, ⟨12, .int (12) 468, .str ((⟨#[92, 12]⟩ : PySem.Str)) 472⟩] 24, #[]⟩
noncomputable def ho46 (P : Params) : Obj := ⟨.type "dict", none, .dict #[] 2, #[]⟩
noncomputable def ho47 (P : Params) : Obj := ⟨.type "tuple", none, .seq #[] 0, #[]⟩
noncomputable def ho48 (P : Params) : Obj := ⟨.type "StopIteration", none, .fields #[.ref 47, .none, .none, .none, .bool false, .none], #[]⟩
noncomputable def hp4 (P : Params) : Heap := ⟨Array.mk [boot_o_0 P, ho1 P, ho2 P, ho3xx P, boot_o_4 P, boot_o_5 P, boot_o_6 P, boot_o_7 P, boot_o_8 P, boot_o_9 P, boot_o_10 P, ho11 P, ho12 P, ho13 P, ho14 P, ho15 P, ho16 P, ho17 P, ho18 P, ho19 P, ho20 P, ho21 P, ho22 P, ho23 P, ho24 P, ho25 P, ho26 P, ho27 P, ho28 P, ho29x P, ho30 P, ho31 P, ho32 P, ho33 P, ho34 P, ho35 P, ho36 P, ho37 P, ho38 P, ho39 P, ho40 P, ho41 P, ho42 P, ho43 P, ho44 P, ho45 P, ho46 P, ho47 P, ho48 P], { }⟩
noncomputable def ho3xxx (P : Params) : Obj := ⟨.type "dict", none, .dict #[hk P "__name__" 165 (.str (hs "law_dn0069_03") 656), hk P "__doc__" 166 (.none), hk P "__package__" 167 (.none), hk P "__loader__" 168 (.builtin "__main__.__loader__#opaque"), hk P "__spec__" 169 (.none), hk P "__annotations__" 170 (.ref 6), hk P "__builtins__" 171 (.ref 4), hk P "__file__" 173 (.str (hs "/claim/cut.py") 172), hk P "__cached__" 174 (.none), hk P "_sre" 275 (.ref 12), hk P "_wall" 288 (.ref 38), hk P "_twin_re_1" 326 (.ref 43), hk P "_special_chars_map" 474 (.ref 45), hk P "escape" 481 (.ref 55), hk P "_translate" 502 (.ref 62), hk P "_plain_name" 513 (.ref 69), hk P "ABCMeta" 539 (.ref 86), hk P "_ABCLike" 582 (.ref 119), hk P "_abc_plain_meta" 589 (.ref 128), hk P "fspath" 601 (.ref 135), hk P "_check_arg_types" 614 (.ref 142), hk P "_get_sep" 623 (.ref 149), hk P "join" 634 (.ref 156), hk P "split" 645 (.ref 163), hk P "dirname" 655 (.ref 170), hk P "_law_one" 671 (.ref 177), hk P "_law_takes" 677 (.ref 182), hk P "_law_means" 683 (.ref 187), hk P "_law_dressed" 691 (.ref 194), hk P "_law_hits" 702 (.ref 201), hk P "_law_out" 714 (.ref 208), hk P "_law_met" 732 (.ref 215), hk P "law" 738 (.ref 220)] 33, #[]⟩
noncomputable def ho29xx (P : Params) : Obj := ⟨.none, none, .fields #[.int (2) 0, .int (0) 0, .ref 37, .int (8) 0, .int (0) 0, .ref 54, .int (15) 0, .int (0) 0, .ref 61, .int (78) 0, .int (0) 0, .ref 68, .int (84) 0, .int (0) 0, .ref 75, .int (89) 0, .int (0) 0, .ref 94, .int (104) 0, .int (0) 0, .ref 127, .int (108) 0, .int (0) 0, .ref 134, .int (125) 0, .int (0) 0, .ref 141, .int (137) 0, .int (0) 0, .ref 148, .int (142) 0, .int (0) 0, .ref 155, .int (159) 0, .int (0) 0, .ref 162, .int (167) 0, .int (0) 0, .ref 169, .int (176) 0, .int (0) 0, .ref 176, .int (200) 0, .int (0) 0, .ref 181, .int (208) 0, .int (0) 0, .ref 186, .int (214) 0, .int (0) 0, .ref 193, .int (217) 0, .int (0) 0, .ref 200, .int (226) 0, .int (0) 0, .ref 207, .int (235) 0, .int (0) 0, .ref 214, .int (252) 0, .int (0) 0, .ref 219], #[]⟩
noncomputable def ho49 (P : Params) : Obj := ⟨.type "tuple", none, .seq #[] 0, #[]⟩
noncomputable def ho50 (P : Params) : Obj := ⟨.none, none, .fields #[], #[]⟩
noncomputable def ho51 (P : Params) : Obj := ⟨.type "tuple", none, .seq #[.str (hs "pattern") 478] 0, #[]⟩
noncomputable def ho52 (P : Params) : Obj := ⟨.type "tuple", none, .seq #[] 0, #[]⟩
noncomputable def ho53 (P : Params) : Obj := ⟨.none, none, .func ⟨hs "escape", hs "escape", hPs (hAt hW [5]), .stmts (hBd (hAt hW [5])), hSc (hAt hW [5]), 0, [], .none, .none, .none, .none, none, .none, .none, 0⟩, #[]⟩
noncomputable def ho54 (P : Params) : Obj := ⟨.type "code", none, .fields #[.str (hs "escape") 475, .str (hs "escape") 476, .str (hs "/claim/cut.py") 477, .int (8) 0, .int (1) 0, .int (0) 0, .int (0) 0, .int (3) 0, .ref 49, .bool true, .int (276) 0, .ref 50, .none, .ref 51, .ref 52, .ref 53, .int (479) 0, .int (8) 0, .str (hs "/claim/cut.py") 480], #[]⟩
noncomputable def ho55 (P : Params) : Obj := ⟨.type "function", none, .func ⟨hs "escape", hs "escape", hPs (hAt hW [5]), .stmts (hBd (hAt hW [5])), hSc (hAt hW [5]), 3, [], .none, .none, .none, .str (hs "re") 327, none, .ref 54, .none, 0⟩, #[]⟩
noncomputable def ho56 (P : Params) : Obj := ⟨.type "tuple", none, .seq #[] 0, #[]⟩
noncomputable def ho57 (P : Params) : Obj := ⟨.none, none, .fields #[], #[]⟩
noncomputable def ho58 (P : Params) : Obj := ⟨.type "tuple", none, .seq #[.str (hs "pat") 487, .str (hs "STAR") 488, .str (hs "QUESTION_MARK") 489, .str (hs "res") 490, .str (hs "add") 491, .str (hs "i") 492, .str (hs "n") 493, .str (hs "c") 494, .str (hs "j") 495, .str (hs "stuff") 496, .str (hs "chunks") 497, .str (hs "k") 498, .str (hs "chunk") 499] 0, #[]⟩
noncomputable def ho59 (P : Params) : Obj := ⟨.type "tuple", none, .seq #[] 0, #[]⟩
noncomputable def ho60 (P : Params) : Obj := ⟨.none, none, .func ⟨hs "_translate", hs "_translate", hPs (hAt hW [7]), .stmts (hBd (hAt hW [7])), hSc (hAt hW [7]), 0, [], .none, .none, .none, .none, none, .none, .none, 0⟩, #[]⟩
noncomputable def ho61 (P : Params) : Obj := ⟨.type "code", none, .fields #[.str (hs "_translate") 484, .str (hs "_translate") 485, .str (hs "/claim/cut.py") 486, .int (15) 0, .int (3) 0, .int (0) 0, .int (0) 0, .int (3) 0, .ref 56, .bool true, .int (276) 0, .ref 57, .none, .ref 58, .ref 59, .ref 60, .int (500) 0, .int (15) 0, .str (hs "/claim/cut.py") 501], #[]⟩
noncomputable def ho62 (P : Params) : Obj := ⟨.type "function", none, .func ⟨hs "_translate", hs "_translate", hPs (hAt hW [7]), .stmts (hBd (hAt hW [7])), hSc (hAt hW [7]), 3, [], .none, .none, .none, .str (hs "cpy313.fnmatch") 482, none, .ref 61, .none, 0⟩, #[]⟩
noncomputable def ho63 (P : Params) : Obj := ⟨.type "tuple", none, .seq #[] 0, #[]⟩
noncomputable def ho64 (P : Params) : Obj := ⟨.none, none, .fields #[], #[]⟩
noncomputable def ho65 (P : Params) : Obj := ⟨.type "tuple", none, .seq #[.str (hs "x") 508, .str (hs "what") 509, .str (hs "kind") 510] 0, #[]⟩
noncomputable def ho66 (P : Params) : Obj := ⟨.type "tuple", none, .seq #[] 0, #[]⟩
noncomputable def ho67 (P : Params) : Obj := ⟨.none, none, .func ⟨hs "_plain_name", hs "_plain_name", hPs (hAt hW [9]), .stmts (hBd (hAt hW [9])), hSc (hAt hW [9]), 0, [], .none, .none, .none, .none, none, .none, .none, 0⟩, #[]⟩
noncomputable def ho68 (P : Params) : Obj := ⟨.type "code", none, .fields #[.str (hs "_plain_name") 505, .str (hs "_plain_name") 506, .str (hs "/claim/cut.py") 507, .int (78) 0, .int (2) 0, .int (0) 0, .int (0) 0, .int (3) 0, .ref 63, .bool true, .int (276) 0, .ref 64, .none, .ref 65, .ref 66, .ref 67, .int (511) 0, .int (78) 0, .str (hs "/claim/cut.py") 512], #[]⟩
noncomputable def ho69 (P : Params) : Obj := ⟨.type "function", none, .func ⟨hs "_plain_name", hs "_plain_name", hPs (hAt hW [9]), .stmts (hBd (hAt hW [9])), hSc (hAt hW [9]), 3, [], .none, .none, .none, .str (hs "os") 503, none, .ref 68, .none, 0⟩, #[]⟩
noncomputable def ho70 (P : Params) : Obj := ⟨.type "tuple", none, .seq #[.type "type"] 0, #[]⟩
noncomputable def ho71 (P : Params) : Obj := ⟨.type "builtin_function_or_method", none, .fields #[.builtin "type.__prepare__", .type "type"], #[]⟩
noncomputable def ho72 (P : Params) : Obj := ⟨.type "dict", none, .dict #[hk P "__module__" 523 (.str (hs "abc") 514), hk P "__qualname__" 525 (.str (hs "ABCMeta") 524), hk P "__firstlineno__" 527 (.int (84) 526), hk P "register" 535 (.ref 83), hk P "__static_attributes__" 536 (.ref 84)] 5, #[]⟩
noncomputable def ho73 (P : Params) : Obj := ⟨.type "tuple", none, .seq #[] 0, #[]⟩
noncomputable def ho74 (P : Params) : Obj := ⟨.none, none, .fields #[.int (86) 0, .int (4) 0, .ref 82], #[]⟩
noncomputable def ho75 (P : Params) : Obj := ⟨.type "code", none, .fields #[.str (hs "ABCMeta") 518, .str (hs "ABCMeta") 519, .str (hs "/claim/cut.py") 520, .int (84) 0, .int (0) 0, .int (0) 0, .int (0) 0, .int (0) 0, .ref 73, .bool false, .int (276) 0, .ref 74, .none, .none, .none, .none, .int (521) 0, .int (84) 0, .str (hs "/claim/cut.py") 522], #[]⟩
noncomputable def ho76 (P : Params) : Obj := ⟨.type "frame", none, .plain, #[some (.ref 75), some (.ref 3), some (.ref 72), none, some (.str (hs "abc") 514), none, some (.ref 0)]⟩
noncomputable def ho77 (P : Params) : Obj := ⟨.type "tuple", none, .seq #[] 0, #[]⟩
noncomputable def ho78 (P : Params) : Obj := ⟨.none, none, .fields #[], #[]⟩
noncomputable def ho79 (P : Params) : Obj := ⟨.type "tuple", none, .seq #[.str (hs "cls") 531, .str (hs "subclass") 532] 0, #[]⟩
noncomputable def ho80 (P : Params) : Obj := ⟨.type "tuple", none, .seq #[] 0, #[]⟩
noncomputable def ho81 (P : Params) : Obj := ⟨.none, none, .func ⟨hs "register", hs "ABCMeta.register", hPs (hAt hW [11, 0]), .stmts (hBd (hAt hW [11, 0])), hSc (hAt hW [11, 0]), 0, [], .none, .none, .none, .none, none, .none, .none, 0⟩, #[]⟩
noncomputable def ho82 (P : Params) : Obj := ⟨.type "code", none, .fields #[.str (hs "register") 528, .str (hs "ABCMeta.register") 529, .str (hs "/claim/cut.py") 530, .int (86) 0, .int (2) 0, .int (0) 0, .int (0) 0, .int (3) 0, .ref 77, .bool true, .int (276) 0, .ref 78, .none, .ref 79, .ref 80, .ref 81, .int (533) 0, .int (86) 0, .str (hs "/claim/cut.py") 534], #[]⟩
noncomputable def ho83 (P : Params) : Obj := ⟨.type "function", none, .func ⟨hs "register", hs "ABCMeta.register", hPs (hAt hW [11, 0]), .stmts (hBd (hAt hW [11, 0])), hSc (hAt hW [11, 0]), 3, [], .none, .none, .none, .str (hs "abc") 514, none, .ref 82, .none, 0⟩, #[]⟩
noncomputable def ho84 (P : Params) : Obj := ⟨.type "tuple", none, .seq #[] 0, #[]⟩
noncomputable def ho85 (P : Params) : Obj := ⟨.type "dict", none, .dict #[hk P "__module__" 523 (.str (hs "abc") 514), hk P "__firstlineno__" 527 (.int (84) 526), hk P "register" 535 (.ref 83), hk P "__static_attributes__" 536 (.ref 84), hk P "__doc__" 537 (.none)] 2, #[]⟩
noncomputable def ho86 (P : Params) : Obj := ⟨.type "type", none, .cls ⟨hs "ABCMeta", [.type "type"], [.ref 86, .type "type", .type "object"], 85, hs "ABCMeta", true, [], [.ref 119], false, none, false⟩, #[some (.ref 70), none, some (.str (hs "ABCMeta") 516), some (.str (hs "ABCMeta") 524), some (.builtin "type.__new__"), some (.bool true)]⟩
noncomputable def ho87 (P : Params) : Obj := ⟨.type "super", none, .fields #[.ref 86, .ref 86, .ref 86], #[]⟩
noncomputable def ho88 (P : Params) : Obj := ⟨.type "builtin_function_or_method", none, .fields #[.builtin "object.__init_subclass__", .ref 86], #[]⟩
noncomputable def ho89 (P : Params) : Obj := ⟨.type "tuple", none, .seq #[.ref 86] 0, #[]⟩
noncomputable def ho90 (P : Params) : Obj := ⟨.type "builtin_function_or_method", none, .fields #[.builtin "type.__prepare__", .type "type"], #[]⟩
noncomputable def ho91 (P : Params) : Obj := ⟨.type "dict", none, .dict #[hk P "__module__" 549 (.str (hs "collections.abc") 540), hk P "__qualname__" 551 (.str (hs "_ABCLike") 550), hk P "__firstlineno__" 553 (.int (89) 552), hk P "__instancecheck__" 562 (.ref 102), hk P "__subclasscheck__" 570 (.ref 109), hk P "register" 578 (.ref 116), hk P "__static_attributes__" 579 (.ref 117)] 7, #[]⟩
noncomputable def ho92 (P : Params) : Obj := ⟨.type "tuple", none, .seq #[] 0, #[]⟩
noncomputable def ho93 (P : Params) : Obj := ⟨.none, none, .fields #[.int (91) 0, .int (4) 0, .ref 101, .int (97) 0, .int (4) 0, .ref 108, .int (102) 0, .int (4) 0, .ref 115], #[]⟩
noncomputable def ho94 (P : Params) : Obj := ⟨.type "code", none, .fields #[.str (hs "_ABCLike") 544, .str (hs "_ABCLike") 545, .str (hs "/claim/cut.py") 546, .int (89) 0, .int (0) 0, .int (0) 0, .int (0) 0, .int (0) 0, .ref 92, .bool false, .int (276) 0, .ref 93, .none, .none, .none, .none, .int (547) 0, .int (89) 0, .str (hs "/claim/cut.py") 548], #[]⟩
noncomputable def ho95 (P : Params) : Obj := ⟨.type "frame", none, .plain, #[some (.ref 94), some (.ref 3), some (.ref 91), none, some (.str (hs "collections.abc") 540), none, some (.ref 0)]⟩
noncomputable def ho96 (P : Params) : Obj := ⟨.type "tuple", none, .seq #[] 0, #[]⟩
noncomputable def ho97 (P : Params) : Obj := ⟨.none, none, .fields #[], #[]⟩
noncomputable def ho98 (P : Params) : Obj := ⟨.type "tuple", none, .seq #[.str (hs "cls") 557, .str (⟨#[105, 110, 115, 116, 97, 110, 99, 101]⟩) 558, .str (hs "C") 559] 0, #[]⟩
noncomputable def ho99 (P : Params) : Obj := ⟨.type "tuple", none, .seq #[] 0, #[]⟩
noncomputable def ho100 (P : Params) : Obj := ⟨.none, none, .func ⟨hs "__instancecheck__", hs "_ABCLike.__instancecheck__", hPs (hAt hW [13, 0]), .stmts (hBd (hAt hW [13, 0])), hSc (hAt hW [13, 0]), 0, [], .none, .none, .none, .none, none, .none, .none, 0⟩, #[]⟩
noncomputable def ho101 (P : Params) : Obj := ⟨.type "code", none, .fields #[.str (hs "__instancecheck__") 554, .str (hs "_ABCLike.__instancecheck__") 555, .str (hs "/claim/cut.py") 556, .int (91) 0, .int (2) 0, .int (0) 0, .int (0) 0, .int (3) 0, .ref 96, .bool true, .int (276) 0, .ref 97, .none, .ref 98, .ref 99, .ref 100, .int (560) 0, .int (91) 0, .str (hs "/claim/cut.py") 561], #[]⟩
noncomputable def ho102 (P : Params) : Obj := ⟨.type "function", none, .func ⟨hs "__instancecheck__", hs "_ABCLike.__instancecheck__", hPs (hAt hW [13, 0]), .stmts (hBd (hAt hW [13, 0])), hSc (hAt hW [13, 0]), 3, [], .none, .none, .none, .str (hs "collections.abc") 540, none, .ref 101, .none, 0⟩, #[]⟩
noncomputable def ho103 (P : Params) : Obj := ⟨.type "tuple", none, .seq #[] 0, #[]⟩
noncomputable def ho104 (P : Params) : Obj := ⟨.none, none, .fields #[], #[]⟩
noncomputable def ho105 (P : Params) : Obj := ⟨.type "tuple", none, .seq #[.str (hs "cls") 566, .str (hs "C") 567] 0, #[]⟩
noncomputable def ho106 (P : Params) : Obj := ⟨.type "tuple", none, .seq #[] 0, #[]⟩
noncomputable def ho107 (P : Params) : Obj := ⟨.none, none, .func ⟨hs "__subclasscheck__", hs "_ABCLike.__subclasscheck__", hPs (hAt hW [13, 1]), .stmts (hBd (hAt hW [13, 1])), hSc (hAt hW [13, 1]), 0, [], .none, .none, .none, .none, none, .none, .none, 0⟩, #[]⟩
noncomputable def ho108 (P : Params) : Obj := ⟨.type "code", none, .fields #[.str (hs "__subclasscheck__") 563, .str (hs "_ABCLike.__subclasscheck__") 564, .str (hs "/claim/cut.py") 565, .int (97) 0, .int (2) 0, .int (0) 0, .int (0) 0, .int (3) 0, .ref 103, .bool true, .int (276) 0, .ref 104, .none, .ref 105, .ref 106, .ref 107, .int (568) 0, .int (97) 0, .str (hs "/claim/cut.py") 569], #[]⟩
noncomputable def ho109 (P : Params) : Obj := ⟨.type "function", none, .func ⟨hs "__subclasscheck__", hs "_ABCLike.__subclasscheck__", hPs (hAt hW [13, 1]), .stmts (hBd (hAt hW [13, 1])), hSc (hAt hW [13, 1]), 3, [], .none, .none, .none, .str (hs "collections.abc") 540, none, .ref 108, .none, 0⟩, #[]⟩
noncomputable def ho110 (P : Params) : Obj := ⟨.type "tuple", none, .seq #[] 0, #[]⟩
noncomputable def ho111 (P : Params) : Obj := ⟨.none, none, .fields #[], #[]⟩
noncomputable def ho112 (P : Params) : Obj := ⟨.type "tuple", none, .seq #[.str (hs "cls") 574, .str (hs "subclass") 575] 0, #[]⟩
noncomputable def ho113 (P : Params) : Obj := ⟨.type "tuple", none, .seq #[] 0, #[]⟩
noncomputable def ho114 (P : Params) : Obj := ⟨.none, none, .func ⟨hs "register", hs "_ABCLike.register", hPs (hAt hW [13, 2]), .stmts (hBd (hAt hW [13, 2])), hSc (hAt hW [13, 2]), 0, [], .none, .none, .none, .none, none, .none, .none, 0⟩, #[]⟩
noncomputable def ho115 (P : Params) : Obj := ⟨.type "code", none, .fields #[.str (hs "register") 571, .str (hs "_ABCLike.register") 572, .str (hs "/claim/cut.py") 573, .int (102) 0, .int (2) 0, .int (0) 0, .int (0) 0, .int (3) 0, .ref 110, .bool true, .int (276) 0, .ref 111, .none, .ref 112, .ref 113, .ref 114, .int (576) 0, .int (102) 0, .str (hs "/claim/cut.py") 577], #[]⟩
noncomputable def ho116 (P : Params) : Obj := ⟨.type "function", none, .func ⟨hs "register", hs "_ABCLike.register", hPs (hAt hW [13, 2]), .stmts (hBd (hAt hW [13, 2])), hSc (hAt hW [13, 2]), 3, [], .none, .none, .none, .str (hs "collections.abc") 540, none, .ref 115, .none, 0⟩, #[]⟩
noncomputable def ho117 (P : Params) : Obj := ⟨.type "tuple", none, .seq #[] 0, #[]⟩
noncomputable def ho118 (P : Params) : Obj := ⟨.type "dict", none, .dict #[hk P "__module__" 549 (.str (hs "collections.abc") 540), hk P "__firstlineno__" 553 (.int (89) 552), hk P "__instancecheck__" 562 (.ref 102), hk P "__subclasscheck__" 570 (.ref 109), hk P "register" 578 (.ref 116), hk P "__static_attributes__" 579 (.ref 117), hk P "__doc__" 580 (.none)] 2, #[]⟩
noncomputable def ho119 (P : Params) : Obj := ⟨.type "type", none, .cls ⟨hs "_ABCLike", [.ref 86], [.ref 119, .ref 86, .type "type", .type "object"], 118, hs "_ABCLike", true, [], [], false, none, false⟩, #[some (.ref 89), none, some (.str (hs "_ABCLike") 542), some (.str (hs "_ABCLike") 550), some (.builtin "type.__new__"), some (.bool true)]⟩
noncomputable def ho120 (P : Params) : Obj := ⟨.type "super", none, .fields #[.ref 119, .ref 119, .ref 119], #[]⟩
noncomputable def ho121 (P : Params) : Obj := ⟨.type "builtin_function_or_method", none, .fields #[.builtin "object.__init_subclass__", .ref 119], #[]⟩
noncomputable def ho122 (P : Params) : Obj := ⟨.type "tuple", none, .seq #[] 0, #[]⟩
noncomputable def ho123 (P : Params) : Obj := ⟨.none, none, .fields #[], #[]⟩
noncomputable def ho124 (P : Params) : Obj := ⟨.type "tuple", none, .seq #[.str (hs "C") 586] 0, #[]⟩
noncomputable def ho125 (P : Params) : Obj := ⟨.type "tuple", none, .seq #[] 0, #[]⟩
noncomputable def ho126 (P : Params) : Obj := ⟨.none, none, .func ⟨hs "_abc_plain_meta", hs "_abc_plain_meta", hPs (hAt hW [14]), .stmts (hBd (hAt hW [14])), hSc (hAt hW [14]), 0, [], .none, .none, .none, .none, none, .none, .none, 0⟩, #[]⟩
noncomputable def ho127 (P : Params) : Obj := ⟨.type "code", none, .fields #[.str (hs "_abc_plain_meta") 583, .str (hs "_abc_plain_meta") 584, .str (hs "/claim/cut.py") 585, .int (104) 0, .int (1) 0, .int (0) 0, .int (0) 0, .int (3) 0, .ref 122, .bool true, .int (276) 0, .ref 123, .none, .ref 124, .ref 125, .ref 126, .int (587) 0, .int (104) 0, .str (hs "/claim/cut.py") 588], #[]⟩
noncomputable def ho128 (P : Params) : Obj := ⟨.type "function", none, .func ⟨hs "_abc_plain_meta", hs "_abc_plain_meta", hPs (hAt hW [14]), .stmts (hBd (hAt hW [14])), hSc (hAt hW [14]), 3, [], .none, .none, .none, .str (hs "collections.abc") 540, none, .ref 127, .none, 0⟩, #[]⟩
noncomputable def ho129 (P : Params) : Obj := ⟨.type "tuple", none, .seq #[] 0, #[]⟩
noncomputable def ho130 (P : Params) : Obj := ⟨.none, none, .fields #[], #[]⟩
noncomputable def ho131 (P : Params) : Obj := ⟨.type "tuple", none, .seq #[.str (hs "path") 595, .str (hs "kind") 596, .str (hs "hook") 597, .str (hs "given") 598] 0, #[]⟩
noncomputable def ho132 (P : Params) : Obj := ⟨.type "tuple", none, .seq #[] 0, #[]⟩
noncomputable def ho133 (P : Params) : Obj := ⟨.none, none, .func ⟨hs "fspath", hs "fspath", hPs (hAt hW [16]), .stmts (hBd (hAt hW [16])), hSc (hAt hW [16]), 0, [], .none, .none, .none, .none, none, .none, .none, 0⟩, #[]⟩
noncomputable def ho134 (P : Params) : Obj := ⟨.type "code", none, .fields #[.str (hs "fspath") 592, .str (hs "fspath") 593, .str (hs "/claim/cut.py") 594, .int (108) 0, .int (1) 0, .int (0) 0, .int (0) 0, .int (3) 0, .ref 129, .bool true, .int (276) 0, .ref 130, .none, .ref 131, .ref 132, .ref 133, .int (599) 0, .int (108) 0, .str (hs "/claim/cut.py") 600], #[]⟩
noncomputable def ho135 (P : Params) : Obj := ⟨.type "function", none, .func ⟨hs "fspath", hs "fspath", hPs (hAt hW [16]), .stmts (hBd (hAt hW [16])), hSc (hAt hW [16]), 3, [], .none, .none, .none, .str (hs "os") 590, none, .ref 134, .none, 0⟩, #[]⟩
noncomputable def ho136 (P : Params) : Obj := ⟨.type "tuple", none, .seq #[] 0, #[]⟩
noncomputable def ho137 (P : Params) : Obj := ⟨.none, none, .fields #[], #[]⟩
noncomputable def ho138 (P : Params) : Obj := ⟨.type "tuple", none, .seq #[.str (hs "funcname") 607, .str (hs "args") 608, .str (hs "hasstr") 609, .str (hs "hasbytes") 610, .str (hs "s") 611] 0, #[]⟩
noncomputable def ho139 (P : Params) : Obj := ⟨.type "tuple", none, .seq #[] 0, #[]⟩
noncomputable def ho140 (P : Params) : Obj := ⟨.none, none, .func ⟨hs "_check_arg_types", hs "_check_arg_types", hPs (hAt hW [18]), .stmts (hBd (hAt hW [18])), hSc (hAt hW [18]), 0, [], .none, .none, .none, .none, none, .none, .none, 0⟩, #[]⟩
noncomputable def ho141 (P : Params) : Obj := ⟨.type "code", none, .fields #[.str (hs "_check_arg_types") 604, .str (hs "_check_arg_types") 605, .str (hs "/claim/cut.py") 606, .int (125) 0, .int (1) 0, .int (0) 0, .int (0) 0, .int (7) 0, .ref 136, .bool true, .int (276) 0, .ref 137, .none, .ref 138, .ref 139, .ref 140, .int (612) 0, .int (125) 0, .str (hs "/claim/cut.py") 613], #[]⟩
noncomputable def ho142 (P : Params) : Obj := ⟨.type "function", none, .func ⟨hs "_check_arg_types", hs "_check_arg_types", hPs (hAt hW [18]), .stmts (hBd (hAt hW [18])), hSc (hAt hW [18]), 3, [], .none, .none, .none, .str (hs "cpy313.genericpath") 602, none, .ref 141, .none, 0⟩, #[]⟩
noncomputable def ho143 (P : Params) : Obj := ⟨.type "tuple", none, .seq #[] 0, #[]⟩
noncomputable def ho144 (P : Params) : Obj := ⟨.none, none, .fields #[], #[]⟩
noncomputable def ho145 (P : Params) : Obj := ⟨.type "tuple", none, .seq #[.str (hs "path") 620] 0, #[]⟩
noncomputable def ho146 (P : Params) : Obj := ⟨.type "tuple", none, .seq #[] 0, #[]⟩
noncomputable def ho147 (P : Params) : Obj := ⟨.none, none, .func ⟨hs "_get_sep", hs "_get_sep", hPs (hAt hW [20]), .stmts (hBd (hAt hW [20])), hSc (hAt hW [20]), 0, [], .none, .none, .none, .none, none, .none, .none, 0⟩, #[]⟩
noncomputable def ho148 (P : Params) : Obj := ⟨.type "code", none, .fields #[.str (hs "_get_sep") 617, .str (hs "_get_sep") 618, .str (hs "/claim/cut.py") 619, .int (137) 0, .int (1) 0, .int (0) 0, .int (0) 0, .int (3) 0, .ref 143, .bool true, .int (276) 0, .ref 144, .none, .ref 145, .ref 146, .ref 147, .int (621) 0, .int (137) 0, .str (hs "/claim/cut.py") 622], #[]⟩
noncomputable def ho149 (P : Params) : Obj := ⟨.type "function", none, .func ⟨hs "_get_sep", hs "_get_sep", hPs (hAt hW [20]), .stmts (hBd (hAt hW [20])), hSc (hAt hW [20]), 3, [], .none, .none, .none, .str (hs "cpy313.posixpath") 615, none, .ref 148, .none, 0⟩, #[]⟩
noncomputable def ho150 (P : Params) : Obj := ⟨.type "tuple", none, .seq #[] 0, #[]⟩
noncomputable def ho151 (P : Params) : Obj := ⟨.none, none, .fields #[], #[]⟩
noncomputable def ho152 (P : Params) : Obj := ⟨.type "tuple", none, .seq #[.str (hs "a") 627, .str (hs "p") 628, .str (hs "sep") 629, .str (hs "path") 630, .str (hs "b") 631] 0, #[]⟩
noncomputable def ho153 (P : Params) : Obj := ⟨.type "tuple", none, .seq #[] 0, #[]⟩
noncomputable def ho154 (P : Params) : Obj := ⟨.none, none, .func ⟨hs "join", hs "join", hPs (hAt hW [21]), .stmts (hBd (hAt hW [21])), hSc (hAt hW [21]), 0, [], .none, .none, .none, .none, none, .none, .none, 0⟩, #[]⟩
noncomputable def ho155 (P : Params) : Obj := ⟨.type "code", none, .fields #[.str (hs "join") 624, .str (hs "join") 625, .str (hs "/claim/cut.py") 626, .int (142) 0, .int (1) 0, .int (0) 0, .int (0) 0, .int (7) 0, .ref 150, .bool true, .int (276) 0, .ref 151, .none, .ref 152, .ref 153, .ref 154, .int (632) 0, .int (142) 0, .str (hs "/claim/cut.py") 633], #[]⟩
noncomputable def ho156 (P : Params) : Obj := ⟨.type "function", none, .func ⟨hs "join", hs "join", hPs (hAt hW [21]), .stmts (hBd (hAt hW [21])), hSc (hAt hW [21]), 3, [], .none, .none, .none, .str (hs "cpy313.posixpath") 615, none, .ref 155, .none, 0⟩, #[]⟩
noncomputable def ho157 (P : Params) : Obj := ⟨.type "tuple", none, .seq #[] 0, #[]⟩
noncomputable def ho158 (P : Params) : Obj := ⟨.none, none, .fields #[], #[]⟩
noncomputable def ho159 (P : Params) : Obj := ⟨.type "tuple", none, .seq #[.str (hs "p") 638, .str (hs "sep") 639, .str (hs "i") 640, .str (hs "head") 641, .str (hs "tail") 642] 0, #[]⟩
noncomputable def ho160 (P : Params) : Obj := ⟨.type "tuple", none, .seq #[] 0, #[]⟩
noncomputable def ho161 (P : Params) : Obj := ⟨.none, none, .func ⟨hs "split", hs "split", hPs (hAt hW [22]), .stmts (hBd (hAt hW [22])), hSc (hAt hW [22]), 0, [], .none, .none, .none, .none, none, .none, .none, 0⟩, #[]⟩
noncomputable def ho162 (P : Params) : Obj := ⟨.type "code", none, .fields #[.str (hs "split") 635, .str (hs "split") 636, .str (hs "/claim/cut.py") 637, .int (159) 0, .int (1) 0, .int (0) 0, .int (0) 0, .int (3) 0, .ref 157, .bool true, .int (276) 0, .ref 158, .none, .ref 159, .ref 160, .ref 161, .int (643) 0, .int (159) 0, .str (hs "/claim/cut.py") 644], #[]⟩
noncomputable def ho163 (P : Params) : Obj := ⟨.type "function", none, .func ⟨hs "split", hs "split", hPs (hAt hW [22]), .stmts (hBd (hAt hW [22])), hSc (hAt hW [22]), 3, [], .none, .none, .none, .str (hs "cpy313.posixpath") 615, none, .ref 162, .none, 0⟩, #[]⟩
noncomputable def ho164 (P : Params) : Obj := ⟨.type "tuple", none, .seq #[] 0, #[]⟩
noncomputable def ho165 (P : Params) : Obj := ⟨.none, none, .fields #[], #[]⟩
noncomputable def ho166 (P : Params) : Obj := ⟨.type "tuple", none, .seq #[.str (hs "p") 649, .str (hs "sep") 650, .str (hs "i") 651, .str (hs "head") 652] 0, #[]⟩
noncomputable def ho167 (P : Params) : Obj := ⟨.type "tuple", none, .seq #[] 0, #[]⟩
noncomputable def ho168 (P : Params) : Obj := ⟨.none, none, .func ⟨hs "dirname", hs "dirname", hPs (hAt hW [23]), .stmts (hBd (hAt hW [23])), hSc (hAt hW [23]), 0, [], .none, .none, .none, .none, none, .none, .none, 0⟩, #[]⟩
noncomputable def ho169 (P : Params) : Obj := ⟨.type "code", none, .fields #[.str (hs "dirname") 646, .str (hs "dirname") 647, .str (hs "/claim/cut.py") 648, .int (167) 0, .int (1) 0, .int (0) 0, .int (0) 0, .int (3) 0, .ref 164, .bool true, .int (276) 0, .ref 165, .none, .ref 166, .ref 167, .ref 168, .int (653) 0, .int (167) 0, .str (hs "/claim/cut.py") 654], #[]⟩
noncomputable def ho170 (P : Params) : Obj := ⟨.type "function", none, .func ⟨hs "dirname", hs "dirname", hPs (hAt hW [23]), .stmts (hBd (hAt hW [23])), hSc (hAt hW [23]), 3, [], .none, .none, .none, .str (hs "cpy313.posixpath") 615, none, .ref 169, .none, 0⟩, #[]⟩
noncomputable def ho171 (P : Params) : Obj := ⟨.type "tuple", none, .seq #[] 0, #[]⟩
noncomputable def ho172 (P : Params) : Obj := ⟨.none, none, .fields #[], #[]⟩
noncomputable def ho173 (P : Params) : Obj := ⟨.type "tuple", none, .seq #[.str (hs "part") 661, .str (hs "sign") 662, .str (hs "body") 663, .str (hs "barred") 664, .str (hs "k") 665, .str (hs "found") 666, .str (hs "low") 667, .str (hs "high") 668] 0, #[]⟩
noncomputable def ho174 (P : Params) : Obj := ⟨.type "tuple", none, .seq #[] 0, #[]⟩
noncomputable def ho175 (P : Params) : Obj := ⟨.none, none, .func ⟨hs "_law_one", hs "_law_one", hPs (hAt hW [25]), .stmts (hBd (hAt hW [25])), hSc (hAt hW [25]), 0, [], .none, .none, .none, .none, none, .none, .none, 0⟩, #[]⟩
noncomputable def ho176 (P : Params) : Obj := ⟨.type "code", none, .fields #[.str (hs "_law_one") 658, .str (hs "_law_one") 659, .str (hs "/claim/cut.py") 660, .int (176) 0, .int (2) 0, .int (0) 0, .int (0) 0, .int (3) 0, .ref 171, .bool true, .int (276) 0, .ref 172, .none, .ref 173, .ref 174, .ref 175, .int (669) 0, .int (176) 0, .str (hs "/claim/cut.py") 670], #[]⟩
noncomputable def ho177 (P : Params) : Obj := ⟨.type "function", none, .func ⟨hs "_law_one", hs "_law_one", hPs (hAt hW [25]), .stmts (hBd (hAt hW [25])), hSc (hAt hW [25]), 3, [], .none, .none, .none, .str (hs "law_dn0069_03") 656, none, .ref 176, .none, 0⟩, #[]⟩
noncomputable def ho178 (P : Params) : Obj := ⟨.type "tuple", none, .seq #[] 0, #[]⟩
noncomputable def ho179 (P : Params) : Obj := ⟨.none, none, .fields #[], #[]⟩
noncomputable def ho180 (P : Params) : Obj := ⟨.none, none, .func ⟨hs "_law_takes", hs "_law_takes", hPs (hAt hW [26]), .stmts (hBd (hAt hW [26])), hSc (hAt hW [26]), 0, [], .none, .none, .none, .none, none, .none, .none, 0⟩, #[]⟩
noncomputable def ho181 (P : Params) : Obj := ⟨.type "code", none, .fields #[.str (hs "_law_takes") 672, .str (hs "_law_takes") 673, .str (hs "/claim/cut.py") 674, .int (200) 0, .int (3) 0, .int (0) 0, .int (0) 0, .int (3) 0, .ref 178, .bool true, .int (276) 0, .ref 179, .none, .none, .none, .ref 180, .int (675) 0, .int (200) 0, .str (hs "/claim/cut.py") 676], #[]⟩
noncomputable def ho182 (P : Params) : Obj := ⟨.type "function", none, .func ⟨hs "_law_takes", hs "_law_takes", hPs (hAt hW [26]), .stmts (hBd (hAt hW [26])), hSc (hAt hW [26]), 3, [], .none, .none, .none, .str (hs "law_dn0069_03") 656, none, .ref 181, .none, 0⟩, #[]⟩
noncomputable def ho183 (P : Params) : Obj := ⟨.type "tuple", none, .seq #[] 0, #[]⟩
noncomputable def ho184 (P : Params) : Obj := ⟨.none, none, .fields #[], #[]⟩
noncomputable def ho185 (P : Params) : Obj := ⟨.none, none, .func ⟨hs "_law_means", hs "_law_means", hPs (hAt hW [27]), .stmts (hBd (hAt hW [27])), hSc (hAt hW [27]), 0, [], .none, .none, .none, .none, none, .none, .none, 0⟩, #[]⟩
noncomputable def ho186 (P : Params) : Obj := ⟨.type "code", none, .fields #[.str (hs "_law_means") 678, .str (hs "_law_means") 679, .str (hs "/claim/cut.py") 680, .int (208) 0, .int (2) 0, .int (0) 0, .int (0) 0, .int (3) 0, .ref 183, .bool true, .int (276) 0, .ref 184, .none, .none, .none, .ref 185, .int (681) 0, .int (208) 0, .str (hs "/claim/cut.py") 682], #[]⟩
noncomputable def ho187 (P : Params) : Obj := ⟨.type "function", none, .func ⟨hs "_law_means", hs "_law_means", hPs (hAt hW [27]), .stmts (hBd (hAt hW [27])), hSc (hAt hW [27]), 3, [], .none, .none, .none, .str (hs "law_dn0069_03") 656, none, .ref 186, .none, 0⟩, #[]⟩
noncomputable def ho188 (P : Params) : Obj := ⟨.type "tuple", none, .seq #[] 0, #[]⟩
noncomputable def ho189 (P : Params) : Obj := ⟨.none, none, .fields #[], #[]⟩
noncomputable def ho190 (P : Params) : Obj := ⟨.type "tuple", none, .seq #[.str (hs "code") 687, .str (hs "pieces") 688] 0, #[]⟩
noncomputable def ho191 (P : Params) : Obj := ⟨.type "tuple", none, .seq #[] 0, #[]⟩
noncomputable def ho192 (P : Params) : Obj := ⟨.none, none, .func ⟨hs "_law_dressed", hs "_law_dressed", hPs (hAt hW [28]), .stmts (hBd (hAt hW [28])), hSc (hAt hW [28]), 0, [], .none, .none, .none, .none, none, .none, .none, 0⟩, #[]⟩
noncomputable def ho193 (P : Params) : Obj := ⟨.type "code", none, .fields #[.str (hs "_law_dressed") 684, .str (hs "_law_dressed") 685, .str (hs "/claim/cut.py") 686, .int (214) 0, .int (1) 0, .int (0) 0, .int (0) 0, .int (3) 0, .ref 188, .bool true, .int (276) 0, .ref 189, .none, .ref 190, .ref 191, .ref 192, .int (689) 0, .int (214) 0, .str (hs "/claim/cut.py") 690], #[]⟩
noncomputable def ho194 (P : Params) : Obj := ⟨.type "function", none, .func ⟨hs "_law_dressed", hs "_law_dressed", hPs (hAt hW [28]), .stmts (hBd (hAt hW [28])), hSc (hAt hW [28]), 3, [], .none, .none, .none, .str (hs "law_dn0069_03") 656, none, .ref 193, .none, 0⟩, #[]⟩
noncomputable def ho195 (P : Params) : Obj := ⟨.type "tuple", none, .seq #[] 0, #[]⟩
noncomputable def ho196 (P : Params) : Obj := ⟨.none, none, .fields #[], #[]⟩
noncomputable def ho197 (P : Params) : Obj := ⟨.type "tuple", none, .seq #[.str (hs "rule") 695, .str (hs "path") 696, .str (hs "star") 697, .str (hs "head") 698, .str (hs "tail") 699] 0, #[]⟩
noncomputable def ho198 (P : Params) : Obj := ⟨.type "tuple", none, .seq #[] 0, #[]⟩
noncomputable def ho199 (P : Params) : Obj := ⟨.none, none, .func ⟨hs "_law_hits", hs "_law_hits", hPs (hAt hW [29]), .stmts (hBd (hAt hW [29])), hSc (hAt hW [29]), 0, [], .none, .none, .none, .none, none, .none, .none, 0⟩, #[]⟩
noncomputable def ho200 (P : Params) : Obj := ⟨.type "code", none, .fields #[.str (hs "_law_hits") 692, .str (hs "_law_hits") 693, .str (hs "/claim/cut.py") 694, .int (217) 0, .int (3) 0, .int (0) 0, .int (0) 0, .int (3) 0, .ref 195, .bool true, .int (276) 0, .ref 196, .none, .ref 197, .ref 198, .ref 199, .int (700) 0, .int (217) 0, .str (hs "/claim/cut.py") 701], #[]⟩
noncomputable def ho201 (P : Params) : Obj := ⟨.type "function", none, .func ⟨hs "_law_hits", hs "_law_hits", hPs (hAt hW [29]), .stmts (hBd (hAt hW [29])), hSc (hAt hW [29]), 3, [], .none, .none, .none, .str (hs "law_dn0069_03") 656, none, .ref 200, .none, 0⟩, #[]⟩
noncomputable def ho202 (P : Params) : Obj := ⟨.type "tuple", none, .seq #[] 0, #[]⟩
noncomputable def ho203 (P : Params) : Obj := ⟨.none, none, .fields #[], #[]⟩
noncomputable def ho204 (P : Params) : Obj := ⟨.type "tuple", none, .seq #[.str (hs "rules") 706, .str (hs "path") 707, .str (hs "star") 708, .str (hs "head") 709, .str (hs "out") 710, .str (hs "rule") 711] 0, #[]⟩
noncomputable def ho205 (P : Params) : Obj := ⟨.type "tuple", none, .seq #[] 0, #[]⟩
noncomputable def ho206 (P : Params) : Obj := ⟨.none, none, .func ⟨hs "_law_out", hs "_law_out", hPs (hAt hW [30]), .stmts (hBd (hAt hW [30])), hSc (hAt hW [30]), 0, [], .none, .none, .none, .none, none, .none, .none, 0⟩, #[]⟩
noncomputable def ho207 (P : Params) : Obj := ⟨.type "code", none, .fields #[.str (hs "_law_out") 703, .str (hs "_law_out") 704, .str (hs "/claim/cut.py") 705, .int (226) 0, .int (3) 0, .int (0) 0, .int (0) 0, .int (3) 0, .ref 202, .bool true, .int (276) 0, .ref 203, .none, .ref 204, .ref 205, .ref 206, .int (712) 0, .int (226) 0, .str (hs "/claim/cut.py") 713], #[]⟩
noncomputable def ho208 (P : Params) : Obj := ⟨.type "function", none, .func ⟨hs "_law_out", hs "_law_out", hPs (hAt hW [30]), .stmts (hBd (hAt hW [30])), hSc (hAt hW [30]), 3, [], .none, .none, .none, .str (hs "law_dn0069_03") 656, none, .ref 207, .none, 0⟩, #[]⟩
noncomputable def ho209 (P : Params) : Obj := ⟨.type "tuple", none, .seq #[] 0, #[]⟩
noncomputable def ho210 (P : Params) : Obj := ⟨.none, none, .fields #[], #[]⟩
noncomputable def ho211 (P : Params) : Obj := ⟨.type "tuple", none, .seq #[.str (hs "rules") 718, .str (hs "tree") 719, .str (hs "above") 720, .str (hs "met") 721, .str (hs "names") 722, .str (hs "out") 723, .str (hs "leaves") 724, .str (hs "kind") 725, .str (hs "own") 726, .str (hs "folder") 727, .str (hs "lists") 728, .str (hs "hit") 729] 0, #[]⟩
noncomputable def ho212 (P : Params) : Obj := ⟨.type "tuple", none, .seq #[] 0, #[]⟩
noncomputable def ho213 (P : Params) : Obj := ⟨.none, none, .func ⟨hs "_law_met", hs "_law_met", hPs (hAt hW [31]), .stmts (hBd (hAt hW [31])), hSc (hAt hW [31]), 0, [], .none, .none, .none, .none, none, .none, .none, 0⟩, #[]⟩
noncomputable def ho214 (P : Params) : Obj := ⟨.type "code", none, .fields #[.str (hs "_law_met") 715, .str (hs "_law_met") 716, .str (hs "/claim/cut.py") 717, .int (235) 0, .int (3) 0, .int (0) 0, .int (0) 0, .int (3) 0, .ref 209, .bool true, .int (276) 0, .ref 210, .none, .ref 211, .ref 212, .ref 213, .int (730) 0, .int (235) 0, .str (hs "/claim/cut.py") 731], #[]⟩
noncomputable def ho215 (P : Params) : Obj := ⟨.type "function", none, .func ⟨hs "_law_met", hs "_law_met", hPs (hAt hW [31]), .stmts (hBd (hAt hW [31])), hSc (hAt hW [31]), 3, [], .none, .none, .none, .str (hs "law_dn0069_03") 656, none, .ref 214, .none, 0⟩, #[]⟩
noncomputable def ho216 (P : Params) : Obj := ⟨.type "tuple", none, .seq #[] 0, #[]⟩
noncomputable def ho217 (P : Params) : Obj := ⟨.none, none, .fields #[], #[]⟩
noncomputable def ho218 (P : Params) : Obj := ⟨.none, none, .func ⟨hs "law", hs "law", hPs (hAt hW [32]), .stmts (hBd (hAt hW [32])), hSc (hAt hW [32]), 0, [], .none, .none, .none, .none, none, .none, .none, 0⟩, #[]⟩
noncomputable def ho219 (P : Params) : Obj := ⟨.type "code", none, .fields #[.str (hs "law") 733, .str (hs "law") 734, .str (hs "/claim/cut.py") 735, .int (252) 0, .int (1) 0, .int (0) 0, .int (0) 0, .int (3) 0, .ref 216, .bool true, .int (276) 0, .ref 217, .none, .none, .none, .ref 218, .int (736) 0, .int (252) 0, .str (hs "/claim/cut.py") 737], #[]⟩
noncomputable def ho220 (P : Params) : Obj := ⟨.type "function", none, .func ⟨hs "law", hs "law", hPs (hAt hW [32]), .stmts (hBd (hAt hW [32])), hSc (hAt hW [32]), 3, [], .none, .none, .none, .str (hs "law_dn0069_03") 656, none, .ref 219, .none, 0⟩, #[]⟩
noncomputable def hp32 (P : Params) : Heap := ⟨Array.mk [boot_o_0 P, ho1 P, ho2 P, ho3xxx P, boot_o_4 P, boot_o_5 P, boot_o_6 P, boot_o_7 P, boot_o_8 P, boot_o_9 P, boot_o_10 P, ho11 P, ho12 P, ho13 P, ho14 P, ho15 P, ho16 P, ho17 P, ho18 P, ho19 P, ho20 P, ho21 P, ho22 P, ho23 P, ho24 P, ho25 P, ho26 P, ho27 P, ho28 P, ho29xx P, ho30 P, ho31 P, ho32 P, ho33 P, ho34 P, ho35 P, ho36 P, ho37 P, ho38 P, ho39 P, ho40 P, ho41 P, ho42 P, ho43 P, ho44 P, ho45 P, ho46 P, ho47 P, ho48 P, ho49 P, ho50 P, ho51 P, ho52 P, ho53 P, ho54 P, ho55 P, ho56 P, ho57 P, ho58 P, ho59 P, ho60 P, ho61 P, ho62 P, ho63 P, ho64 P, ho65 P, ho66 P, ho67 P, ho68 P, ho69 P, ho70 P, ho71 P, ho72 P, ho73 P, ho74 P, ho75 P, ho76 P, ho77 P, ho78 P, ho79 P, ho80 P, ho81 P, ho82 P, ho83 P, ho84 P, ho85 P, ho86 P, ho87 P, ho88 P, ho89 P, ho90 P, ho91 P, ho92 P, ho93 P, ho94 P, ho95 P, ho96 P, ho97 P, ho98 P, ho99 P, ho100 P, ho101 P, ho102 P, ho103 P, ho104 P, ho105 P, ho106 P, ho107 P, ho108 P, ho109 P, ho110 P, ho111 P, ho112 P, ho113 P, ho114 P, ho115 P, ho116 P, ho117 P, ho118 P, ho119 P, ho120 P, ho121 P, ho122 P, ho123 P, ho124 P, ho125 P, ho126 P, ho127 P, ho128 P, ho129 P, ho130 P, ho131 P, ho132 P, ho133 P, ho134 P, ho135 P, ho136 P, ho137 P, ho138 P, ho139 P, ho140 P, ho141 P, ho142 P, ho143 P, ho144 P, ho145 P, ho146 P, ho147 P, ho148 P, ho149 P, ho150 P, ho151 P, ho152 P, ho153 P, ho154 P, ho155 P, ho156 P, ho157 P, ho158 P, ho159 P, ho160 P, ho161 P, ho162 P, ho163 P, ho164 P, ho165 P, ho166 P, ho167 P, ho168 P, ho169 P, ho170 P, ho171 P, ho172 P, ho173 P, ho174 P, ho175 P, ho176 P, ho177 P, ho178 P, ho179 P, ho180 P, ho181 P, ho182 P, ho183 P, ho184 P, ho185 P, ho186 P, ho187 P, ho188 P, ho189 P, ho190 P, ho191 P, ho192 P, ho193 P, ho194 P, ho195 P, ho196 P, ho197 P, ho198 P, ho199 P, ho200 P, ho201 P, ho202 P, ho203 P, ho204 P, ho205 P, ho206 P, ho207 P, ho208 P, ho209 P, ho210 P, ho211 P, ho212 P, ho213 P, ho214 P, ho215 P, ho216 P, ho217 P, ho218 P, ho219 P, ho220 P], { }⟩
noncomputable def zk (P : Params) : Frag := [(2, ho2 P), (3, ho3xxx P), (42, ho42 P), (43, ho43 P), (45, ho45 P), (54, ho54 P), (55, ho55 P), (57, ho57 P), (61, ho61 P), (62, ho62 P), (134, ho134 P), (135, ho135 P), (148, ho148 P), (149, ho149 P), (155, ho155 P), (156, ho156 P), (162, ho162 P), (163, ho163 P), (169, ho169 P), (170, ho170 P), (176, ho176 P), (177, ho177 P), (181, ho181 P), (182, ho182 P), (186, ho186 P), (187, ho187 P), (193, ho193 P), (194, ho194 P), (200, ho200 P), (201, ho201 P), (207, ho207 P), (208, ho208 P), (214, ho214 P), (215, ho215 P), (219, ho219 P), (220, ho220 P)]
noncomputable abbrev zas : List Addr := [2, 3, 42, 43, 45, 54, 55, 57, 61, 62, 134, 135, 148, 149, 155, 156, 162, 163, 169, 170, 176, 177, 181, 182, 186, 187, 193, 194, 200, 201, 207, 208, 214, 215, 219, 220]
theorem zkeys (P : Params) : zas = (zk P).map (·.1) := rfl
noncomputable abbrev hPr : Program := PySem.Challenge.rw_dn0069_03.row.prog
noncomputable abbrev hB : List Stmt := behindTheImports hPr
noncomputable def hEnv : Env := { scope := hPr.main.scope, locals := mainNs, globals := mainNs, cells := [], code := PySem.Value.ref 30, frame := some 31 }
noncomputable abbrev hC : Code := .body hB hEnv
theorem hpre (w : World) (os : OsState) : topGo treeTable hPr w 28 (some (PySem.Value.ref 6)) 12 (⟨hp0 (w).params, Array.mk [], { }, 276, os⟩ : Shared) (topStub hPr) = some ((⟨hp_pre (w).params, Array.mk [], { }, 282, os⟩ : Shared), ⟨denote treeTable hC, hC, { line := 0, col := 0, endLine := 0, endCol := 0 }, [topFrame ({ line := 0, col := 0, endLine := 0, endCol := 0 } : Pos)]⟩) := by kernel_rfl
theorem hblock (w : World) (os : OsState) : segRun treeTable hPr w 28 (some (PySem.Value.ref 6)) 1 (0 + 1) (⟨hp_pre (w).params, Array.mk [], { }, 282, os⟩ : Shared) (blockOf hB hEnv hC { line := 0, col := 0, endLine := 0, endCol := 0 } [topFrame ({ line := 0, col := 0, endLine := 0, endCol := 0 } : Pos)]) = some (.next, (⟨hp_pre (w).params, Array.mk [], { }, 282, os⟩ : Shared), hC, { line := 0, col := 0, endLine := 0, endCol := 0 }) := by kernel_rfl
theorem hseg3 (w : World) : ∀ os : OsState, segRun treeTable hPr (w) 28 (some (PySem.Value.ref 6)) 1 (119 + 1) (⟨hp_pre (w).params, Array.mk [], { }, 282, os⟩ : Shared) (piecesOf ((hB.drop 0).take 3) hEnv hC { line := 0, col := 0, endLine := 0, endCol := 0 } [topFrame ({ line := 0, col := 0, endLine := 0, endCol := 0 } : Pos)]) = some (.next, (⟨hp3 (w).params, Array.mk [], { }, 329, os⟩ : Shared), hC, { line := 6, col := 0, endLine := 6, endCol := 8 }) := by
  intro os; kernel_rfl
theorem rows2 (r0 r1 : String) {P : World → Prop} (h00 : ∀ w : World, P ((w.withFollow r1 false).withFollow r0 false)) (h01 : ∀ w : World, P ((w.withFollow r1 true).withFollow r0 false)) (h10 : ∀ w : World, P ((w.withFollow r1 false).withFollow r0 true)) (h11 : ∀ w : World, P ((w.withFollow r1 true).withFollow r0 true)) : ∀ w, P w := (fun w => byRow2 r0 (P := fun w => P w) (fun w => byRow2 r1 (P := fun w => P (w.withFollow r0 false)) h00 h01 w) (fun w => byRow2 r1 (P := fun w => P (w.withFollow r0 true)) h10 h11 w) w)
noncomputable abbrev hS4 (w : World) : Prop := ∀ os : OsState, segRun treeTable hPr (w) 28 (some (PySem.Value.ref 6)) 1 (1252 + 1) (⟨hp3 (w).params, Array.mk [], { }, 329, os⟩ : Shared) (piecesOf ((hB.drop 3).take 1) hEnv hC { line := 6, col := 0, endLine := 6, endCol := 8 } [topFrame ({ line := 0, col := 0, endLine := 0, endCol := 0 } : Pos)]) = some (.next, (⟨hp4 (w).params, Array.mk [], { }, 475, os⟩ : Shared), hC, { line := 7, col := 0, endLine := 7, endCol := 18 })
theorem hseg4_00 (w : World) : hS4 (World.withFollow (World.withFollow w "special-get-raises" false) "comprehension-iter-twice" false) := by
  intro os; kernel_rfl
theorem hseg4_01 (w : World) : hS4 (World.withFollow (World.withFollow w "special-get-raises" true) "comprehension-iter-twice" false) := by
  intro os; kernel_rfl
theorem hseg4_10 (w : World) : hS4 (World.withFollow (World.withFollow w "special-get-raises" false) "comprehension-iter-twice" true) := by
  intro os; kernel_rfl
theorem hseg4_11 (w : World) : hS4 (World.withFollow (World.withFollow w "special-get-raises" true) "comprehension-iter-twice" true) := by
  intro os; kernel_rfl
theorem hseg4 (w : World) : ∀ os : OsState, segRun treeTable hPr (w) 28 (some (PySem.Value.ref 6)) 1 (1252 + 1) (⟨hp3 (w).params, Array.mk [], { }, 329, os⟩ : Shared) (piecesOf ((hB.drop 3).take 1) hEnv hC { line := 6, col := 0, endLine := 6, endCol := 8 } [topFrame ({ line := 0, col := 0, endLine := 0, endCol := 0 } : Pos)]) = some (.next, (⟨hp4 (w).params, Array.mk [], { }, 475, os⟩ : Shared), hC, { line := 7, col := 0, endLine := 7, endCol := 18 }) := rows2 "comprehension-iter-twice" "special-get-raises" (P := hS4) hseg4_00 hseg4_01 hseg4_10 hseg4_11 w
theorem hseg32 (w : World) : ∀ os : OsState, segRun treeTable hPr (w) 28 (some (PySem.Value.ref 6)) 1 (1163 + 1) (⟨hp4 (w).params, Array.mk [], { }, 475, os⟩ : Shared) (piecesOf ((hB.drop 4).take 28) hEnv hC { line := 7, col := 0, endLine := 7, endCol := 18 } [topFrame ({ line := 0, col := 0, endLine := 0, endCol := 0 } : Pos)]) = some (.next, (⟨hp32 (w).params, Array.mk [], { }, 739, os⟩ : Shared), hC, { line := 252, col := 0, endLine := 275, endCol := 15 }) := by
  intro os; kernel_rfl
theorem hfin (w : World) (os : OsState) : topRun treeTable hPr w 28 (some (PySem.Value.ref 6)) (1 + 1) (⟨hp32 (w).params, Array.mk [], { }, 739, os⟩ : Shared) (restOf [] hEnv hC { line := 252, col := 0, endLine := 275, endCol := 15 } [topFrame ({ line := 0, col := 0, endLine := 0, endCol := 0 } : Pos)]) = some (⟨hp32 (w).params, Array.mk [], { }, 739, os⟩ : Shared) := by kernel_rfl
theorem hcat : hB = (((hB.drop 0).take 3) ++ (((hB.drop 3).take 1) ++ (((hB.drop 4).take 28) ++ []))) := by kernel_rfl
theorem hrun (w : World) (os : OsState) : topRun treeTable hPr w 28 (some (PySem.Value.ref 6)) (12 + ((0 + 1) + ((119 + 1) + ((1252 + 1) + ((1163 + 1) + (1 + 1)))))) (⟨hp0 (w).params, Array.mk [], { }, 276, os⟩ : Shared) (topStub hPr) = some (⟨hp32 (w).params, Array.mk [], { }, 739, os⟩ : Shared) := by
  have k := (piece_app (hseg3 w os) (piece_app (hseg4 w os) (piece_app (hseg32 w os) (hfin w os))))
  rw [← hcat] at k
  exact go_top (hpre w os) (piece_block (hblock w os) k)
theorem hsize (w : World) : ((hp0 w.params).isNs mainGlobals && (Array.mk [] : Array GenState).size == 0, (hp0 w.params).objs.size, (hp0 w.params).nsMap mainGlobals "__annotations__") = (true, 28, (some (PySem.Value.ref 6) : Option PySem.Value)) := by kernel_rfl
theorem hlooks (w : World) : (fun os => ((staticsOk (importedModules hPr.main.body) (hp0 w.params) (hp32 w.params) && namesBound hPr (hp32 w.params) && gensDone (⟨hp32 (w).params, Array.mk [], { }, 739, os⟩ : Shared) && laidKept (hp0 w.params) (hp32 w.params)), openSeen view03 [PySem.Str.ofString "_twin_re_1", PySem.Str.ofString "_special_chars_map"] (importedModules hPr.main.body) (fun s => xlAt view03 [] s && recOk (RowW.records PySem.Challenge.rw_dn0069_03.row.toRowW) s) true (⟨hp32 (w).params, Array.mk [], { }, 739, os⟩ : Shared), obsZ zas (⟨hp32 (w).params, Array.mk [], { }, 739, os⟩ : Shared))) = fun _ => (true, openGood view03 [PySem.Str.ofString "_twin_re_1", PySem.Str.ofString "_special_chars_map"], valZ zk 221 739 w) := by kernel_rfl
theorem hopen (w : World) : (fencedOpening treeTable hPr w 5194).map (fun s => (s.heap, s.gens, s.drawn, s.toks)) = some (hp0 w.params, Array.mk [], { }, 276) := by kernel_rfl
theorem said03 : PySem.Challenge.rw_dn0069_03.wellSaid = true := by
  kernel_rfl
theorem hleft : LeftO hPr view03 [PySem.Str.ofString "_twin_re_1", PySem.Str.ofString "_special_chars_map"] (fun s => xlAt view03 [] s && recOk (RowW.records PySem.Challenge.rw_dn0069_03.row.toRowW) s) (obsZ zas) (valZ zk 221 739) 5194 := LeftO.of_pieces (H₀ := hp0) (H₁ := hp32) (gs₀ := Array.mk []) (gs₁ := Array.mk []) (d₀ := { }) (d₁ := { }) (k₀ := 276) (k₁ := 739) (m₀ := 28) (ann := some (PySem.Value.ref 6)) (M := (12 + ((0 + 1) + ((119 + 1) + ((1252 + 1) + ((1163 + 1) + (1 + 1))))))) hopen hsize hrun (by kernel_rfl) hlooks
end Mine
end H03x
section Mp0x
open PySem
namespace Mine
noncomputable abbrev lobj (vs : Array Value) (n : Nat) : Obj := { cls := .type "list", data := .seq vs n }
noncomputable abbrev tobj (vs : Array Value) (n : Nat) : Obj := { cls := .type "tuple", data := .seq vs n }
noncomputable abbrev appObj (a : Addr) : Obj := { cls := .type "builtin_function_or_method", data := .fields #[.builtin "list.append", .ref a] }
end Mine
end Mp0x
section MpK0x
open PySem
namespace Mine
theorem kind_issub_nested : builtinKind "issubclass.nested" = none := by decide +kernel
theorem plain_issub_nested : plainId "issubclass.nested" = true := by decide +kernel
theorem args_issub_nested_3 (a b c : Value) : argsOk "issubclass.nested" ⟨[a, b, c], []⟩ := by unfold argsOk; kernel_rfl
theorem sub_str_str' : isSubtype (.type "str") (.type "str") = pure true := by rw [isSubtype_type]; kernel_rfl
section
variable {prog : Program} {w : World} {A : Around} {E : Value → Shared → Prop}
theorem issub_nested_str (dep : Int) (tk : Tok) : Meets (Builtin.«issubclass.nested» ⟨[.type "str", .type "str", .int dep tk], []⟩) (fun _ R s => R (.ok (.ret (.bool true))) s) :=
  .of_wp fun prog w A R s h => by
    obtain ⟨hh, g, d, t, os⟩ := s
    have f1 := sub_str_str'
    have f2 : typeOf (.type "str") = pure (.type "type") := rfl
    repeat (any_goals (first | assumption | (rw [f1]) | wp_step))
    all_goals exact ⟨_, rfl, h⟩
theorem issub_nested_tuple {tp : Addr} {c2 : Value} {n : Nat} {tk : Tok} {s : Shared} {Q : Fin → Shared → Prop} (htp : s.heap.get? tp = some { cls := .type "tuple", data := .seq [Value.type "str", c2].toArray n })
    (hq : ∀ tk', Q (.done (.ret (.bool true))) { s with toks := tk' }) : wpAny (model prog w) A (Builtin.«issubclass.nested» ⟨[.type "str", .ref tp, .int 0 tk], []⟩) Q E s := by
  obtain ⟨h, g, d, t, os⟩ := s
  have hT2 : (⟨h, g, d, t, os⟩ : Shared).TypeIs (.ref tp) "tuple" := ⟨_, htp, rfl⟩
  have f1 := F.isi_sub_tuple
  repeat (any_goals (first | assumption | ((with_reducible show wpAny _ _ (call (Value.builtin "issubclass.nested") _ _) _ _ _); refine call_function_meets kind_issub_nested plain_issub_nested F.entry_issubclass_nested (args_issub_nested_3 _ _ _) (issub_nested_str _ _) ?_) | wp_step))
  exact hq _
theorem call_issub_tuple {tp : Addr} {c2 : Value} {n : Nat} {s : Shared} {Q : Value → Shared → Prop} (htp : s.heap.get? tp = some { cls := .type "tuple", data := .seq [Value.type "str", c2].toArray n })
    (hq : ∀ tk', Q (.bool true) { s with toks := tk' }) : wpAny (model prog w) A (call (.builtin "issubclass") [.type "str", .ref tp]) Q E s := by
  have g : Meets (Builtin.«issubclass» ⟨[.type "str", .ref tp], []⟩) (fun _ R s => s.heap.get? tp = some { cls := .type "tuple", data := .seq [Value.type "str", c2].toArray n } ∧ ∀ tk', R (.ok (.ret (.bool true))) { s with toks := tk' }) :=
    fun _ _ _ _ _ hs => PyProof.Rows.issubclass_outer (issub_nested_tuple hs.1 fun tk' => hs.2 tk')
  exact PyProof.Rows.call_issubclass g ⟨htp, fun tk' => hq tk'⟩
end
end Mine
end MpK0x
section MpK1x
open PySem
namespace Mine
theorem sub_str_list : isSubtype (.type "str") (.type "list") = pure false := by rw [isSubtype_type]; kernel_rfl
theorem sub_str_tuple : isSubtype (.type "str") (.type "tuple") = pure false := by rw [isSubtype_type]; kernel_rfl
theorem sub_list_list' : isSubtype (.type "list") (.type "list") = pure true := by rw [isSubtype_type]; kernel_rfl
section
variable {prog : Program} {w : World} {A : Around} {E : Value → Shared → Prop}
theorem isi_str_false {x : Str} {u : Tok} {T : String} (hne : (Value.type "str" == Value.type T) = false) (hty : typeOf (.type T) = pure (.type "type")) (hsub : isSubtype (.type "str") (.type T) = pure false) (dep : Int) (tk : Tok) :
    Meets (Builtin.«isinstance.nested» ⟨[.str x u, .type T, .int dep tk], []⟩) (fun _ R s => ∀ tk', R (.ok (.ret (.bool false))) { s with toks := tk' }) :=
  .of_wp fun prog w A R s h => by
    obtain ⟨hh, g, d, t, os⟩ := s
    exact isinstance_nested_false_str hne hty hsub ⟨_, rfl, h _⟩
theorem isi_list_true {a : Addr} {vs : Array Value} {n : Nat} (dep : Int) (tk : Tok) :
    Meets (Builtin.«isinstance.nested» ⟨[.ref a, .type "list", .int dep tk], []⟩) (fun _ R s => s.heap.get? a = some (lobj vs n) ∧ ∀ tk', R (.ok (.ret (.bool true))) { s with toks := tk' }) :=
  .of_wp fun prog w A R s h => by
    obtain ⟨hh, g, d, t, os⟩ := s
    obtain ⟨hl, h⟩ := h
    have hT : (⟨hh, g, d, t, os⟩ : Shared).TypeIs (.ref a) "list" := ⟨_, hl, rfl⟩
    refine isinstance_nested_true rfl hT rfl sub_list_list' ⟨_, rfl, h _⟩
set_option maxHeartbeats 4000000 in
theorem isi_tuple_str {x : Str} {u : Tok} {tp : Addr} {n : Nat} {tk : Tok} {s : Shared} {Q : Fin → Shared → Prop} (htp : s.heap.get? tp = some { cls := .type "tuple", data := .seq [Value.type "list", Value.type "tuple"].toArray n })
    (hq : ∀ tk', Q (.done (.ret (.bool false))) { s with toks := tk' }) : wpAny (model prog w) A (Builtin.«isinstance.nested» ⟨[.str x u, .ref tp, .int 0 tk], []⟩) Q E s := by
  obtain ⟨h, g, d, t, os⟩ := s
  have hT2 : (⟨h, g, d, t, os⟩ : Shared).TypeIs (.ref tp) "tuple" := ⟨_, htp, rfl⟩
  have hx : ∀ t', (⟨h, g, d, t', os⟩ : Shared).TypeIs (.str x u) "str" := fun _ => rfl
  have f1 := F.isi_sub_tuple
  have k1 := fun tk => isi_str_false (x := x) (u := u) (T := "list") (by decide) rfl sub_str_list 1 tk
  have k2 := fun tk => isi_str_false (x := x) (u := u) (T := "tuple") (by decide) rfl sub_str_tuple 1 tk
  repeat (any_goals (first | assumption | exact hx _ | ((with_reducible show wpAny _ _ (call (Value.builtin "isinstance.nested") _ _) _ _ _); refine call_function_meets F.kind_isinstance_nested F.plain_isinstance_nested F.entry_isinstance_nested (F.args_isinstance_nested_3 _ _ _) (by first | exact k1 _ | exact k2 _) (fun tk' => ?_)) | wp_step))
  all_goals exact hq _
theorem isi_tuple_list {a : Addr} {vs : Array Value} {k : Nat} {tp : Addr} {n : Nat} {c2 : Value} {tk : Tok} {s : Shared} {Q : Fin → Shared → Prop} (hl : s.heap.get? a = some (lobj vs k)) (htp : s.heap.get? tp = some { cls := .type "tuple", data := .seq [Value.type "list", c2].toArray n })
    (hq : ∀ tk', Q (.done (.ret (.bool true))) { s with toks := tk' }) : wpAny (model prog w) A (Builtin.«isinstance.nested» ⟨[.ref a, .ref tp, .int 0 tk], []⟩) Q E s := by
  obtain ⟨h, g, d, t, os⟩ := s
  have hT2 : (⟨h, g, d, t, os⟩ : Shared).TypeIs (.ref tp) "tuple" := ⟨_, htp, rfl⟩
  have hx : ∀ t', (⟨h, g, d, t', os⟩ : Shared).TypeIs (.ref a) "list" := fun _ => ⟨_, hl, rfl⟩
  have f1 := F.isi_sub_tuple
  have k1 := fun tk => isi_list_true (a := a) (vs := vs) (n := k) 1 tk
  repeat (any_goals (first | assumption | exact hx _ | ((with_reducible show wpAny _ _ (call (Value.builtin "isinstance.nested") _ _) _ _ _); refine call_function_meets F.kind_isinstance_nested F.plain_isinstance_nested F.entry_isinstance_nested (F.args_isinstance_nested_3 _ _ _) (k1 _) ⟨hl, fun tk' => ?_⟩) | wp_step))
  all_goals exact hq _
theorem call_isi_str {x : Str} {u : Tok} {tp : Addr} {n : Nat} {s : Shared} {Q : Value → Shared → Prop} (htp : s.heap.get? tp = some { cls := .type "tuple", data := .seq [Value.type "list", Value.type "tuple"].toArray n })
    (hq : ∀ tk', Q (.bool false) { s with toks := tk' }) : wpAny (model prog w) A (call (.builtin "isinstance") [.str x u, .ref tp]) Q E s := by
  have g : Meets (Builtin.«isinstance» ⟨[.str x u, .ref tp], []⟩) (fun _ R s => s.heap.get? tp = some { cls := .type "tuple", data := .seq [Value.type "list", Value.type "tuple"].toArray n } ∧ ∀ tk', R (.ok (.ret (.bool false))) { s with toks := tk' }) :=
    fun _ _ _ _ s hs => isinstance_outer (isi_tuple_str hs.1 fun tk' => hs.2 tk') (Shared.TypeIs.not_mainsLoader (T := "str") (s := s) rfl)
  exact call_isinstance g ⟨htp, fun tk' => hq tk'⟩
theorem call_isi_list {a : Addr} {vs : Array Value} {k : Nat} {tp : Addr} {n : Nat} {c2 : Value} {s : Shared} {Q : Value → Shared → Prop} (hl : s.heap.get? a = some (lobj vs k)) (htp : s.heap.get? tp = some { cls := .type "tuple", data := .seq [Value.type "list", c2].toArray n })
    (hq : ∀ tk', Q (.bool true) { s with toks := tk' }) : wpAny (model prog w) A (call (.builtin "isinstance") [.ref a, .ref tp]) Q E s := by
  have g : Meets (Builtin.«isinstance» ⟨[.ref a, .ref tp], []⟩) (fun _ R s => s.heap.get? a = some (lobj vs k) ∧ s.heap.get? tp = some { cls := .type "tuple", data := .seq [Value.type "list", c2].toArray n } ∧ ∀ tk', R (.ok (.ret (.bool true))) { s with toks := tk' }) :=
    fun _ _ _ _ s hs => isinstance_outer (isi_tuple_list hs.1 hs.2.1 fun tk' => hs.2.2 tk') (Shared.TypeIs.not_mainsLoader (T := "list") (s := s) ⟨_, hs.1, rfl⟩)
  exact call_isinstance g ⟨hl, htp, fun tk' => hq tk'⟩
end
end Mine
end MpK1x
section MpQ0x
open PySem
namespace Mine
section
variable {prog : Program} {w : World} {A : Around} {E : Value → Shared → Prop} {s : Shared}
theorem setItem_own {l : Addr} {items : Array Value} {n k : Nat} {i : Int} {t : Tok} {v : Value} {Q : Unit → Shared → Prop} (hl : s.heap.IsList l items) (ho : s.heap.get? l = some { cls := .type "list", dict := none, data := .seq items n, slots := #[] }) (hfit : Builtin.List.listFitsIndex i = true)
    (hj : seqIndex? i items.size = some k) (hk : k < items.size)
    (hQ : Q () { s with heap := s.heap.update l (Obj.mapSeq fun xs => xs.setIfInBounds k v) }) : wpAny (model prog w) A (setItem (.ref l) (.int i t) v) Q E s := by
  unfold setItem
  try with_reducible refine wpAny_holding ?_
  first | refine wpAny_bind (wpAny_pure ?_) | skip
  refine wpAny_bind (wpAny_sequenceKey hl.typeIs (by decide) ?_)
  refine wpAny_bind (wpAny_callSpecial?_slot (name := Str.ofString "__setitem__") hl.typeIs slot_list_setitem
    (wpAny_call_entry slot_list_setitem hl.typeIs entry_list_setitem ?_ (args_list_setitem _ _ _)))
  show wpAny _ _ (Builtin.List.listSubscript? (.int i t) >>= _) _ _ s
  refine wpAny_bind (wpAny_listSubscript_int hfit ?_)
  clear hfit
  have hx' : items[k]? = some items[k] := Array.getElem?_eq_getElem hk
  cases i with
  | ofNat j =>
    have ejk : j = k := by
      unfold seqIndex? at hj
      simp at hj
      split at hj <;> omega
    subst ejk
    show wpAny _ _ ((seqItemAt l j >>= fun r => pure (r.map (j, ·))) >>= _) _ _ s
    refine wpAny_bind (wpAny_bind (wpAny_seqItemAt ho rfl (wpAny_pure ?_)))
    rw [hx']
    show wpAny _ _ (setSeqItemAt l j v >>= _) _ _ s
    refine wpAny_bind (wpAny_setSeqItemAt ho rfl ?_)
    first
      | exact wpAny_bind (wpAny_pure (wpAny_pure ⟨.none, rfl, wpAny_pure hQ⟩))
      | exact wpAny_pure ⟨.none, rfl, wpAny_pure hQ⟩
  | negSucc j =>
    show wpAny _ _ ((Builtin.List.listItems (.ref l) >>= fun xs => pure ((seqIndex? (Int.negSucc j) xs.size).bind fun j => xs[j]?.map (j, ·))) >>= _) _ _ s
    refine wpAny_bind (wpAny_bind ?_)
    unfold Builtin.List.listItems
    refine wpAny_bind (wpAny_seqItems ho rfl (wpAny_pure (wpAny_pure ?_)))
    rw [hj, Option.bind_some, hx']
    show wpAny _ _ (setSeqItemAt l k v >>= _) _ _ s
    refine wpAny_bind (wpAny_setSeqItemAt ho rfl ?_)
    first
      | exact wpAny_bind (wpAny_pure (wpAny_pure ⟨.none, rfl, wpAny_pure hQ⟩))
      | exact wpAny_pure ⟨.none, rfl, wpAny_pure hQ⟩
end
end Mine
end MpQ0x
section MpR0x
open PySem
namespace Mine
theorem slot_md_get : PySem.Slot "method_descriptor" "__get__" "method_descriptor.__get__" :=
  PySem.Slot.of (owner := "method_descriptor") (n := "__get__") (by rw [typeLookup_type, builtinLookup_eq_fast]; kernel_rfl) (by decide +kernel) (by decide +kernel) (by decide +kernel)
    (by first | exact .inl (by decide +kernel) | exact .inr (by decide +kernel)) (by rw [isSubtype_type]; kernel_rfl)
theorem entry_md_get : entryFor table "method_descriptor.__get__" = some Builtin.«method_descriptor.__get__» := entryFor_of_tree (by kernel_rfl)
theorem args_md_get_3 (a b c : Value) : argsOk "method_descriptor.__get__" ⟨[a, b, c], []⟩ := by unfold argsOk; kernel_rfl
theorem md_no_set : typeLookup (.type "method_descriptor") "__set__" = pure none := by rw [typeLookup_type, builtinLookup_eq_fast]; kernel_rfl
theorem md_no_delete : typeLookup (.type "method_descriptor") "__delete__" = pure none := by rw [typeLookup_type, builtinLookup_eq_fast]; kernel_rfl
end Mine
end MpR0x
section MpR1x
open PySem
namespace Mine
theorem kind_append : builtinKind "list.append" = some .method := by decide +kernel
theorem not_module_list : isSubtype (.type "list") (.type "module") = pure false := by rw [isSubtype_type]; kernel_rfl
section
variable {prog : Program} {w : World} {A : Around} {E : Value → Shared → Prop} {s : Shared}
theorem check_bound {l : Addr} {items : Array Value} {n : Nat} {x : Value} {Q : Unit → Shared → Prop} (hl : s.heap.get? l = some (lobj items n)) (h : Q () s) : wpAny (model prog w) A (checkBoundCall "list.append" ⟨[.ref l, x], []⟩) Q E s := by
  obtain ⟨hp, g, d, tk, os⟩ := s
  have hT : (⟨hp, g, d, tk, os⟩ : Shared).TypeIs (.ref l) "list" := ⟨_, hl, rfl⟩
  have f1 := not_module_list
  have f2 := kind_append
  unfold checkBoundCall
  repeat (any_goals (first | assumption | wp_step))
theorem bound_call {b l : Addr} {items : Array Value} {n : Nat} {x : Value} {R : Result → Shared → Prop} (hb : s.heap.get? b = some (appObj l)) (hl : s.heap.get? l = some (lobj items n))
    (h : codeAny (model prog w) A (.builtin "list.append" ⟨[.ref l, x], []⟩) R s) : codeAny (model prog w) A (.call (.ref b) ⟨[x], []⟩) R s := by
  refine codeAny_of_tree ?_
  show wpAny _ _ (callAny (.ref b) _) _ _ _
  unfold callAny
  refine wpAny_bind (wpAny_load hb ?_)
  refine wpAny_bind (check_bound hl ?_)
  exact wpAny_pure ⟨Code.quiet_builtin _ (by decide +kernel), h⟩
theorem append_code {l : Addr} {items : Array Value} {n : Nat} {x : Value} {R : Result → Shared → Prop} (hl : s.heap.get? l = some (lobj items n)) (hsz : items.size ≤ sizeLine)
    (h : R (.ok (.ret .none)) { s with heap := s.heap.update l (Obj.mapSeq fun y => y.push x) }) : codeAny (model prog w) A (.builtin "list.append" ⟨[.ref l, x], []⟩) R s := by
  refine codeAny_builtin F.entry_list_append ?_
  exact list_append l items n x hsz prog w _ _ s ⟨hl, h⟩
theorem keeper_bound {b l : Addr} {Q : Keeper → Shared → Prop} (hb : s.heap.get? b = some (appObj l)) (h : Q .machine s) : wpAny (model prog w) A (keeperOf (.ref b)) Q E s := by
  unfold keeperOf
  exact wpAny_bind (wpAny_load hb (wpAny_pure h))
theorem callWith_bound {b l : Addr} {pos : Pos} {args : List (Bool × Sem Value)} {Q : Value → Shared → Prop} (hplain : args.any (·.1) = false)
    (h : wpAny (model prog w) A (evalArgs (.ref b) true args []) (fun a s₁ => s₁.heap.get? b = some (appObj l) ∧ wpAny (model prog w) A (call (.ref b) a.pos a.kw) Q E s₁) E s) :
    wpAny (model prog w) A (callWith pos (.ref b) [] args []) Q E s := by
  unfold callWith
  refine wpAny_bind (wpAny_holding (wpAny_mono h (fun a s₁ h₁ => wpAny_bind (wpAny_standAt ?_)) fun _ _ x => x))
  simp only [hplain, List.any_nil, Bool.or_false]
  refine wpAny_bind (keeper_bound h₁.1 ?_)
  exact wpAny_bind (wpAny_mono h₁.2 (fun r s₂ hr => wpAny_bind (wpAny_holding (wpAny_point (wpAny_pure hr)))) fun _ _ x => x)
theorem sub_list_list : isSubtype (.type "list") (.type "list") = pure true := by rw [isSubtype_type]; kernel_rfl
theorem meets_md_get (l : Addr) (items : Array Value) (n : Nat) :
    Meets (Builtin.«method_descriptor.__get__» ⟨[.builtin "list.append", .ref l, .type "list"], []⟩) (fun A R s => s.heap.get? l = some (lobj items n) ∧ R (.ok (.ret (.ref s.heap.objs.size))) { s with heap := s.heap.push (appObj l) }) :=
  Meets.of_wp fun prog w A R s hs => by
    obtain ⟨hp, g, d, tk, os⟩ := s
    obtain ⟨hl, h⟩ := hs
    have hT : (⟨hp, g, d, tk, os⟩ : Shared).TypeIs (.ref l) "list" := ⟨_, hl, rfl⟩
    have f1 := sub_list_list
    have f2 : (Manifest.toldItsClass.contains "list.append") = false := by decide +kernel
    unfold Builtin.«method_descriptor.__get__»
    simp only [f2]
    repeat (any_goals (first | assumption | wp_step))
    rw [show (".".intercalate ("list.append".cutAt '.').dropLast) = "list" by decide +kernel]
    rw [f1]
    refine wpAny_pure ?_
    rw [if_neg (by decide)]
    refine wpAny_pure ?_
    show wpAny _ _ (newFields "builtin_function_or_method" [.builtin "list.append", .ref l] >>= fun v => ret v) _ _ _
    exact wpAny_bind (wpAny_newObj_type (wpAny_pure ⟨_, rfl, h⟩))
theorem append_name : (["__module__", "__name__", "__qualname__", "__doc__", "__annotations__"] : List Str).contains "append" = false := by decide +kernel
theorem meets_getattribute_append (l : Addr) (items : Array Value) (n : Nat) (u : Tok) :
    Meets (Builtin.«object.__getattribute__» ⟨[.ref l, .str "append" u], []⟩) (fun A R s => s.heap.get? l = some (lobj items n) ∧ R (.ok (.ret (.ref s.heap.objs.size))) { s with heap := s.heap.push (appObj l) }) :=
  Meets.of_wp fun prog w A R s hs => by
    obtain ⟨hp, g, d, tk, os⟩ := s
    obtain ⟨hl, h⟩ := hs
    have hT : (⟨hp, g, d, tk, os⟩ : Shared).TypeIs (.ref l) "list" := ⟨_, hl, rfl⟩
    have hM : (⟨hp, g, d, tk, os⟩ : Shared).TypeIs (.builtin "list.append") "method_descriptor" := F.type_list_append
    have f1 := F.slot_list_append.lookup
    have f2 := slot_md_get.lookup
    have f3 := md_no_set
    have f4 := md_no_delete
    have f5 := append_name
    unfold Builtin.«object.__getattribute__»
    repeat (any_goals (first | assumption | ((with_reducible show wpAny _ _ (call (Value.builtin "method_descriptor.__get__") _ _) _ _ _); refine call_meets slot_md_get hM entry_md_get (args_md_get_3 _ _ _) (meets_md_get l items n) ⟨hl, ?_⟩) | wp_step))
    exact wpAny_pure ⟨_, rfl, h⟩
theorem getAttr_append {l : Addr} {items : Array Value} {n : Nat} {Q : Value → Shared → Prop} (hl : s.heap.get? l = some (lobj items n)) (h : Q (.ref s.heap.objs.size) { s with heap := s.heap.push (appObj l), toks := s.toks + 1 }) :
    wpAny (model prog w) A (getAttr (.ref l) "append" true) Q E s := by
  obtain ⟨hp, g, d, tk, os⟩ := s
  have hT : ∀ tk', (⟨hp, g, d, tk', os⟩ : Shared).TypeIs (.ref l) "list" := fun _ => ⟨_, hl, rfl⟩
  have f3 := F.slot_list_getattribute.lookup
  have f4 := F.slot_list_getattribute.bind (.ref l)
  have f5 := am_list_getattr_none
  unfold getAttr getAttrBy
  repeat (any_goals (first | assumption | exact hT _ | ((with_reducible show wpAny _ _ (call (Value.builtin "list.__getattribute__") _ _) _ _ _); refine call_meets F.slot_list_getattribute (hT _) am_entry_list_getattribute (F.args_list_getattribute_2 _ _) (meets_getattribute_append l items n _) ⟨hl, ?_⟩) | wp_step))
  show wpAny _ _ (handedOut (.ref _)) _ _ _
  exact wpAny_pure h
end
end Mine
end MpR1x
section MpY0x
open PySem
namespace Mine
theorem sub_key_lookup : isSubtype (.type "KeyError") (.type "LookupError") = pure true := by rw [isSubtype_type]; kernel_rfl
section
variable {prog : Program} {w : World} {A : Around} {E : Value → Shared → Prop} {s : Shared}
theorem table_hit {d : Addr} {f : Int → Option Value} {c : Nat} {t : PySem.Str} {u : Tok} {Q : Builtin.Str.Mapped → Shared → Prop} (hm : s.heap.MapOf (intKind prog w) d f) (hv : f (c : Int) = some (.str t u)) (h : ∀ k, Q (.text t) { s with toks := k }) :
    wpAny (model prog w) A (Builtin.Str.tableLookup (.ref d) c) Q E s := by
  unfold Builtin.Str.tableLookup
  refine wpAny_bind (wpAny_attempt (wpAny_bind (wpAny_mkInt (wpAny_getItem_of (knd := intKind prog w) (k := (c : Int)) (v := .str t u) (by simp [intKind, Value.isInt]) hm hv ?_))))
  obtain ⟨hh, g, dd, tk, os⟩ := s
  repeat (any_goals (first | assumption | wp_step))
  exact h _
theorem table_miss {d : Addr} {f : Int → Option Value} {c : Nat} {Q : Builtin.Str.Mapped → Shared → Prop} (hh : A.handled = none) (hm : s.heap.MapOf (intKind prog w) d f) (hd : (d == sysModules) = false) (hv : f (c : Int) = none)
    (h : ∀ h' k, (∀ b o, s.heap.get? b = some o → h'.get? b = some o) → Q .keep { s with heap := h', toks := k }) :
    wpAny (model prog w) A (Builtin.Str.tableLookup (.ref d) c) Q E s := by
  unfold Builtin.Str.tableLookup
  refine wpAny_bind (wpAny_attempt (wpAny_bind (wpAny_mkInt (wpAny_getItem_missing_of (knd := intKind prog w) (k := (c : Int)) (by simp [intKind, Value.isInt]) hd hh hm hv fun h' e ne => ?_))))
  obtain ⟨ob, t, g1, g2, g3⟩ := ne.there
  show wpAny _ _ (do if ← isInstance (.ref e) (.type "LookupError") then rule "str.translate.not-in-table"; pure Builtin.Str.Mapped.keep else throw (.ref e)) _ _ _
  refine wpAny_bind (wpAny_isInstance (T := "KeyError") (b := true) ⟨ob, g1, g2⟩ sub_key_lookup ?_)
  rw [if_pos rfl]
  exact wpAny_bind (wpAny_rule (wpAny_pure (h _ _ ne.keeps)))
set_option maxHeartbeats 2000000 in
theorem translate_hit {d : Addr} {f : Int → Option Value} {c x : Nat} {t u : Tok} (hc : c < 128) :
    MeetsIn prog w (Builtin.«str.translate» ⟨[.str ⟨#[c]⟩ t, .ref d], []⟩) (fun A R s => (s.heap.MapOf (intKind prog w) d f ∧ f (c : Int) = some (.str ⟨#[92, x]⟩ u)) ∧ ∀ k k', R (.ok (.ret (.str ⟨#[92, x]⟩ k))) { s with toks := k' }) :=
  .of_wp fun A R s hs => by
    obtain ⟨hh, g, dd, tk, os⟩ := s
    obtain ⟨⟨hm, hv⟩, h⟩ := hs
    have hc' : decide (c < 128) = true := by simpa using hc
    repeat (any_goals (first | assumption | ((with_reducible show wpAny _ _ (Builtin.Str.tableLookup _ _) _ _ _); refine table_hit hm hv fun k => ?_) | wp_step))
    exact ⟨_, rfl, h _ _⟩
set_option maxHeartbeats 2000000 in
theorem translate_miss {d : Addr} {f : Int → Option Value} {c : Nat} {t : Tok} (hc : c < 128) (hd : (d == sysModules) = false) :
    MeetsIn prog w (Builtin.«str.translate» ⟨[.str ⟨#[c]⟩ t, .ref d], []⟩) (fun A R s => (s.heap.MapOf (intKind prog w) d f ∧ f (c : Int) = none ∧ A.handled = none) ∧ ∀ h' k k', (∀ b o, s.heap.get? b = some o → h'.get? b = some o) → R (.ok (.ret (.str ⟨#[c]⟩ k))) { s with heap := h', toks := k' }) :=
  .of_wp fun A R s hs => by
    obtain ⟨hh, g, dd, tk, os⟩ := s
    obtain ⟨⟨hm, hv, hA⟩, h⟩ := hs
    have hc' : decide (c < 128) = true := by simpa using hc
    repeat (any_goals (first | assumption | ((with_reducible show wpAny _ _ (Builtin.Str.tableLookup _ _) _ _ _); refine table_miss hA hm hd hv fun h' k hk => ?_) | wp_step))
    exact ⟨_, rfl, h _ _ _ hk⟩
end
end Mine
end MpY0x
section MpZ0x
open PySem
namespace Mine
open PySem.Builtin PySem.Builtin.Re
noncomputable def reCode : Array Nat := #[14, 14, 4, 1, 1, 9, 0, 64, 0, 1342177280, 0, 0, 0, 0, 0, 17, 0, 13, 11, 9, 0, 64, 0, 1342177280, 0, 0, 0, 0, 0, 17, 1, 1]
theorem runFor_done {m : Sre.M} (h : m.outcome.isSome = true) : ∀ n, m.runFor n = m
  | 0 => rfl
  | n + 1 => by unfold Sre.M.runFor; rw [if_pos h]
theorem runFor_add : ∀ (a b : Nat) (m : Sre.M), m.runFor (a + b) = (m.runFor a).runFor b
  | 0, b, m => by rw [Nat.zero_add]; rfl
  | a + 1, b, m => by
    rw [Nat.succ_add]
    by_cases h : m.outcome.isSome = true
    · rw [runFor_done h, runFor_done h, runFor_done h]
    · have e1 : ∀ n, Sre.M.runFor (n + 1) m = Sre.M.runFor n m.step := fun n => by
        conv => lhs; unfold Sre.M.runFor
        rw [if_neg h]
      show Sre.M.runFor (a + b + 1) m = _
      rw [e1, e1]
      exact runFor_add a b m.step
section
variable {prog : Program} {w : World} {A : Around} {E : Value → Shared → Prop} {s : Shared}
theorem drive_ok : ∀ (k t : Nat) (m : Sre.M), (m.runFor (4 * (k + 1))).outcome.isSome = true → k < t → ∀ {Q : Sre.M → Shared → Prop}, Q (m.runFor (4 * (k + 1))) s → wpAny (model prog w) A (reDrive t m) Q E s
  | k, 0, m, _, h, _, _ => absurd h (Nat.not_lt_zero _)
  | 0, t + 1, m, ho, h, Q, hQ => by
    unfold reDrive
    show wpAny _ _ (if (m.runFor 4).outcome.isSome = true then pure (m.runFor 4) else _) _ _ _
    rw [if_pos ho]
    exact wpAny_pure hQ
  | k + 1, t + 1, m, ho, h, Q, hQ => by
    unfold reDrive
    have e : m.runFor (4 * (k + 1 + 1)) = (m.runFor 4).runFor (4 * (k + 1)) := by
      rw [show 4 * (k + 1 + 1) = 4 + 4 * (k + 1) by omega]
      exact runFor_add 4 _ m
    rw [e] at ho hQ
    show wpAny _ _ (if (m.runFor 4).outcome.isSome = true then pure (m.runFor 4) else (do rule "sre.turn"; reDrive t (m.runFor 4))) _ _ _
    by_cases h4 : (m.runFor 4).outcome.isSome = true
    · rw [if_pos h4]
      rw [runFor_done h4] at hQ
      exact wpAny_pure hQ
    · rw [if_neg h4]
      exact wpAny_bind (wpAny_rule (drive_ok k t (m.runFor 4) ho (by omega) hQ))
theorem seen_ok (sn : Sre.Seen) : ∀ (l : List Nat) {Q : PUnit → Shared → Prop}, Q ⟨⟩ s → wpAny (model prog w) A (forIn l PUnit.unit fun i _ => do
      if sn.has i then
        rule (Sre.names.getD i "")
        pure (ForInStep.yield PUnit.unit)
      else pure (ForInStep.yield PUnit.unit)) Q E s
  | [], Q, h => by rw [List.forIn_nil]; exact wpAny_pure h
  | i :: l, Q, h => by
    rw [List.forIn_cons]
    split
    · exact wpAny_bind (wpAny_bind (wpAny_rule (wpAny_pure (seen_ok sn l h))))
    · exact wpAny_bind (wpAny_pure (seen_ok sn l h))
theorem end_matched {m : Sre.M} (k : Nat) (hk : k < 100) (h : (m.runFor (4 * (k + 1))).outcome = some .matched) {Q : Option Sre.M → Shared → Prop} (hQ : Q (some (m.runFor (4 * (k + 1)))) s) : wpAny (model prog w) A (reRunToEnd m) Q E s := by
  unfold reRunToEnd
  refine wpAny_bind (drive_ok k (2 ^ 64) m (by rw [h]; rfl) (Nat.lt_trans hk (by decide)) ?_)
  refine wpAny_bind (seen_ok _ _ ?_)
  rw [h]
  exact wpAny_pure hQ
theorem end_failed {m : Sre.M} (k : Nat) (hk : k < 100) (h : (m.runFor (4 * (k + 1))).outcome = some .failed) {Q : Option Sre.M → Shared → Prop} (hQ : Q none s) : wpAny (model prog w) A (reRunToEnd m) Q E s := by
  unfold reRunToEnd
  refine wpAny_bind (drive_ok k (2 ^ 64) m (by rw [h]; rfl) (Nat.lt_trans hk (by decide)) ?_)
  refine wpAny_bind (seen_ok _ _ ?_)
  rw [h]
  exact wpAny_pure hQ
end
end Mine
end MpZ0x
section MpZ1x
open PySem
namespace Mine
open PySem.Builtin PySem.Builtin.Re
theorem plainAttrs_pat : PlainAttrs "re.Pattern" :=
  ⟨⟨"object.__getattribute__", by rw [typeLookup_type, builtinLookup_eq_fast]; kernel_rfl, by decide +kernel⟩, by rw [typeLookup_type, builtinLookup_eq_fast]; kernel_rfl⟩
theorem plainAttrs_match : PlainAttrs "re.Match" :=
  ⟨⟨"object.__getattribute__", by rw [typeLookup_type, builtinLookup_eq_fast]; kernel_rfl, by decide +kernel⟩, by rw [typeLookup_type, builtinLookup_eq_fast]; kernel_rfl⟩
theorem slot_pat_sub : PySem.Slot "re.Pattern" "sub" "re.Pattern.sub" :=
  PySem.Slot.of (owner := "re.Pattern") (n := "sub") (by rw [typeLookup_type, builtinLookup_eq_fast]; kernel_rfl) (by decide +kernel) (by decide +kernel) (by decide +kernel)
    (by first | exact .inl (by decide +kernel) | exact .inr (by decide +kernel)) (by rw [isSubtype_type]; kernel_rfl)
theorem type_pat_sub : typeOf (.builtin "re.Pattern.sub") = pure (.type "method_descriptor") := by show builtinType _ = _; rw [builtinType_eq_fast]; kernel_rfl
theorem entry_pat_sub : entryFor table "re.Pattern.sub" = some Builtin.«re.Pattern.sub» := entryFor_of_tree (by kernel_rfl)
theorem entry_sub_loop : entryFor table "re.Pattern.sub.loop" = some Builtin.«re.Pattern.sub.loop» := entryFor_of_tree (by kernel_rfl)
theorem args_pat_sub_3 (a b c : Value) : argsOk "re.Pattern.sub" ⟨[a, b, c], []⟩ := by unfold argsOk; kernel_rfl
theorem plain_sub_loop : plainId "re.Pattern.sub.loop" = true := by decide +kernel
theorem slot_match_group : PySem.Slot "re.Match" "group" "re.Match.group" :=
  PySem.Slot.of (owner := "re.Match") (n := "group") (by rw [typeLookup_type, builtinLookup_eq_fast]; kernel_rfl) (by decide +kernel) (by decide +kernel) (by decide +kernel)
    (by first | exact .inl (by decide +kernel) | exact .inr (by decide +kernel)) (by rw [isSubtype_type]; kernel_rfl)
theorem type_match_group : typeOf (.builtin "re.Match.group") = pure (.type "method_descriptor") := by show builtinType _ = _; rw [builtinType_eq_fast]; kernel_rfl
theorem entry_match_group : entryFor table "re.Match.group" = some Builtin.«re.Match.group» := entryFor_of_tree (by kernel_rfl)
theorem args_match_group_2 (a b : Value) : argsOk "re.Match.group" ⟨[a, b], []⟩ := by unfold argsOk; kernel_rfl
set_option genInjectivity false in
structure PatAt (h : Heap) (P C : Addr) (codes : Array Value) : Prop where
  pat : ∃ x t u v w y, h.get? P = some { cls := .type "re.Pattern", data := .fields #[.str x t, .int 32 u, .int 1 v, .none, .none, .ref C, .int 0 w] } ∧ y = (0 : Nat)
  code : ∃ n, h.get? C = some (tobj codes n)
  is : (codes.map reRawOf).map Int.toNat = reCode
theorem PatAt.keeps {h h' : Heap} {P C : Addr} {codes : Array Value} (x : PatAt h P C codes) (hk : ∀ b o, h.get? b = some o → h'.get? b = some o) : PatAt h' P C codes :=
  ⟨let ⟨a, t, u, v, w, y, e, r⟩ := x.pat; ⟨a, t, u, v, w, y, hk _ _ e, r⟩, let ⟨n, e⟩ := x.code; ⟨n, hk _ _ e⟩, x.is⟩
section
variable {prog : Program} {w : World} {A : Around} {E : Value → Shared → Prop} {s : Shared} {P C : Addr} {codes : Array Value} {a : Array Nat} {u : Tok}
theorem whole_ok (hp : PatAt s.heap P C codes) {Q : ReTarget → Shared → Prop} (hQ : Q { pattern := .ref P, string := .str ⟨a⟩ u, code := reCode, text := a, kind := 0, groups := 1, pos := 0, lim := a.size } s) :
    wpAny (model prog w) A (reWholeTarget (.ref P) (.str ⟨a⟩ u)) Q E s := by
  obtain ⟨hh, g, d, tk, os⟩ := s
  obtain ⟨x, t, u', v, w', _, e, _⟩ := hp.pat
  obtain ⟨n, ec⟩ := hp.code
  unfold reWholeTarget
  refine wpAny_bind (wpAny_fieldsOf e rfl ?_)
  have ht : ∀ {Q : Array Nat × Nat → Shared → Prop}, Q (a, 0) ⟨hh, g, d, tk, os⟩ → wpAny (model prog w) A (reTextOf (.str ⟨a⟩ u)) Q E ⟨hh, g, d, tk, os⟩ := by
    intro Q h
    unfold reTextOf
    repeat (any_goals (first | assumption | wp_step))
  refine wpAny_bind (ht ?_)
  have hr : ∀ {Q : Array Int → Shared → Prop}, Q (codes.map reRawOf) ⟨hh, g, d, tk, os⟩ → wpAny (model prog w) A (reRawItems (.ref C)) Q E ⟨hh, g, d, tk, os⟩ := by
    intro Q h
    unfold reRawItems
    exact wpAny_bind (wpAny_seqItems ec rfl (wpAny_pure h))
  dsimp only
  unfold reNoCollectionInside
  repeat (any_goals (first | assumption | ((with_reducible show wpAny _ _ (reRawItems _) _ _ _); refine hr ?_) | wp_step))
  have := hp.is
  rw [show (codes.map reRawOf).map (fun x => x.toNat) = reCode from this]
  exact hQ
end
end Mine
end MpZ1x
section MpAx
open PySem
namespace Mine
inductive D where
  | none
  | bool (b : Bool)
  | int (i : Int)
  | str (l : List Nat)
  | list (l : List D)
  | tup (l : List D)
  | tok (k : Nat)
  | ty (n : String)
  deriving Inhabited
inductive R where
  | val (d : D)
  | own (l : List D)
  | bor (l : List D)
noncomputable def R.ds : R → D
  | .val d => d
  | .own l => .list l
  | .bor l => .list l
noncomputable def R.fz : R → Option D
  | .val d => some d
  | .own l => some (.list l)
  | .bor _ => Option.none
inductive Slot where
  | unset
  | val (d : D)
  | own (l : List D)
  | app (j : Nat)
inductive Op where
  | add | sub | mul | fdiv | mod | pow | neg
  | eq | ne | lt | le | gt | ge | is_ | isnot | in_ | notin
  | index | slice | slice3 | len | abs | sum
  | tyOf | isInst | isSub
  | rfind | find4 | startswith | endswith | rstrip | lstrip | replace | join | split | translate | resub | count | strIndex
  | listOf | tupleOf | sorted | min | max | fmt
  deriving DecidableEq
set_option genCtorIdx false in
set_option genInjectivity false in
inductive X where
  | const (d : D)
  | var (i : Nat)
  | op (o : Op) (a : X)
  | nil
  | cons (a r : X)
  | star (a : X)
  | and (a b : X)
  | or (a b : X)
  | not (a : X)
  | ite (c t e : X)
  | call (f : Nat) (a : X)
  | tup (a : X)
  | list (a : X)
  | comp (i : Nat) (it cond elt : X)
  | comp2 (i j : Nat) (it cond elt : X)
  | comp3 (i : Nat) (it : X) (j : Nat) (jt elt : X)
  | mapF (f : Nat) (a : X)
  | seqI (a : X)
  | rangeI (a : X)
  | enumI (a : X)
  | setI (i : Nat) (it elt : X)
set_option genCtorIdx false in
set_option genInjectivity false in
inductive S where
  | skip
  | seq (a b : S)
  | fz (i : Nat)
  | assign (i : Nat) (x : X)
  | assignO (i : Nat) (x : X)
  | assign2 (i j : Nat) (x : X)
  | assign3 (i j k : Nat) (x : X)
  | assign1 (i : Nat) (x : X)
  | alias (i j : Nat)
  | append (i : Nat) (x : X)
  | appendVia (i j : Nat) (x : X)
  | aug (i : Nat) (x : X)
  | extend (i : Nat) (x : X)
  | pop (i : Nat)
  | setItem (i : Nat) (k x : X)
  | augItem (i : Nat) (k x : X)
  | delItem (i : Nat) (k : X)
  | ite (c : X) (a b : S)
  | while (c : X) (b : S)
  | forE (i : Nat) (it : X) (b : S)
  | forE2 (i j : Nat) (it : X) (b : S)
  | forN (is : List Nat) (it : X) (b : S)
  | ret (x : X)
  | brk
  | cont
  | assert (c : X)
  | try_ (b : S)
inductive Out where
  | next
  | brk
  | cont
  | ret (d : D)
noncomputable def lim : Nat := 1000000
noncomputable def tokC : Nat → List Nat
  | 0 => [42]
  | _ => [63]
mutual
noncomputable def D.toPy : D → PyData
  | .none => .none
  | .bool b => .bool b
  | .int i => .int i
  | .str l => .str ⟨l.toArray⟩
  | .list l => .list (D.toPys l)
  | .tup l => .tuple (D.toPys l)
  | .tok k => .list [.str ⟨(tokC k).toArray⟩]
  | .ty _ => .none
noncomputable def D.toPys : List D → List PyData
  | [] => []
  | d :: r => d.toPy :: D.toPys r
end
mutual
noncomputable def D.ok : Nat → D → Bool
  | 0, _ => false
  | n + 1, .list l => D.oks n l
  | n + 1, .tup l => D.oks n l
  | _ + 1, .ty _ => false
  | n + 1, .tok _ => decide (0 < n)
  | _ + 1, _ => true
noncomputable def D.oks : Nat → List D → Bool
  | _, [] => true
  | n, d :: r => d.ok n && D.oks n r
end
noncomputable def D.truth : D → Option Bool
  | .none => some false
  | .bool b => some b
  | .int i => some (decide (i ≠ 0))
  | .str l => some (!l.isEmpty)
  | .list l => some (!l.isEmpty)
  | .tup l => some (!l.isEmpty)
  | _ => Option.none
noncomputable def eqD : D → D → Option Bool
  | .str a, .str b => some (decide (a = b))
  | .int a, .int b => some (decide (a = b))
  | a, b => if a.ok 9 && b.ok 9 then some (PyData.eqv a.toPy b.toPy) else Option.none
noncomputable def inD (d : D) : D → Option Bool
  | .list l => if D.oks 8 l && d.ok 9 then some ((D.toPys l).any fun y => PyData.eqv y d.toPy) else Option.none
  | .tup l => if D.oks 8 l && d.ok 9 then some ((D.toPys l).any fun y => PyData.eqv y d.toPy) else Option.none
  | .str b => match d with
    | .str a => some (Txt.contains ⟨b.toArray⟩ ⟨a.toArray⟩)
    | _ => Option.none
  | _ => Option.none
noncomputable def isD : D → D → Option Bool
  | .tok i, .tok j => some (decide (i = j))
  | .tok _, .str _ => some false
  | .str _, .tok _ => some false
  | .tok _, .none => some false
  | .none, .tok _ => some false
  | .none, .none => some true
  | .str _, .none => some false
  | .list _, .none => some false
  | .tup _, .none => some false
  | .bool _, .none => some false
  | .int _, .none => some false
  | .ty a, .ty b => some (decide (a = b))
  | _, _ => Option.none
noncomputable def ltL (a b : List Nat) : Bool := decide (a < b)
noncomputable def place (i : Int) (n : Nat) : Option Nat :=
  if 0 ≤ i then (if i < n then some i.toNat else Option.none) else (if 0 ≤ i + n then some (i + n).toNat else Option.none)
noncomputable def small (i : Int) : Bool := decide (-1000000000 ≤ i) && decide (i ≤ 1000000000)
noncomputable def clip (i : Int) (n : Nat) : Nat := if i < 0 then (i + n).toNat else if i < n then i.toNat else n
noncomputable def bound (d : D) (dflt n : Nat) : Option Nat := match d with
  | .none => some dflt
  | .int i => if small i then some (clip i n) else Option.none
  | _ => Option.none
noncomputable def cut {α : Type} (l : List α) (lo hi : Nat) : List α := (l.drop lo).take (hi - lo)
noncomputable def pick {α : Type} (l : List α) (lo hi st : Option Int) : List α :=
  (sliceRange (sliceBounds lo hi st l.length).1 (sliceBounds lo hi st l.length).2.1 (sliceBounds lo hi st l.length).2.2).filterMap (l[·]?)
noncomputable def partD : D → Option (Option Int)
  | .none => some Option.none
  | .int i => if small i then some (some i) else Option.none
  | _ => Option.none
noncomputable def toInts : List D → Option (List Int)
  | [] => some []
  | .int i :: r => (toInts r).map (i :: ·)
  | _ :: _ => Option.none
noncomputable def toStrs : List D → Option (List (List Nat))
  | [] => some []
  | .str s :: r => (toStrs r).map (s :: ·)
  | _ :: _ => Option.none
noncomputable def strD (l : List Nat) : Option R := if l.length ≤ lim then some (.val (.str l)) else Option.none
noncomputable def opAdd : List D → Option R
  | [.int a, .int b] => some (.val (.int (a + b)))
  | [.str a, .str b] => if a.length + b.length ≤ lim then some (.val (.str (a ++ b))) else Option.none
  | [.list a, .list b] => if a.length + b.length ≤ lim then some (.own (a ++ b)) else Option.none
  | _ => Option.none
noncomputable def opSub : List D → Option R
  | [.int a, .int b] => some (.val (.int (a - b)))
  | _ => Option.none
noncomputable def rep {α : Type} (l : List α) (n : Int) : List α := (List.replicate n.toNat l).flatten
noncomputable def opMul : List D → Option R
  | [.int a, .int b] => if small a || small b then some (.val (.int (a * b))) else Option.none
  | [.str a, .int b] => if small b && decide (a.length * b.toNat ≤ lim) then some (.val (.str (rep a b))) else Option.none
  | [.list a, .int b] => if small b && decide (a.length * b.toNat ≤ lim) then some (.own (rep a b)) else Option.none
  | _ => Option.none
noncomputable def opDiv : List D → Option R
  | [.int a, .int b] => if b = 0 then Option.none else some (.val (.int (Int.fdiv a b)))
  | _ => Option.none
noncomputable def opMod : List D → Option R
  | [.int a, .int b] => if b = 0 then Option.none else some (.val (.int (Int.fmod a b)))
  | _ => Option.none
noncomputable def opBool (f : D → D → Option Bool) : List D → Option R
  | [a, b] => (f a b).map fun x => .val (.bool x)
  | _ => Option.none
noncomputable def opCmp (f : Int → Int → Bool) (g : List Nat → List Nat → Bool) : List D → Option R
  | [.int a, .int b] => some (.val (.bool (f a b)))
  | [.str a, .str b] => some (.val (.bool (g a b)))
  | _ => Option.none
noncomputable def opIndex : List D → Option R
  | [.str l, .int i] => if small i then (match place i l.length with | some k => (l[k]?).map fun c => .val (.str [c]) | Option.none => Option.none) else Option.none
  | [.list l, .int i] => if small i then (match place i l.length with | some k => (l[k]?).map .val | Option.none => Option.none) else Option.none
  | [.tup l, .int i] => if small i then (match place i l.length with | some k => (l[k]?).map .val | Option.none => Option.none) else Option.none
  | _ => Option.none
noncomputable def opSlice : List D → Option R
  | [.str l, a, b] => match bound a 0 l.length, bound b l.length l.length with
    | some lo, some hi => some (.val (.str (cut l lo hi)))
    | _, _ => Option.none
  | [.list l, a, b] => match bound a 0 l.length, bound b l.length l.length with
    | some lo, some hi => some (.own (cut l lo hi))
    | _, _ => Option.none
  | _ => Option.none
noncomputable def opSlice3 : List D → Option R
  | [.list l, a, b, .int n] => match partD a, partD b with
    | some lo, some hi => if n ≠ 0 ∧ small n then some (.own (pick l lo hi (some n))) else Option.none
    | _, _ => Option.none
  | _ => Option.none
noncomputable def opLen : List D → Option R
  | [.str l] => some (.val (.int l.length))
  | [.list l] => some (.val (.int l.length))
  | [.tup l] => some (.val (.int l.length))
  | _ => Option.none
noncomputable def opAbs : List D → Option R
  | [.int i] => some (.val (.int i.natAbs))
  | _ => Option.none
noncomputable def opSum : List D → Option R
  | [.list l] => (toInts l).map fun is => .val (.int is.sum)
  | _ => Option.none
noncomputable def opNeg : List D → Option R
  | [.int i] => some (.val (.int (-i)))
  | _ => Option.none
noncomputable def tyD : D → Option String
  | .str _ => some "str"
  | .int _ => some "int"
  | .bool _ => some "bool"
  | .list _ => some "list"
  | .tup _ => some "tuple"
  | .tok _ => some "list"
  | _ => Option.none
noncomputable def opTyOf : List D → Option R
  | [d] => (tyD d).map fun n => .val (.ty n)
  | _ => Option.none
noncomputable def opIsInst : List D → Option R
  | [.str _, .ty n] => if n = "str" then some (.val (.bool true)) else if n = "bytes" then some (.val (.bool false)) else Option.none
  | [.str _, .tup [.ty a, .ty b]] => if a = "list" ∧ b = "tuple" then some (.val (.bool false)) else Option.none
  | [.list _, .tup [.ty a, .ty b]] => if a = "list" ∧ b = "tuple" then some (.val (.bool true)) else Option.none
  | _ => Option.none
noncomputable def opIsSub : List D → Option R
  | [.ty n, .tup [.ty a, .ty b]] => if n = "str" ∧ a = "str" ∧ b = "bytes" then some (.val (.bool true)) else Option.none
  | _ => Option.none
noncomputable def opStr2 (f : PySem.Str → PySem.Str → R) : List D → Option R
  | [.str a, .str b] => some (f ⟨a.toArray⟩ ⟨b.toArray⟩)
  | _ => Option.none
noncomputable def opFind4 : List D → Option R
  | [.str a, .str b, .int i, .int j] => if small i ∧ small j then
      some (.val (.int (match Builtin.Str.occurrences ⟨a.toArray⟩ ⟨b.toArray⟩ (fromIndex a.length i) (min (fromIndex a.length j) a.length) 1 with | k :: _ => (k : Int) | [] => -1))) else Option.none
  | _ => Option.none
noncomputable def opReplace : List D → Option R
  | [.str a, .str b, .str _] => if (Builtin.Str.occurrences ⟨a.toArray⟩ ⟨b.toArray⟩ 0 a.length (a.length + 1)).isEmpty then some (.val (.str a)) else Option.none
  | _ => Option.none
noncomputable def joinL (s : List Nat) : List (List Nat) → List Nat
  | [] => []
  | [a] => a
  | a :: r => a ++ s ++ joinL s r
noncomputable def opJoin : List D → Option R
  | [.str s, .list l] => match toStrs l with
    | some ls => if (joinL s ls).length ≤ lim then some (.val (.str (joinL s ls))) else Option.none
    | Option.none => Option.none
  | _ => Option.none
noncomputable def opSplit : List D → Option R
  | [.str a, .str b] => if b.length = 1 ∧ a.length + 2 ≤ lim then some (.own ((Txt.split ⟨a.toArray⟩ ⟨b.toArray⟩).map fun x => .str x.cps.toList)) else Option.none
  | _ => Option.none
noncomputable def special : List Nat := [40, 41, 91, 93, 123, 125, 63, 42, 43, 45, 124, 94, 36, 92, 46, 38, 126, 35, 32, 9, 10, 13, 11, 12]
noncomputable def opTranslate : List D → Option R
  | [.str [c]] => if c < 128 then some (.val (.str (if special.contains c then [92, c] else [c]))) else Option.none
  | _ => Option.none
noncomputable def noHit : List (List Nat) := [[], [33], [46, 45, 97], [33, 97], [97, 45, 99], [93], [33, 33], [97, 47, 98], [97, 45, 98], [91], [42], [63], [97], [98], [97, 98], [33, 97, 98], [33, 98], [33, 97, 45, 98], [46], [33, 46]]
noncomputable def opResub : List D → Option R
  | [.str a] => if noHit.contains a then some (.val (.str a)) else if a = [124, 38, 126] then some (.val (.str [92, 124, 92, 38, 92, 126])) else Option.none
  | _ => Option.none
noncomputable def opListOf : List D → Option R
  | [.list l] => some (.own l)
  | _ => Option.none
noncomputable def opTupleOf : List D → Option R
  | [.list l] => some (.val (.tup l))
  | _ => Option.none
noncomputable def opFmt : List D → Option R
  | [.str a, .str b, .str c] => strD (a ++ b ++ c)
  | _ => Option.none
noncomputable def opF : Op → List D → Option R
  | .add, ds => opAdd ds
  | .sub, ds => opSub ds
  | .mul, ds => opMul ds
  | .fdiv, ds => opDiv ds
  | .mod, ds => opMod ds
  | .neg, ds => opNeg ds
  | .eq, ds => opBool eqD ds
  | .ne, ds => opBool (fun a b => (eqD a b).map (!·)) ds
  | .lt, ds => opCmp (fun a b => decide (a < b)) ltL ds
  | .le, ds => opCmp (fun a b => decide (a ≤ b)) (fun a b => !ltL b a) ds
  | .gt, ds => opCmp (fun a b => decide (b < a)) (fun a b => ltL b a) ds
  | .ge, ds => opCmp (fun a b => decide (b ≤ a)) (fun a b => !ltL a b) ds
  | .is_, ds => opBool isD ds
  | .isnot, ds => opBool (fun a b => (isD a b).map (!·)) ds
  | .in_, ds => opBool inD ds
  | .notin, ds => opBool (fun a b => (inD a b).map (!·)) ds
  | .index, ds => opIndex ds
  | .slice, ds => opSlice ds
  | .slice3, ds => opSlice3 ds
  | .len, ds => opLen ds
  | .abs, ds => opAbs ds
  | .sum, ds => opSum ds
  | .tyOf, ds => opTyOf ds
  | .isInst, ds => opIsInst ds
  | .isSub, ds => opIsSub ds
  | .rfind, ds => opStr2 (fun a b => .val (.int (Txt.rfind a b))) ds
  | .find4, ds => opFind4 ds
  | .startswith, ds => opStr2 (fun a b => .val (.bool (Txt.startswith a b))) ds
  | .endswith, ds => opStr2 (fun a b => .val (.bool (Txt.endswith a b))) ds
  | .rstrip, ds => opStr2 (fun a b => .val (.str (Txt.rstripChars a b).cps.toList)) ds
  | .lstrip, ds => opStr2 (fun a b => .val (.str (Txt.lstripChars a b).cps.toList)) ds
  | .replace, ds => opReplace ds
  | .join, ds => opJoin ds
  | .split, ds => opSplit ds
  | .translate, ds => opTranslate ds
  | .resub, ds => opResub ds
  | .listOf, ds => opListOf ds
  | .tupleOf, ds => opTupleOf ds
  | .fmt, ds => opFmt ds
  | _, _ => Option.none
noncomputable def fzAll : List R → Option (List D)
  | [] => some []
  | r :: rs => match r.fz, fzAll rs with
    | some d, some ds => some (d :: ds)
    | _, _ => Option.none
noncomputable def truthR : Option (List R) → Option Bool
  | some [r] => r.ds.truth
  | _ => Option.none
noncomputable def compGo (f : D → Option (Option D)) : List D → Option (List D)
  | [] => some []
  | d :: r => match f d with
    | Option.none => Option.none
    | some Option.none => compGo f r
    | some (some y) => match compGo f r with
      | some ys => some (y :: ys)
      | Option.none => Option.none
noncomputable def turnD (c e : Option (List R)) : Option (Option D) := match truthR c with
  | some true => (match e with
    | some [r] => r.fz.map some
    | _ => Option.none)
  | some false => some Option.none
  | Option.none => Option.none
noncomputable def upTo (n : Nat) (a b : Int) : List Int := (List.range n).map fun (k : Nat) => a + b * (k : Int)
noncomputable def rangeL (a b : Int) : List D := (upTo (b - a).toNat a 1).map .int
noncomputable def rangeDown (a b : Int) : List D := (upTo (a - b).toNat a (-1)).map .int
noncomputable def opRange : List D → Option (List D)
  | [.int n] => if small n && decide (n ≤ 1000000) then some (rangeL 0 n) else Option.none
  | [.int a, .int n] => if small a && small n && decide (n - a ≤ 1000000) then some (rangeL a n) else Option.none
  | [.int a, .int n, .int s] => if s = -1 ∧ small a ∧ small n ∧ a - n ≤ 1000000 then some (rangeDown a n) else Option.none
  | _ => Option.none
noncomputable def itemsOf : D → Option (List D)
  | .list l => some l
  | .tup l => some l
  | .str l => some (l.map fun c => .str [c])
  | _ => Option.none
noncomputable def enumL (k : Int) : List D → List D
  | [] => []
  | d :: r => .tup [.int k, d] :: enumL (k + 1) r
noncomputable def allSome {α : Type} : List (Option α) → Option (List α)
  | [] => some []
  | some a :: r => (allSome r).map (a :: ·)
  | Option.none :: _ => Option.none
section
variable (cf : Nat → List D → Option D)
noncomputable def ev : X → List Slot → Option (List R)
  | .const d, _ => some [.val d]
  | .var i, ρ => match ρ[i]? with
    | some (.val d) => some [.val d]
    | some (.own l) => some [.bor l]
    | _ => Option.none
  | .op o a, ρ => match ev a ρ with
    | some rs => (opF o (rs.map R.ds)).map fun r => [r]
    | Option.none => Option.none
  | .nil, _ => some []
  | .cons a r, ρ => match ev a ρ with
    | some [x] => (ev r ρ).map fun xs => x :: xs
    | _ => Option.none
  | .star a, ρ => match ev a ρ with
    | some [x] => (match x.fz with
      | some (.list l) => some (l.map .val)
      | some (.tup l) => some (l.map .val)
      | _ => Option.none)
    | _ => Option.none
  | .and a b, ρ => match ev a ρ with
    | some [x] => (match x.ds.truth with
      | some true => ev b ρ
      | some false => some [x]
      | Option.none => Option.none)
    | _ => Option.none
  | .or a b, ρ => match ev a ρ with
    | some [x] => (match x.ds.truth with
      | some false => ev b ρ
      | some true => some [x]
      | Option.none => Option.none)
    | _ => Option.none
  | .not a, ρ => match ev a ρ with
    | some [x] => x.ds.truth.map fun b => [.val (.bool (!b))]
    | _ => Option.none
  | .ite c t e, ρ => match truthR (ev c ρ) with
    | some true => ev t ρ
    | some false => ev e ρ
    | Option.none => Option.none
  | .call f a, ρ => match ev a ρ with
    | some rs => (match fzAll rs with
      | some ds => (cf f ds).map fun d => [.val d]
      | Option.none => Option.none)
    | Option.none => Option.none
  | .tup a, ρ => match ev a ρ with
    | some rs => (match fzAll rs with
      | some ds => if ds.length ≤ lim then some [.val (.tup ds)] else Option.none
      | Option.none => Option.none)
    | Option.none => Option.none
  | .list a, ρ => match ev a ρ with
    | some rs => (match fzAll rs with
      | some ds => if ds.length ≤ lim then some [.own ds] else Option.none
      | Option.none => Option.none)
    | Option.none => Option.none
  | .comp i it c e, ρ => match ev it ρ with
    | some [.val (.list items)] => (compGo (fun d => turnD (ev c (ρ.set i (.val d))) (ev e (ρ.set i (.val d)))) items).map fun l => [.own l]
    | _ => Option.none
  | .comp2 i j it c e, ρ => match ev it ρ with
    | some [.val (.list items)] => (compGo (fun d => match d with
        | .tup [a, b] => turnD (ev c ((ρ.set i (.val a)).set j (.val b))) (ev e ((ρ.set i (.val a)).set j (.val b)))
        | _ => Option.none) items).map fun l => [.own l]
    | _ => Option.none
  | .comp3 i it j jt e, ρ => match ev it ρ with
    | some [.val (.list items)] => (match compGo (fun d => match ev jt (ρ.set i (.val d)) with
        | some [.val (.list its)] => (compGo (fun d' => turnD (some [.val (.bool true)]) (ev e ((ρ.set i (.val d)).set j (.val d')))) its).map fun l => some (.list l)
        | _ => Option.none) items with
      | some ls => (match allSome (ls.map fun d => match d with | .list l => some l | _ => Option.none) with
        | some lls => if lls.flatten.length ≤ lim then some [.own lls.flatten] else Option.none
        | Option.none => Option.none)
      | Option.none => Option.none)
    | _ => Option.none
  | .mapF f a, ρ => match ev a ρ with
    | some [x] => (match x.fz.bind itemsOf with
      | some items => (allSome (items.map fun d => cf f [d])).map fun l => [.val (.tup l)]
      | Option.none => Option.none)
    | _ => Option.none
  | .seqI a, ρ => match ev a ρ with
    | some [x] => (match x.fz with
      | some d => (itemsOf d).map fun l => [.val (.list l)]
      | Option.none => Option.none)
    | _ => Option.none
  | .rangeI a, ρ => match ev a ρ with
    | some rs => (opRange (rs.map R.ds)).map fun l => [.val (.list l)]
    | Option.none => Option.none
  | .enumI a, ρ => match ev a ρ with
    | some [x] => (match x.fz with
      | some d => (itemsOf d).map fun l => [.val (.list (enumL 0 l))]
      | Option.none => Option.none)
    | _ => Option.none
  | .setI i it e, ρ => match ev it ρ with
    | some [.val (.list items)] => (match compGo (fun d => turnD (some [.val (.bool true)]) (ev e (ρ.set i (.val d)))) items with
      | some (.bool b :: r) => if r.all (fun d => match d with | .bool b' => b' == b | _ => false) then some [.val (.bool b)] else Option.none
      | _ => Option.none)
    | _ => Option.none
noncomputable def ev1 (x : X) (ρ : List Slot) : Option D := match ev cf x ρ with
  | some [r] => r.fz
  | _ => Option.none
noncomputable def evT (x : X) (ρ : List Slot) : Option Bool := truthR (ev cf x ρ)
noncomputable def evI (x : X) (ρ : List Slot) : Option (List D) := match ev cf x ρ with
  | some [.val (.list l)] => some l
  | _ => Option.none
noncomputable def whileGo (c : List Slot → Option Bool) (b : List Slot → Option (List Slot × Out)) : Nat → List Slot → Option (List Slot × Out)
  | 0, _ => Option.none
  | n + 1, ρ => match c ρ with
    | Option.none => Option.none
    | some false => some (ρ, .next)
    | some true => match b ρ with
      | Option.none => Option.none
      | some (ρ', .next) => whileGo c b n ρ'
      | some (ρ', .cont) => whileGo c b n ρ'
      | some (ρ', .brk) => some (ρ', .next)
      | some (ρ', .ret d) => some (ρ', .ret d)
noncomputable def forGo (st : D → List Slot → Option (List Slot)) (b : List Slot → Option (List Slot × Out)) : List D → List Slot → Option (List Slot × Out)
  | [], ρ => some (ρ, .next)
  | d :: r, ρ => match st d ρ with
    | Option.none => Option.none
    | some ρ₁ => match b ρ₁ with
      | Option.none => Option.none
      | some (ρ', .next) => forGo st b r ρ'
      | some (ρ', .cont) => forGo st b r ρ'
      | some (ρ', .brk) => some (ρ', .next)
      | some (ρ', .ret d) => some (ρ', .ret d)
noncomputable def put1 (i : Nat) (d : D) (ρ : List Slot) : Option (List Slot) := some (ρ.set i (.val d))
noncomputable def put2 (i j : Nat) (d : D) (ρ : List Slot) : Option (List Slot) := match d with
  | .tup [a, b] => some ((ρ.set i (.val a)).set j (.val b))
  | _ => Option.none
noncomputable def setAll : List Slot → List Nat → List D → List Slot
  | ρ, i :: is, d :: ds => setAll (ρ.set i (.val d)) is ds
  | ρ, _, _ => ρ
noncomputable def putN (is : List Nat) (d : D) (ρ : List Slot) : Option (List Slot) := match d with
  | .tup l => if l.length = is.length then some (setAll ρ is l) else none
  | _ => none
noncomputable def ownAt (ρ : List Slot) (i : Nat) : Option (List D) := match ρ[i]? with
  | some (.own l) => some l
  | _ => Option.none
noncomputable def noApp (i : Nat) (ρ : List Slot) : Bool := ρ.all fun s => match s with | .app j => j != i | _ => true
noncomputable def wf : Nat := 100000
noncomputable def ex : S → List Slot → Option (List Slot × Out)
  | .skip, ρ => some (ρ, .next)
  | .seq a b, ρ => match ex a ρ with
    | some (ρ', .next) => ex b ρ'
    | some (ρ', o) => some (ρ', o)
    | Option.none => Option.none
  | .fz i, ρ => match ownAt ρ i with
    | some l => some (ρ.set i (.val (.list l)), .next)
    | Option.none => some (ρ, .next)
  | .assign i x, ρ => (ev1 cf x ρ).map fun d => (ρ.set i (.val d), .next)
  | .assignO i x, ρ => if noApp i ρ then (match ev cf x ρ with
    | some [.own l] => some (ρ.set i (.own l), .next)
    | some [.val d] => some (ρ.set i (.val d), .next)
    | _ => Option.none) else Option.none
  | .assign1 i x, ρ => match ev1 cf x ρ with
    | some d => some (ρ.set i (.val d), .next)
    | Option.none => Option.none
  | .assign2 i j x, ρ => match ev1 cf x ρ with
    | some (.tup [a, b]) => some ((ρ.set i (.val a)).set j (.val b), .next)
    | _ => Option.none
  | .assign3 i j k x, ρ => match ev1 cf x ρ with
    | some (.tup [a, b, c]) => some (((ρ.set i (.val a)).set j (.val b)).set k (.val c), .next)
    | _ => Option.none
  | .alias i j, ρ => match ownAt ρ j with
    | some _ => some (ρ.set i (.app j), .next)
    | Option.none => Option.none
  | .append i x, ρ => match ev1 cf x ρ, ownAt ρ i with
    | some d, some l => if l.length < lim then some (ρ.set i (.own (l ++ [d])), .next) else Option.none
    | _, _ => Option.none
  | .appendVia i j x, ρ => match ρ[i]? with
    | some (.app j') => if j' = j then (match ev1 cf x ρ, ownAt ρ j with
      | some d, some l => if l.length < lim then some (ρ.set j (.own (l ++ [d])), .next) else Option.none
      | _, _ => Option.none) else Option.none
    | _ => Option.none
  | .aug i x, ρ => match ρ[i]?, ev1 cf x ρ with
    | some (.val (.str a)), some (.str b) => if a.length + b.length ≤ lim then some (ρ.set i (.val (.str (a ++ b))), .next) else Option.none
    | _, _ => Option.none
  | .extend i x, ρ => match ev1 cf x ρ, ownAt ρ i with
    | some (.list m), some l => if l.length + m.length ≤ lim then some (ρ.set i (.own (l ++ m)), .next) else Option.none
    | _, _ => Option.none
  | .pop i, ρ => match ownAt ρ i with
    | some l => (match l.getLast? with
      | some (.str _) => some (ρ.set i (.own l.dropLast), .next)
      | _ => Option.none)
    | Option.none => Option.none
  | .setItem i k x, ρ => match ev1 cf x ρ, ev1 cf k ρ, ownAt ρ i with
    | some d, some (.int n), some l => if small n then (match place n l.length with
      | some p => some (ρ.set i (.own (l.set p d)), .next)
      | Option.none => Option.none) else Option.none
    | _, _, _ => Option.none
  | .augItem i k x, ρ => match ev1 cf k ρ, ev1 cf x ρ, ownAt ρ i with
    | some (.int n), some (.str y), some l => if small n then (match place n l.length with
      | some p => (match l[p]? with
        | some (.str z) => if z.length + y.length ≤ lim then some (ρ.set i (.own (l.set p (.str (z ++ y)))), .next) else Option.none
        | _ => Option.none)
      | Option.none => Option.none) else Option.none
    | _, _, _ => Option.none
  | .delItem i k, ρ => match ev1 cf k ρ, ownAt ρ i with
    | some (.int n), some l => if 0 ≤ n ∧ n < l.length then some (ρ.set i (.own (l.eraseIdx n.toNat)), .next) else Option.none
    | _, _ => Option.none
  | .ite c a b, ρ => match evT cf c ρ with
    | some true => ex a ρ
    | some false => ex b ρ
    | Option.none => Option.none
  | .while c b, ρ => whileGo (evT cf c) (ex b) wf ρ
  | .forE i it b, ρ => match evI cf it ρ with
    | some items => forGo (put1 i) (ex b) items ρ
    | Option.none => Option.none
  | .forE2 i j it b, ρ => match evI cf it ρ with
    | some items => forGo (put2 i j) (ex b) items ρ
    | Option.none => Option.none
  | .forN is it b, ρ => match evI cf it ρ with
    | some items => forGo (putN is) (ex b) items ρ
    | Option.none => Option.none
  | .ret x, ρ => (ev1 cf x ρ).map fun d => (ρ, .ret d)
  | .brk, ρ => some (ρ, .brk)
  | .cont, ρ => some (ρ, .cont)
  | .assert c, ρ => match evT cf c ρ with
    | some true => some (ρ, .next)
    | _ => Option.none
  | .try_ b, ρ => ex b ρ
theorem evq_const {ρ : List Slot} {d} : ev cf (.const d) ρ = (some [.val d]) := rfl
theorem evq_var {ρ : List Slot} {i} : ev cf (.var i) ρ = (match ρ[i]? with
    | some (.val d) => some [.val d]
    | some (.own l) => some [.bor l]
    | _ => Option.none) := rfl
theorem evq_op {ρ : List Slot} {o a} : ev cf (.op o a) ρ = (match ev cf a ρ with
    | some rs => (opF o (rs.map R.ds)).map fun r => [r]
    | Option.none => Option.none) := rfl
theorem evq_nil {ρ : List Slot} : ev cf .nil ρ = (some []) := rfl
theorem evq_cons {ρ : List Slot} {a r} : ev cf (.cons a r) ρ = (match ev cf a ρ with
    | some [x] => (ev cf r ρ).map fun xs => x :: xs
    | _ => Option.none) := rfl
theorem evq_star {ρ : List Slot} {a} : ev cf (.star a) ρ = (match ev cf a ρ with
    | some [x] => (match x.fz with
      | some (.list l) => some (l.map .val)
      | some (.tup l) => some (l.map .val)
      | _ => Option.none)
    | _ => Option.none) := rfl
theorem evq_and {ρ : List Slot} {a b} : ev cf (.and a b) ρ = (match ev cf a ρ with
    | some [x] => (match x.ds.truth with
      | some true => ev cf b ρ
      | some false => some [x]
      | Option.none => Option.none)
    | _ => Option.none) := rfl
theorem evq_or {ρ : List Slot} {a b} : ev cf (.or a b) ρ = (match ev cf a ρ with
    | some [x] => (match x.ds.truth with
      | some false => ev cf b ρ
      | some true => some [x]
      | Option.none => Option.none)
    | _ => Option.none) := rfl
theorem evq_not {ρ : List Slot} {a} : ev cf (.not a) ρ = (match ev cf a ρ with
    | some [x] => x.ds.truth.map fun b => [.val (.bool (!b))]
    | _ => Option.none) := rfl
theorem evq_ite {ρ : List Slot} {c t e} : ev cf (.ite c t e) ρ = (match truthR (ev cf c ρ) with
    | some true => ev cf t ρ
    | some false => ev cf e ρ
    | Option.none => Option.none) := rfl
theorem evq_call {ρ : List Slot} {f a} : ev cf (.call f a) ρ = (match ev cf a ρ with
    | some rs => (match fzAll rs with
      | some ds => (cf f ds).map fun d => [.val d]
      | Option.none => Option.none)
    | Option.none => Option.none) := rfl
theorem evq_tup {ρ : List Slot} {a} : ev cf (.tup a) ρ = (match ev cf a ρ with
    | some rs => (match fzAll rs with
      | some ds => if ds.length ≤ lim then some [.val (.tup ds)] else Option.none
      | Option.none => Option.none)
    | Option.none => Option.none) := rfl
theorem evq_list {ρ : List Slot} {a} : ev cf (.list a) ρ = (match ev cf a ρ with
    | some rs => (match fzAll rs with
      | some ds => if ds.length ≤ lim then some [.own ds] else Option.none
      | Option.none => Option.none)
    | Option.none => Option.none) := rfl
theorem evq_comp {ρ : List Slot} {i it c e} : ev cf (.comp i it c e) ρ = (match ev cf it ρ with
    | some [.val (.list items)] => (compGo (fun d => turnD (ev cf c (ρ.set i (.val d))) (ev cf e (ρ.set i (.val d)))) items).map fun l => [.own l]
    | _ => Option.none) := rfl
theorem evq_comp2 {ρ : List Slot} {i j it c e} : ev cf (.comp2 i j it c e) ρ = (match ev cf it ρ with
    | some [.val (.list items)] => (compGo (fun d => match d with
        | .tup [a, b] => turnD (ev cf c ((ρ.set i (.val a)).set j (.val b))) (ev cf e ((ρ.set i (.val a)).set j (.val b)))
        | _ => Option.none) items).map fun l => [.own l]
    | _ => Option.none) := rfl
theorem evq_comp3 {ρ : List Slot} {i it j jt e} : ev cf (.comp3 i it j jt e) ρ = (match ev cf it ρ with
    | some [.val (.list items)] => (match compGo (fun d => match ev cf jt (ρ.set i (.val d)) with
        | some [.val (.list its)] => (compGo (fun d' => turnD (some [.val (.bool true)]) (ev cf e ((ρ.set i (.val d)).set j (.val d')))) its).map fun l => some (.list l)
        | _ => Option.none) items with
      | some ls => (match allSome (ls.map fun d => match d with | .list l => some l | _ => Option.none) with
        | some lls => if lls.flatten.length ≤ lim then some [.own lls.flatten] else Option.none
        | Option.none => Option.none)
      | Option.none => Option.none)
    | _ => Option.none) := rfl
theorem evq_mapF {ρ : List Slot} {f a} : ev cf (.mapF f a) ρ = (match ev cf a ρ with
    | some [x] => (match x.fz.bind itemsOf with
      | some items => (allSome (items.map fun d => cf f [d])).map fun l => [.val (.tup l)]
      | Option.none => Option.none)
    | _ => Option.none) := rfl
theorem evq_seqI {ρ : List Slot} {a} : ev cf (.seqI a) ρ = (match ev cf a ρ with
    | some [x] => (match x.fz with
      | some d => (itemsOf d).map fun l => [.val (.list l)]
      | Option.none => Option.none)
    | _ => Option.none) := rfl
theorem evq_rangeI {ρ : List Slot} {a} : ev cf (.rangeI a) ρ = (match ev cf a ρ with
    | some rs => (opRange (rs.map R.ds)).map fun l => [.val (.list l)]
    | Option.none => Option.none) := rfl
theorem evq_enumI {ρ : List Slot} {a} : ev cf (.enumI a) ρ = (match ev cf a ρ with
    | some [x] => (match x.fz with
      | some d => (itemsOf d).map fun l => [.val (.list (enumL 0 l))]
      | Option.none => Option.none)
    | _ => Option.none) := rfl
theorem evq_setI {ρ : List Slot} {i it e} : ev cf (.setI i it e) ρ = (match ev cf it ρ with
    | some [.val (.list items)] => (match compGo (fun d => turnD (some [.val (.bool true)]) (ev cf e (ρ.set i (.val d)))) items with
      | some (.bool b :: r) => if r.all (fun d => match d with | .bool b' => b' == b | _ => false) then some [.val (.bool b)] else Option.none
      | _ => Option.none)
    | _ => Option.none) := rfl
theorem exq_skip {ρ : List Slot} : ex cf .skip ρ = (some (ρ, .next)) := rfl
theorem exq_seq {ρ : List Slot} {a b} : ex cf (.seq a b) ρ = (match ex cf a ρ with
    | some (ρ', .next) => ex cf b ρ'
    | some (ρ', o) => some (ρ', o)
    | Option.none => Option.none) := rfl
theorem exq_fz {ρ : List Slot} {i} : ex cf (.fz i) ρ = (match ownAt ρ i with
    | some l => some (ρ.set i (.val (.list l)), .next)
    | Option.none => some (ρ, .next)) := rfl
theorem exq_assign {ρ : List Slot} {i x} : ex cf (.assign i x) ρ = ((ev1 cf x ρ).map fun d => (ρ.set i (.val d), .next)) := rfl
theorem exq_assignO {ρ : List Slot} {i x} : ex cf (.assignO i x) ρ = (if noApp i ρ then (match ev cf x ρ with
    | some [.own l] => some (ρ.set i (.own l), .next)
    | some [.val d] => some (ρ.set i (.val d), .next)
    | _ => Option.none) else Option.none) := rfl
theorem exq_assign2 {ρ : List Slot} {i j x} : ex cf (.assign2 i j x) ρ = (match ev1 cf x ρ with
    | some (.tup [a, b]) => some ((ρ.set i (.val a)).set j (.val b), .next)
    | _ => Option.none) := rfl
theorem exq_alias {ρ : List Slot} {i j} : ex cf (.alias i j) ρ = (match ownAt ρ j with
    | some _ => some (ρ.set i (.app j), .next)
    | Option.none => Option.none) := rfl
theorem exq_append {ρ : List Slot} {i x} : ex cf (.append i x) ρ = (match ev1 cf x ρ, ownAt ρ i with
    | some d, some l => if l.length < lim then some (ρ.set i (.own (l ++ [d])), .next) else Option.none
    | _, _ => Option.none) := rfl
theorem exq_appendVia {ρ : List Slot} {i j x} : ex cf (.appendVia i j x) ρ = (match ρ[i]? with
    | some (.app j') => if j' = j then (match ev1 cf x ρ, ownAt ρ j with
      | some d, some l => if l.length < lim then some (ρ.set j (.own (l ++ [d])), .next) else Option.none
      | _, _ => Option.none) else Option.none
    | _ => Option.none) := rfl
theorem exq_aug {ρ : List Slot} {i x} : ex cf (.aug i x) ρ = (match ρ[i]?, ev1 cf x ρ with
    | some (.val (.str a)), some (.str b) => if a.length + b.length ≤ lim then some (ρ.set i (.val (.str (a ++ b))), .next) else Option.none
    | _, _ => Option.none) := rfl
theorem exq_extend {ρ : List Slot} {i x} : ex cf (.extend i x) ρ = (match ev1 cf x ρ, ownAt ρ i with
    | some (.list m), some l => if l.length + m.length ≤ lim then some (ρ.set i (.own (l ++ m)), .next) else Option.none
    | _, _ => Option.none) := rfl
theorem exq_setItem {ρ : List Slot} {i k x} : ex cf (.setItem i k x) ρ = (match ev1 cf x ρ, ev1 cf k ρ, ownAt ρ i with
    | some d, some (.int n), some l => if small n then (match place n l.length with
      | some p => some (ρ.set i (.own (l.set p d)), .next)
      | Option.none => Option.none) else Option.none
    | _, _, _ => Option.none) := rfl
theorem exq_augItem {ρ : List Slot} {i k x} : ex cf (.augItem i k x) ρ = (match ev1 cf k ρ, ev1 cf x ρ, ownAt ρ i with
    | some (.int n), some (.str y), some l => if small n then (match place n l.length with
      | some p => (match l[p]? with
        | some (.str z) => if z.length + y.length ≤ lim then some (ρ.set i (.own (l.set p (.str (z ++ y)))), .next) else Option.none
        | _ => Option.none)
      | Option.none => Option.none) else Option.none
    | _, _, _ => Option.none) := rfl
theorem exq_delItem {ρ : List Slot} {i k} : ex cf (.delItem i k) ρ = (match ev1 cf k ρ, ownAt ρ i with
    | some (.int n), some l => if 0 ≤ n ∧ n < l.length then some (ρ.set i (.own (l.eraseIdx n.toNat)), .next) else Option.none
    | _, _ => Option.none) := rfl
theorem exq_ite {ρ : List Slot} {c a b} : ex cf (.ite c a b) ρ = (match evT cf c ρ with
    | some true => ex cf a ρ
    | some false => ex cf b ρ
    | Option.none => Option.none) := rfl
theorem exq_while {ρ : List Slot} {c b} : ex cf (.while c b) ρ = (whileGo (evT cf c) (ex cf b) wf ρ) := rfl
theorem exq_forE {ρ : List Slot} {i it b} : ex cf (.forE i it b) ρ = (match evI cf it ρ with
    | some items => forGo (put1 i) (ex cf b) items ρ
    | Option.none => Option.none) := rfl
theorem exq_forN {ρ : List Slot} {is it b} : ex cf (.forN is it b) ρ = (match evI cf it ρ with
    | some items => forGo (putN is) (ex cf b) items ρ
    | Option.none => Option.none) := rfl
theorem exq_ret {ρ : List Slot} {x} : ex cf (.ret x) ρ = ((ev1 cf x ρ).map fun d => (ρ, .ret d)) := rfl
theorem exq_brk {ρ : List Slot} : ex cf .brk ρ = (some (ρ, .brk)) := rfl
theorem exq_cont {ρ : List Slot} : ex cf .cont ρ = (some (ρ, .cont)) := rfl
theorem exq_assert {ρ : List Slot} {c} : ex cf (.assert c) ρ = (match evT cf c ρ with
    | some true => some (ρ, .next)
    | _ => Option.none) := rfl
theorem exq_try_ {ρ : List Slot} {b} : ex cf (.try_ b) ρ = (ex cf b ρ) := rfl
end
set_option genInjectivity false in
structure Fn where
  np : Nat
  va : Bool
  ns : Nat
  body : S
noncomputable def bindD (f : Fn) (args : List D) : Option (List Slot) :=
  if f.va then (if f.np ≤ args.length ∧ args.length ≤ lim then some (((args.take f.np).map .val ++ [.val (.tup (args.drop f.np))]) ++ List.replicate (f.ns - f.np - 1) .unset) else Option.none)
  else if args.length = f.np then some (args.map .val ++ List.replicate (f.ns - f.np) .unset) else Option.none
noncomputable def callF (fns : Nat → Option Fn) : Nat → Nat → List D → Option D
  | 0, _, _ => Option.none
  | n + 1, f, args => match fns f with
    | Option.none => Option.none
    | some fn => match bindD fn args with
      | Option.none => Option.none
      | some ρ => match ex (callF fns n) fn.body ρ with
        | some (_, .ret d) => some d
        | some (_, .next) => some .none
        | _ => Option.none
end Mine
end MpAx
section MpBx
open PySem PySem.Calls PyProof.Rows
namespace Mine
set_option genInjectivity false in
structure Cx where
  prog : Program
  w : World
  h0 : Heap
  X : Addr → Prop
  XI : Heap → Prop
  T : Nat → Addr
  mg : Str → Option Value
  mb : Str → Option Value
  fa : Nat → Addr
section
variable (T : Nat → Addr) (F : Addr → Prop) (h : Heap)
mutual
inductive Rep : Value → D → Prop
  | none : Rep .none .none
  | bool (b : Bool) : Rep (.bool b) (.bool b)
  | int (i : Int) (t : Tok) : Rep (.int i t) (.int i)
  | str {l : List Nat} (t : Tok) : (∀ c ∈ l, c < 0x110000) → l.length ≤ lim → Rep (.str ⟨l.toArray⟩ t) (.str l)
  | ty (n : String) : Rep (.type n) (.ty n)
  | list {a : Addr} {vs : List Value} {n : Nat} {ds : List D} : F a → h.get? a = some (lobj vs.toArray n) → vs.length ≤ lim → RepL vs ds → Rep (.ref a) (.list ds)
  | tup {a : Addr} {vs : List Value} {n : Nat} {ds : List D} : F a → h.get? a = some (tobj vs.toArray n) → vs.length ≤ lim → RepL vs ds → Rep (.ref a) (.tup ds)
  | tok {k : Nat} {n : Nat} {t : Tok} : F (T k) → h.get? (T k) = some (lobj #[.str ⟨(tokC k).toArray⟩ t] n) → Rep (.ref (T k)) (.tok k)
inductive RepL : List Value → List D → Prop
  | nil : RepL [] []
  | cons {v : Value} {vs : List Value} {d : D} {ds : List D} : Rep v d → RepL vs ds → RepL (v :: vs) (d :: ds)
end
end
section
variable {T : Nat → Addr} {F F' : Addr → Prop} {h h' : Heap}
theorem Rep.mono (hF : ∀ a, F a → F' a) (hk : ∀ a o, F a → h.get? a = some o → h'.get? a = some o) {v : Value} {d : D} (r : Rep T F h v d) : Rep T F' h' v d :=
  Rep.rec (motive_1 := fun v d _ => Rep T F' h' v d) (motive_2 := fun vs ds _ => RepL T F' h' vs ds) .none .bool .int (fun t q z => .str t q z) .ty (fun f g z _ i => .list (hF _ f) (hk _ _ f g) z i) (fun f g z _ i => .tup (hF _ f) (hk _ _ f g) z i) (fun f g => .tok (hF _ f) (hk _ _ f g)) .nil (fun _ _ a b => .cons a b) r
theorem RepL.mono (hF : ∀ a, F a → F' a) (hk : ∀ a o, F a → h.get? a = some o → h'.get? a = some o) {vs : List Value} {ds : List D} (r : RepL T F h vs ds) : RepL T F' h' vs ds :=
  RepL.rec (motive_1 := fun v d _ => Rep T F' h' v d) (motive_2 := fun vs ds _ => RepL T F' h' vs ds) .none .bool .int (fun t q z => .str t q z) .ty (fun f g z _ i => .list (hF _ f) (hk _ _ f g) z i) (fun f g z _ i => .tup (hF _ f) (hk _ _ f g) z i) (fun f g => .tok (hF _ f) (hk _ _ f g)) .nil (fun _ _ a b => .cons a b) r
theorem RepL.ind {motive : List Value → List D → Prop} (hn : motive [] []) (hc : ∀ {v vs d ds}, Rep T F h v d → RepL T F h vs ds → motive vs ds → motive (v :: vs) (d :: ds)) {vs : List Value} {ds : List D} (q : RepL T F h vs ds) : motive vs ds :=
  RepL.rec (motive_1 := fun _ _ _ => True) (motive_2 := fun vs ds _ => motive vs ds) trivial (fun _ => trivial) (fun _ _ => trivial) (fun _ _ _ => trivial) (fun _ => trivial) (fun _ _ _ _ _ => trivial) (fun _ _ _ _ _ => trivial) (fun _ _ => trivial) hn (fun a r _ i => hc a r i) q
theorem RepL.length {vs : List Value} {ds : List D} (q : RepL T F h vs ds) : vs.length = ds.length :=
  q.ind (motive := fun vs ds => vs.length = ds.length) rfl fun _ _ i => congrArg Nat.succ i
theorem RepL.append {vs ws : List Value} {ds es : List D} (q : RepL T F h vs ds) (k : RepL T F h ws es) : RepL T F h (vs ++ ws) (ds ++ es) :=
  q.ind (motive := fun vs ds => RepL T F h (vs ++ ws) (ds ++ es)) k fun a _ i => .cons a i
theorem RepL.get {vs : List Value} {ds : List D} (q : RepL T F h vs ds) : ∀ {k : Nat} {d : D}, ds[k]? = some d → ∃ v, vs[k]? = some v ∧ Rep T F h v d :=
  q.ind (motive := fun vs ds => ∀ {k : Nat} {d : D}, ds[k]? = some d → ∃ v, vs[k]? = some v ∧ Rep T F h v d) (fun e => nomatch e) fun a _ i => by
    intro k d e
    cases k with
    | zero => cases e; exact ⟨_, rfl, a⟩
    | succ k => exact i (k := k) e
theorem RepL.getV {vs : List Value} {ds : List D} (r : RepL T F h vs ds) {k : Nat} {v : Value} (e : vs[k]? = some v) : ∃ d, ds[k]? = some d ∧ Rep T F h v d := by
  have hk : k < vs.length := by
    rcases Nat.lt_or_ge k vs.length with q | q
    · exact q
    · rw [List.getElem?_eq_none q] at e; cases e
  have hk' : k < ds.length := r.length ▸ hk
  obtain ⟨v', e', rv⟩ := r.get (List.getElem?_eq_getElem hk')
  rw [e] at e'; cases e'
  exact ⟨_, List.getElem?_eq_getElem hk', rv⟩
theorem RepL.take {vs : List Value} {ds : List D} (n : Nat) (q : RepL T F h vs ds) : RepL T F h (vs.take n) (ds.take n) :=
  q.ind (motive := fun vs ds => ∀ n, RepL T F h (vs.take n) (ds.take n)) (fun n => by cases n <;> exact .nil) (fun a _ i n => by cases n with | zero => exact .nil | succ n => exact .cons a (i n)) n
theorem RepL.drop {vs : List Value} {ds : List D} (n : Nat) (q : RepL T F h vs ds) : RepL T F h (vs.drop n) (ds.drop n) :=
  q.ind (motive := fun vs ds => ∀ n, RepL T F h (vs.drop n) (ds.drop n)) (fun n => by cases n <;> exact .nil) (fun a r i n => by cases n with | zero => exact .cons a r | succ n => exact i n) n
theorem RepL.set {vs : List Value} {ds : List D} (n : Nat) {v : Value} {d : D} (q : RepL T F h vs ds) (k : Rep T F h v d) : RepL T F h (vs.set n v) (ds.set n d) :=
  q.ind (motive := fun vs ds => ∀ n, RepL T F h (vs.set n v) (ds.set n d)) (fun _ => .nil) (fun a r i n => by cases n with | zero => exact .cons k r | succ n => exact .cons a (i n)) n
theorem RepL.eraseIdx {vs : List Value} {ds : List D} (n : Nat) (q : RepL T F h vs ds) : RepL T F h (vs.eraseIdx n) (ds.eraseIdx n) :=
  q.ind (motive := fun vs ds => ∀ n, RepL T F h (vs.eraseIdx n) (ds.eraseIdx n)) (fun _ => .nil) (fun a r i n => by cases n with | zero => exact r | succ n => exact .cons a (i n)) n
theorem RepL.dropLast {vs : List Value} {ds : List D} (r : RepL T F h vs ds) : RepL T F h vs.dropLast ds.dropLast := by
  rw [List.dropLast_eq_take, List.dropLast_eq_take, r.length]; exact r.take _
theorem RepL.reverse {vs : List Value} {ds : List D} (q : RepL T F h vs ds) : RepL T F h vs.reverse ds.reverse :=
  q.ind (motive := fun vs ds => RepL T F h vs.reverse ds.reverse) .nil fun a _ i => by rw [List.reverse_cons, List.reverse_cons]; exact i.append (.cons a .nil)
theorem RepL.pickAt (is : List Nat) {vs : List Value} {ds : List D} (r : RepL T F h vs ds) : RepL T F h (is.filterMap (vs[·]?)) (is.filterMap (ds[·]?)) := by
  induction is with
  | nil => exact .nil
  | cons k is ih =>
    rcases Nat.lt_or_ge k ds.length with q | q
    · obtain ⟨v, e, rv⟩ := r.get (List.getElem?_eq_getElem q)
      rw [List.filterMap_cons_some e, List.filterMap_cons_some (List.getElem?_eq_getElem q)]
      exact .cons rv ih
    · rw [List.filterMap_cons_none (by simpa using r.length ▸ q), List.filterMap_cons_none (by simpa using q)]
      exact ih
theorem RepL.rep (n : Nat) {vs : List Value} {ds : List D} (r : RepL T F h vs ds) : RepL T F h (List.replicate n vs).flatten (List.replicate n ds).flatten := by
  induction n with
  | zero => simp; exact .nil
  | succ n ih => simp only [List.replicate_succ, List.flatten_cons]; exact r.append ih
theorem Rep.reads {v : Value} {d : D} {n : Nat} (r : Rep T F h v d) (q : d.ok n = true) : ∃ as, Reads h v d.toPy as := by
  have nx : ∀ {d : D} {n : Nat}, d.ok n = true → ∃ k, n = k + 1 := fun {d n} q => by
    cases n with
    | zero => unfold D.ok at q; cases q
    | succ k => exact ⟨k, rfl⟩
  refine Rep.rec (motive_1 := fun v d _ => ∀ n, d.ok n = true → ∃ as, Reads h v d.toPy as) (motive_2 := fun vs ds _ => ∀ n, D.oks n ds = true → ∃ as, ReadsAll h vs (D.toPys ds) as) (fun _ _ => ⟨[], .none⟩) (fun b _ _ => ⟨[], .bool b⟩) (fun i t _ _ => ⟨[], .int i t⟩) (fun t _ _ _ _ => ⟨[], .str _ t⟩) (fun m n q => ?_) (fun f g _ _ ih n q => ?_) (fun f g _ _ ih n q => ?_) (fun {k _ t} f g n q => ⟨_, Reads.list g rfl rfl (.cons (.str _ t) .nil)⟩) (fun _ _ => ⟨[], .nil⟩) (fun _ _ i1 i2 n q => ?_) r n q
  · obtain ⟨k, rfl⟩ := nx q; cases q
  · obtain ⟨k, rfl⟩ := nx q
    obtain ⟨as, x⟩ := ih k q
    exact ⟨_, Reads.list g rfl rfl (by rw [List.toList_toArray]; exact x)⟩
  · obtain ⟨k, rfl⟩ := nx q
    obtain ⟨as, x⟩ := ih k q
    exact ⟨_, Reads.tuple g rfl rfl (by rw [List.toList_toArray]; exact x)⟩
  · have q' := Bool.and_eq_true_iff.mp q
    obtain ⟨as, x⟩ := i1 n q'.1
    obtain ⟨bs, y⟩ := i2 n q'.2
    exact ⟨as ++ bs, .cons x y⟩
theorem RepL.reads {vs : List Value} {ds : List D} {n : Nat} (r : RepL T F h vs ds) (q : D.oks n ds = true) : ∃ as, ReadsAll h vs (D.toPys ds) as := by
  have nx : ∀ {d : D} {n : Nat}, d.ok n = true → ∃ k, n = k + 1 := fun {d n} q => by
    cases n with
    | zero => unfold D.ok at q; cases q
    | succ k => exact ⟨k, rfl⟩
  refine RepL.rec (motive_1 := fun v d _ => ∀ n, d.ok n = true → ∃ as, Reads h v d.toPy as) (motive_2 := fun vs ds _ => ∀ n, D.oks n ds = true → ∃ as, ReadsAll h vs (D.toPys ds) as) (fun _ _ => ⟨[], .none⟩) (fun b _ _ => ⟨[], .bool b⟩) (fun i t _ _ => ⟨[], .int i t⟩) (fun t _ _ _ _ => ⟨[], .str _ t⟩) (fun m n q => ?_) (fun f g _ _ ih n q => ?_) (fun f g _ _ ih n q => ?_) (fun {k _ t} f g n q => ⟨_, Reads.list g rfl rfl (.cons (.str _ t) .nil)⟩) (fun _ _ => ⟨[], .nil⟩) (fun _ _ i1 i2 n q => ?_) r n q
  · obtain ⟨k, rfl⟩ := nx q; cases q
  · obtain ⟨k, rfl⟩ := nx q
    obtain ⟨as, x⟩ := ih k q
    exact ⟨_, Reads.list g rfl rfl (by rw [List.toList_toArray]; exact x)⟩
  · obtain ⟨k, rfl⟩ := nx q
    obtain ⟨as, x⟩ := ih k q
    exact ⟨_, Reads.tuple g rfl rfl (by rw [List.toList_toArray]; exact x)⟩
  · have q' := Bool.and_eq_true_iff.mp q
    obtain ⟨as, x⟩ := i1 n q'.1
    obtain ⟨bs, y⟩ := i2 n q'.2
    exact ⟨as ++ bs, .cons x y⟩
end
section
variable {T : Nat → Addr} {F F' : Addr → Prop} {h h' : Heap}
theorem strOk_of {l : List Nat} (q : ∀ c ∈ l, c < 0x110000) : PyData.strOk ⟨l.toArray⟩ = true := by
  unfold PyData.strOk
  simpa [List.all_eq_true] using q
theorem Rep.lay {v : Value} {d : D} {n : Nat} (r : Rep T F h v d) (q : d.ok n = true) : d.toPy.canLay0 = true ∧ d.toPy.depth ≤ n := by
  have nx : ∀ {d : D} {n : Nat}, d.ok n = true → ∃ k, n = k + 1 := fun {d n} q => by
    cases n with
    | zero => unfold D.ok at q; cases q
    | succ k => exact ⟨k, rfl⟩
  refine Rep.rec (motive_1 := fun v d _ => ∀ n, d.ok n = true → d.toPy.canLay0 = true ∧ d.toPy.depth ≤ n) (motive_2 := fun vs ds _ => ∀ n, D.oks n ds = true → PyData.canLayAll0 (D.toPys ds) = true ∧ PyData.depthAll (D.toPys ds) ≤ n) (fun _ _ => ⟨rfl, Nat.zero_le _⟩) (fun _ _ _ => ⟨rfl, Nat.zero_le _⟩) (fun _ _ _ _ => ⟨rfl, Nat.zero_le _⟩) (fun t p _ _ _ => ⟨strOk_of p, Nat.zero_le _⟩) (fun m n q => ?_) (fun f g _ _ ih n q => ?_) (fun f g _ _ ih n q => ?_) (fun {k _ t} f g n q => ?_) (fun _ _ => ⟨rfl, Nat.zero_le _⟩) (fun _ _ i1 i2 n q => ?_) r n q
  · obtain ⟨k, rfl⟩ := nx q; cases q
  · obtain ⟨k, rfl⟩ := nx q
    have := ih k q
    simp only [D.toPy, PyData.canLay0, PyData.depth]
    exact ⟨this.1, by omega⟩
  · obtain ⟨k, rfl⟩ := nx q
    have := ih k q
    simp only [D.toPy, PyData.canLay0, PyData.depth]
    exact ⟨this.1, by omega⟩
  · obtain ⟨j, rfl⟩ := nx q
    have e : PyData.strOk ⟨(tokC k).toArray⟩ = true := strOk_of (by cases k <;> simp [tokC])
    have hj : 0 < j := of_decide_eq_true q
    simp only [D.toPy, PyData.canLay0, PyData.canLayAll0, PyData.depth, PyData.depthAll, e, Bool.and_self, true_and]; omega
  · have q' := Bool.and_eq_true_iff.mp q
    have x := i1 n q'.1
    have y := i2 n q'.2
    simp only [D.toPys, PyData.canLayAll0, PyData.depthAll, x.1, y.1]
    exact ⟨rfl, by omega⟩
theorem RepL.lay {vs : List Value} {ds : List D} {n : Nat} (r : RepL T F h vs ds) (q : D.oks n ds = true) : PyData.canLayAll0 (D.toPys ds) = true ∧ PyData.depthAll (D.toPys ds) ≤ n := by
  have nx : ∀ {d : D} {n : Nat}, d.ok n = true → ∃ k, n = k + 1 := fun {d n} q => by
    cases n with
    | zero => unfold D.ok at q; cases q
    | succ k => exact ⟨k, rfl⟩
  refine RepL.rec (motive_1 := fun v d _ => ∀ n, d.ok n = true → d.toPy.canLay0 = true ∧ d.toPy.depth ≤ n) (motive_2 := fun vs ds _ => ∀ n, D.oks n ds = true → PyData.canLayAll0 (D.toPys ds) = true ∧ PyData.depthAll (D.toPys ds) ≤ n) (fun _ _ => ⟨rfl, Nat.zero_le _⟩) (fun _ _ _ => ⟨rfl, Nat.zero_le _⟩) (fun _ _ _ _ => ⟨rfl, Nat.zero_le _⟩) (fun t p _ _ _ => ⟨strOk_of p, Nat.zero_le _⟩) (fun m n q => ?_) (fun f g _ _ ih n q => ?_) (fun f g _ _ ih n q => ?_) (fun {k _ t} f g n q => ?_) (fun _ _ => ⟨rfl, Nat.zero_le _⟩) (fun _ _ i1 i2 n q => ?_) r n q
  · obtain ⟨k, rfl⟩ := nx q; cases q
  · obtain ⟨k, rfl⟩ := nx q
    have := ih k q
    simp only [D.toPy, PyData.canLay0, PyData.depth]
    exact ⟨this.1, by omega⟩
  · obtain ⟨k, rfl⟩ := nx q
    have := ih k q
    simp only [D.toPy, PyData.canLay0, PyData.depth]
    exact ⟨this.1, by omega⟩
  · obtain ⟨j, rfl⟩ := nx q
    have e : PyData.strOk ⟨(tokC k).toArray⟩ = true := strOk_of (by cases k <;> simp [tokC])
    have hj : 0 < j := of_decide_eq_true q
    simp only [D.toPy, PyData.canLay0, PyData.canLayAll0, PyData.depth, PyData.depthAll, e, Bool.and_self, true_and]; omega
  · have q' := Bool.and_eq_true_iff.mp q
    have x := i1 n q'.1
    have y := i2 n q'.2
    simp only [D.toPys, PyData.canLayAll0, PyData.depthAll, x.1, y.1]
    exact ⟨rfl, by omega⟩
theorem Rep.shaped {v : Value} {d : D} {n : Nat} (r : Rep T F h v d) (q : d.ok n = true) (hn : n ≤ 60) : PySem.SeqAt.shaped d.toPy = true := by
  have l := r.lay q
  unfold PySem.SeqAt.shaped
  rw [l.1, Bool.true_and]; exact decide_eq_true (by omega)
end
end Mine
end MpBx
section MpCx
open PySem PySem.Calls PyProof.Rows
namespace Mine
noncomputable def GensBare (a : Array GenState) : Prop := ∀ g ∈ a, g.bare = true
set_option genInjectivity false in
structure XCx extends Cx where
  XF : (Addr → Prop) → Heap → Prop
set_option genInjectivity false in
structure Wd (cx : XCx) (F : Addr → Prop) (s : Shared) : Prop where
  base : ∀ a o, cx.h0.get? a = some o → ¬ cx.X a → s.heap.get? a = some o
  xi : cx.XF F s.heap
  gens : GensBare s.gens
  f0 : ∀ a o, cx.h0.get? a = some o → ¬ cx.X a → F a
  lt : ∀ a, F a → ∃ o, s.heap.get? a = some o
  nx : ∀ a, F a → ¬ cx.X a
  xex : ∀ a, cx.X a → ∃ o, s.heap.get? a = some o
set_option genInjectivity false in
structure CxOk (cx : XCx) : Prop where
  xi : ∀ F F' h h', cx.XF F h → (∀ a, F a → F' a) → (∀ a o, F a ∨ cx.X a → h.get? a = some o → h'.get? a = some o) → cx.XF F' h'
  glob : cx.h0.Ns mainGlobals cx.mg
  gx : ¬ cx.X mainGlobals
  blt : cx.h0.Ns builtinsNs cx.mb
  bx : ¬ cx.X builtinsNs
  bmb : ∀ x : Str, x ≠ "__name__" → cx.mb x = bootBuiltins x
  lim : cx.h0.NoLimit
  limx : ¬ cx.X cStatics
  seer : ∀ h : Heap, (∀ a o, cx.h0.get? a = some o → ¬ cx.X a → h.get? a = some o) → h.NoSeer
  tree : cx.prog.given.tree = none
  nb : ∃ mc, cx.h0.Ns cStatics mc ∧ mc sharingNotToldKey = none
  tinj : ∀ i j, cx.T i = cx.T j → i = j
set_option genInjectivity false in
structure Step (cx : XCx) (F : Addr → Prop) (s : Shared) (F' : Addr → Prop) (s' : Shared) : Prop where
  sub : ∀ a, F a → F' a
  new : ∀ a, F' a → F a ∨ s.heap.get? a = none
  keep : ∀ a o, s.heap.get? a = some o → ¬ cx.X a → s'.heap.get? a = some o
  os : s'.os = s.os
  wd : Wd cx F' s'
theorem fresh_size (h : Heap) : h.get? h.objs.size = none := by
  cases e : h.get? h.objs.size with
  | none => rfl
  | some o => exact absurd (Heap.lt_size e) (Nat.lt_irrefl _)
section
variable {cx : XCx} {F F' F'' : Addr → Prop} {s s' s'' : Shared}
theorem Step.refl (w : Wd cx F s) : Step cx F s F s := ⟨fun _ h => h, fun _ h => .inl h, fun _ _ e _ => e, rfl, w⟩
theorem Step.fresh (x : Step cx F s F' s') {a : Addr} (nx : ¬ cx.X a) (h : s'.heap.get? a = none) : s.heap.get? a = none := by
  cases e : s.heap.get? a with
  | none => rfl
  | some o => rw [x.keep a o e nx] at h; cases h
theorem Step.trans (x : Step cx F s F' s') (y : Step cx F' s' F'' s'') : Step cx F s F'' s'' :=
  ⟨fun a h => y.sub a (x.sub a h), fun a h => by
    rcases y.new a h with q | q
    · exact x.new a q
    · exact .inr (x.fresh (y.wd.nx a h) q), fun a o e nx => y.keep a o (x.keep a o e nx) nx, y.os.trans x.os, y.wd⟩
theorem Wd.toks (w : Wd cx F s) (k : Nat) : Wd cx F { s with toks := k } := ⟨w.base, w.xi, w.gens, w.f0, w.lt, w.nx, w.xex⟩
theorem Step.toks (x : Step cx F s F' s') (k : Nat) : Step cx F s F' { s' with toks := k } := ⟨x.sub, x.new, x.keep, x.os, x.wd.toks k⟩
theorem Step.rep (x : Step cx F s F' s') (w : Wd cx F s) {v : Value} {d : D} (r : Rep cx.T F s.heap v d) : Rep cx.T F' s'.heap v d := r.mono x.sub fun a o f e => x.keep a o e (w.nx a f)
theorem Step.repL (x : Step cx F s F' s') (w : Wd cx F s) {v : List Value} {d : List D} (r : RepL cx.T F s.heap v d) : RepL cx.T F' s'.heap v d := r.mono x.sub fun a o f e => x.keep a o e (w.nx a f)
theorem Step.grown (ok : CxOk cx) (w : Wd cx F s) {h' : Heap} (k : Nat) (hk : ∀ a o, s.heap.get? a = some o → h'.get? a = some o) : Step cx F s F { s with heap := h', toks := k } :=
  ⟨fun _ h => h, fun _ h => .inl h, fun a o e _ => hk a o e, rfl, ⟨fun a o e nx => hk a o (w.base a o e nx), ok.xi _ _ _ _ w.xi (fun _ h => h) (fun a o _ e => hk a o e), w.gens, w.f0, fun a f => let ⟨o, e⟩ := w.lt a f; ⟨o, hk a o e⟩, w.nx, fun a f => let ⟨o, e⟩ := w.xex a f; ⟨o, hk a o e⟩⟩⟩
theorem Step.push (ok : CxOk cx) (w : Wd cx F s) (o : Obj) (k : Nat) : Step cx F s F { s with heap := s.heap.push o, toks := k } :=
  Step.grown ok w k fun _ _ e => Heap.get?_push_of_some o e
theorem Wd.newNotX (w : Wd cx F s) {a : Addr} (h : s.heap.get? a = none) : ¬ cx.X a := fun x => by
  obtain ⟨o, e⟩ := w.xex a x
  rw [e] at h; cases h
theorem Wd.newNotF (w : Wd cx F s) {a : Addr} (h : s.heap.get? a = none) : ¬ F a := fun x => by
  obtain ⟨o, e⟩ := w.lt a x
  rw [e] at h; cases h
theorem Step.freeze (ok : CxOk cx) (w : Wd cx F s) (x : Step cx F s F' s') {a : Addr} {o : Obj} (h1 : s.heap.get? a = none) (h2 : s'.heap.get? a = some o) : Step cx F s (fun b => F' b ∨ b = a) s' :=
  ⟨fun b h => .inl (x.sub b h), fun b h => h.elim (x.new b) fun e => .inr (e ▸ h1), x.keep, x.os,
    ⟨x.wd.base, ok.xi _ _ _ _ x.wd.xi (fun _ h => .inl h) (fun _ _ _ e => e), x.wd.gens, fun b o h nx => .inl (x.wd.f0 b o h nx), fun b h => h.elim (x.wd.lt b) fun e => e ▸ ⟨o, h2⟩,
      fun b h => h.elim (x.wd.nx b) fun e => e ▸ w.newNotX h1, x.wd.xex⟩⟩
theorem Step.notF (x : Step cx F s F' s') {a : Addr} {o : Obj} (h : ¬ F a) (hl : s.heap.get? a = some o) : ¬ F' a := fun h' => by
  rcases x.new a h' with q | q
  · exact h q
  · rw [hl] at q; cases q
theorem Wd.glob (ok : CxOk cx) (w : Wd cx F s) : s.heap.Ns mainGlobals cx.mg := ok.glob.at' fun o e => w.base _ o e ok.gx
theorem Wd.blt (ok : CxOk cx) (w : Wd cx F s) : s.heap.Ns builtinsNs cx.mb := ok.blt.at' fun o e => w.base _ o e ok.bx
theorem Wd.lim (ok : CxOk cx) (w : Wd cx F s) : s.heap.NoLimit := ok.lim.at fun o e => w.base _ o e ok.limx
end
inductive BRep (cx : XCx) (F : Addr → Prop) (h : Heap) : Value → D → Prop
  | rep {v : Value} {d : D} : Rep cx.T F h v d → BRep cx F h v d
  | own {a : Addr} {vs : List Value} {n : Nat} {l : List D} : ¬ cx.X a → h.get? a = some (lobj vs.toArray n) → vs.length ≤ lim → RepL cx.T F h vs l → BRep cx F h (.ref a) (.list l)
inductive BRepL (cx : XCx) (F : Addr → Prop) (h : Heap) : List Value → List D → Prop
  | nil : BRepL cx F h [] []
  | cons {v : Value} {vs : List Value} {d : D} {ds : List D} : BRep cx F h v d → BRepL cx F h vs ds → BRepL cx F h (v :: vs) (d :: ds)
inductive RepR (cx : XCx) (F : Addr → Prop) (lo : Heap) (h : Heap) : Value → R → Prop
  | val {v : Value} {d : D} : Rep cx.T F h v d → RepR cx F lo h v (.val d)
  | own {a : Addr} {vs : List Value} {n : Nat} {l : List D} : lo.get? a = none → ¬ F a → ¬ cx.X a → h.get? a = some (lobj vs.toArray n) → vs.length ≤ lim → RepL cx.T F h vs l → RepR cx F lo h (.ref a) (.own l)
  | bor {a : Addr} {vs : List Value} {n : Nat} {l : List D} : ¬ cx.X a → h.get? a = some (lobj vs.toArray n) → vs.length ≤ lim → RepL cx.T F h vs l → RepR cx F lo h (.ref a) (.bor l)
section
variable {cx : XCx} {F F' F'' : Addr → Prop} {s s' s'' : Shared} {v : Value} {d : D} {r : R} {lo : Heap} {vs : List Value} {ds : List D}
theorem Step.brep (x : Step cx F s F' s') (w : Wd cx F s) (b : BRep cx F s.heap v d) : BRep cx F' s'.heap v d := by
  cases b with
  | rep q => exact .rep (x.rep w q)
  | own nx e z q => exact .own nx (x.keep _ _ e nx) z (x.repL w q)
theorem RepR.brep {h : Heap} (q : RepR cx F lo h v r) : BRep cx F h v r.ds := by
  cases q with
  | val q => exact .rep q
  | own _ _ nx e z q => exact .own nx e z q
  | bor nx e z q => exact .own nx e z q
theorem RepR.step (x : Step cx F s F' s') (w : Wd cx F s) (q : RepR cx F lo s.heap v r) : RepR cx F' lo s'.heap v r := by
  cases q with
  | val q => exact .val (x.rep w q)
  | own l nf nx e z q => exact .own l (x.notF nf e) nx (x.keep _ _ e nx) z (x.repL w q)
  | bor nx e z q => exact .bor nx (x.keep _ _ e nx) z (x.repL w q)
theorem RepR.low (x : Step cx F s F' s') {F'' : Addr → Prop} {h : Heap} (q : RepR cx F'' s'.heap h v r) : RepR cx F'' s.heap h v r := by
  cases q with
  | val q => exact .val q
  | own l nf nx e z q => exact .own (x.fresh nx l) nf nx e z q
  | bor nx e z q => exact .bor nx e z q
theorem Step.fz (ok : CxOk cx) (w : Wd cx F s) (x : Step cx F s F' s') (q : RepR cx F' s.heap s'.heap v r) (e : r.fz = some d) :
    ∃ F'', Step cx F s F'' s' ∧ (∀ a, F' a → F'' a) ∧ Rep cx.T F'' s'.heap v d := by
  cases q with
  | val q => cases e; exact ⟨F', x, fun _ h => h, q⟩
  | own l nf nx g z q =>
    cases e
    exact ⟨_, x.freeze ok w l g, fun _ h => .inl h, .list (.inr rfl) g z (q.mono (fun _ h => .inl h) fun _ _ _ e => e)⟩
  | bor nx g z q => cases e
end
set_option genInjectivity false in
structure Bud (n : Nat) (A : Around) : Prop where
  hd : A.handled = none
  dp : A.depth + n < 890
  un : A.units + 10 * n + 200 < 9900
  fs : ∃ l, A.frames = some l
set_option genInjectivity false in
structure BudE (n : Nat) (A : Around) : Prop extends Bud n A where
  fr : ∃ env l, A.frames = some (env :: l) ∧ env.scope.isGenerator = false ∧ env.scope.isCoroutine = false ∧ env.builtins = builtinsNs ∧ env.globals = mainGlobals
noncomputable def Post (cx : XCx) (F : Addr → Prop) (s : Shared) (r : R) (Q : Value → Shared → Prop) : Prop :=
  ∀ v F' s', Step cx F s F' s' → RepR cx F' s.heap s'.heap v r → Q v s'
noncomputable def Ev (cx : XCx) (A : Around) (F : Addr → Prop) (s : Shared) (t : Sem Value) (r : R) : Prop := ∀ Q E, Post cx F s r Q → wpAny (model cx.prog cx.w) A t Q E s
noncomputable def EvB (cx : XCx) (A : Around) (F : Addr → Prop) (s : Shared) (t : Sem Bool) (b : Bool) : Prop := ∀ Q E, (∀ F' s', Step cx F s F' s' → Q b s') → wpAny (model cx.prog cx.w) A t Q E s
set_option genInjectivity false in
structure Sc where
  kinds : List (Str × NameKind)
  vars : List (Str × Nat)
  code : Option (Addr × PySem.Str) := none
inductive SlotRep (cx : XCx) (F : Addr → Prop) (h : Heap) (ad : Nat → Addr) (i : Nat) : Option Value → Slot → Prop
  | unset {ov : Option Value} : SlotRep cx F h ad i ov .unset
  | val {v : Value} {d : D} : Rep cx.T F h v d → SlotRep cx F h ad i (some v) (.val d)
  | own {vs : List Value} {n : Nat} {l : List D} : ¬ F (ad i) → ¬ cx.X (ad i) → h.get? (ad i) = some (lobj vs.toArray n) → vs.length ≤ lim → RepL cx.T F h vs l → SlotRep cx F h ad i (some (.ref (ad i))) (.own l)
  | app {b : Addr} {o : Obj} {j : Nat} : F b → h.get? b = some o → o = appObj (ad j) → SlotRep cx F h ad i (some (.ref b)) (.app j)
noncomputable def slotAt (ρ : List Slot) (i : Nat) : Slot := ρ.getD i .unset
set_option genInjectivity false in
structure EnvOK (cx : XCx) (ε : Sc) (env : Env) (F : Addr → Prop) (h : Heap) (ρ : List Slot) (ad : Nat → Addr) (m cm : Str → Option Value) : Prop where
  kind : env.scope.kind = .function
  names : env.scope.names = ε.kinds
  glob : env.globals = mainGlobals
  blt : env.builtins = builtinsNs
  code : ∀ c q, ε.code = some (c, q) → env.code = .ref c ∧ env.qual = q
  lx : ¬ cx.X env.locals
  cxx : ∀ n c, env.cells.lookup n = some c → ¬ cx.X c
  ns : h.Ns env.locals m
  cells : ∀ n c, env.cells.lookup n = some c → h.IsCell c (cm n)
  vars : ∀ x i, ε.vars.lookup x = some i →
    (ε.kinds.lookup x = some .local ∧ SlotRep cx F h ad i (m x) (slotAt ρ i)) ∨
    ((ε.kinds.lookup x = some .cell ∨ ε.kinds.lookup x = some .free) ∧ (∃ c, env.cells.lookup x = some c) ∧ SlotRep cx F h ad i (cm x) (slotAt ρ i))
section
variable {cx : XCx} {F F' : Addr → Prop} {s s' : Shared} {ε : Sc} {env : Env} {ρ : List Slot} {ad : Nat → Addr} {m cm : Str → Option Value}
theorem SlotRep.step {i : Nat} {ov : Option Value} {sl : Slot} (x : Step cx F s F' s') (w : Wd cx F s) (q : SlotRep cx F s.heap ad i ov sl) : SlotRep cx F' s'.heap ad i ov sl := by
  cases q with
  | unset => exact .unset
  | val q => exact .val (x.rep w q)
  | own nf nx g z q => exact .own (x.notF nf g) nx (x.keep _ _ g nx) z (x.repL w q)
  | app f g e => exact .app (x.sub _ f) (x.keep _ _ g (w.nx _ f)) e
theorem RepR.pushOwn (w : Wd cx F s) {vs : List Value} {l : List D} (z : vs.length ≤ lim) (q : RepL cx.T F s.heap vs l) : RepR cx F s.heap (s.heap.push (lobj vs.toArray 0)) (.ref s.heap.objs.size) (.own l) :=
  .own (n := 0) (fresh_size _) (w.newNotF (fresh_size _)) (w.newNotX (fresh_size _)) (Heap.get?_push_size _ rfl) z (q.mono (fun _ h => h) fun _ _ _ e => Heap.get?_push_of_some _ e)
theorem EnvOK.step (x : Step cx F s F' s') (w : Wd cx F s) (e : EnvOK cx ε env F s.heap ρ ad m cm) : EnvOK cx ε env F' s'.heap ρ ad m cm :=
  ⟨e.kind, e.names, e.glob, e.blt, e.code, e.lx, e.cxx, e.ns.at' fun o g => x.keep _ o g e.lx, fun n c hc => let ⟨o, g, d⟩ := e.cells n c hc; ⟨o, x.keep _ o g (e.cxx n c hc), d⟩,
    fun y i hy => (e.vars y i hy).imp (fun ⟨k, q⟩ => ⟨k, q.step x w⟩) fun ⟨k, c, q⟩ => ⟨k, c, q.step x w⟩⟩
end
noncomputable def FnAt (cx : XCx) (f : Nat) : Prop := ∃ o fd, cx.h0.get? (cx.fa f) = some o ∧ o.data = .func fd ∧ ¬ cx.X (cx.fa f)
noncomputable def CallOK (cx : XCx) (n : Nat) (cf : Nat → List D → Option D) : Prop :=
  ∀ f args d, cf f args = some d → FnAt cx f ∧ ∀ A F s vs, Bud n A → Wd cx F s → RepL cx.T F s.heap vs args → ∀ (Rs : Result → Shared → Prop), (∀ v F' s', Step cx F s F' s' → Rep cx.T F' s'.heap v d → Rs (.ok (.ret v)) s') →
    codeAny (model cx.prog cx.w) A (.call (.ref (cx.fa f)) ⟨vs, []⟩) Rs s
set_option genInjectivity false in
structure Here (cx : XCx) (ε : Sc) (n : Nat) (cf : Nat → List D → Option D) (A : Around) (env : Env) (F : Addr → Prop) (s : Shared) (ρ : List Slot) (ad : Nat → Addr) (m cm : Str → Option Value) : Prop where
  ok : CxOk cx
  calls : CallOK cx n cf
  bud : BudE n A
  wd : Wd cx F s
  env : EnvOK cx ε env F s.heap ρ ad m cm
theorem Here.step {cx : XCx} {ε : Sc} {n : Nat} {cf : Nat → List D → Option D} {A : Around} {env : Env} {F F' : Addr → Prop} {s s' : Shared} {ρ : List Slot} {ad : Nat → Addr} {m cm : Str → Option Value}
    (H : Here cx ε n cf A env F s ρ ad m cm) (x : Step cx F s F' s') : Here cx ε n cf A env F' s' ρ ad m cm := ⟨H.ok, H.calls, H.bud, x.wd, H.env.step x H.wd⟩
noncomputable def SoundE (cx : XCx) (ε : Sc) (e : Expr) (x : X) : Prop :=
  ∀ n cf A env F s ρ ad m cm, Here cx ε n cf A env F s ρ ad m cm → ∀ r, ev cf x ρ = some [r] → Ev cx A F s (eval e env) r
noncomputable def SoundT (cx : XCx) (ε : Sc) (e : Expr) (x : X) : Prop :=
  ∀ n cf A env F s ρ ad m cm, Here cx ε n cf A env F s ρ ad m cm → ∀ b, evT cf x ρ = some b → EvB cx A F s (isTrue e env (eval e env)) b
set_option genInjectivity false in
structure Sound (cx : XCx) (ε : Sc) (e : Expr) (x : X) : Prop where
  ev : SoundE cx ε e x
  tr : SoundT cx ε e x
section
variable {cx : XCx} {A : Around} {F F' : Addr → Prop} {s s' : Shared} {t : Sem Value} {r : R}
theorem Ev.here (w : Wd cx F s) {v : Value} (q : RepR cx F s.heap s.heap v r) : Ev cx A F s (pure v) r := fun _ _ h => wpAny_pure (h v F s (Step.refl w) q)
theorem Post.after {Q : Value → Shared → Prop} (x : Step cx F s F' s') (h : Post cx F s r Q) : Post cx F' s' r Q := fun v F'' s'' y q => h v F'' s'' (x.trans y) (q.low x)
theorem Ev.bind {α : Type} {k : Value → Sem α} {Q : α → Shared → Prop} {E : Value → Shared → Prop} (h : Ev cx A F s t r)
    (g : ∀ v F' s', Step cx F s F' s' → RepR cx F' s.heap s'.heap v r → wpAny (model cx.prog cx.w) A (k v) Q E s') : wpAny (model cx.prog cx.w) A (t >>= k) Q E s :=
  wpAny_bind (h _ _ g)
end
end Mine
end MpCx
section MpDx
open PySem PySem.Calls PyProof.Rows
namespace Mine
inductive EvOp (cf : Nat → List D → Option D) (ρ : List Slot) (o : Op) (a : X) (r : R) : Prop
  | mk (rs : List R) (e : ev cf a ρ = some rs) (h : opF o (rs.map R.ds) = some r)
inductive EvCons (cf : Nat → List D → Option D) (ρ : List Slot) (a b : X) (rs : List R) : Prop
  | mk (x : R) (xs : List R) (ea : ev cf a ρ = some [x]) (eb : ev cf b ρ = some xs) (e : rs = x :: xs)
inductive ListInv (cx : XCx) (F : Addr → Prop) (h : Heap) (v : Value) (l : List D) : Prop
  | mk (a : Addr) (vs : List Value) (n : Nat) (e : v = .ref a) (nx : ¬ cx.X a) (g : h.get? a = some (lobj vs.toArray n)) (z : vs.length ≤ lim) (q : RepL cx.T F h vs l)
inductive TupInv (cx : XCx) (F : Addr → Prop) (h : Heap) (v : Value) (l : List D) : Prop
  | mk (a : Addr) (vs : List Value) (n : Nat) (e : v = .ref a) (f : F a) (g : h.get? a = some (tobj vs.toArray n)) (z : vs.length ≤ lim) (q : RepL cx.T F h vs l)
inductive StrInv (v : Value) (l : List Nat) : Prop
  | mk (t : Tok) (e : v = .str ⟨l.toArray⟩ t) (p : ∀ c ∈ l, c < 0x110000) (z : l.length ≤ lim)
inductive TwoInv (cx : XCx) (F : Addr → Prop) (h : Heap) (vs : List Value) (a b : D) : Prop
  | mk (x y : Value) (e : vs = [x, y]) (qa : BRep cx F h x a) (qb : BRep cx F h y b)
section
variable {cf : Nat → List D → Option D} {ρ : List Slot}
theorem ev_op {o : Op} {a : X} {r : R} (h : ev cf (.op o a) ρ = some [r]) : EvOp cf ρ o a r := by
  replace h := (evq_op _).symm.trans h
  split at h
  · rename_i rs e
    obtain ⟨r', e', h'⟩ := Option.map_eq_some_iff.mp h
    cases h'
    exact ⟨rs, e, e'⟩
  · cases h
theorem ev_cons {a b : X} {rs : List R} (h : ev cf (.cons a b) ρ = some rs) : EvCons cf ρ a b rs := by
  replace h := (evq_cons _).symm.trans h
  split at h
  · rename_i x e
    obtain ⟨xs, e', h'⟩ := Option.map_eq_some_iff.mp h
    exact ⟨x, xs, e, e', h'.symm⟩
  · cases h
theorem ev_nil {rs : List R} (h : ev cf .nil ρ = some rs) : rs = [] := by replace h := (evq_nil _).symm.trans h; cases h; rfl
end
noncomputable def op1 (f : Value → Sem Value) : List Value → Sem Value
  | [a] => f a
  | _ => unsupported "mine"
noncomputable def op2 (f : Value → Value → Sem Value) : List Value → Sem Value
  | [a, b] => f a b
  | _ => unsupported "mine"
noncomputable def OpOK (cx : XCx) (o : Op) (t : List Value → Sem Value) : Prop :=
  ∀ n A F s vs ds r, CxOk cx → BudE n A → Wd cx F s → BRepL cx F s.heap vs ds → opF o ds = some r → Ev cx A F s (t vs) r
theorem sz_lt {n : Nat} (h : n ≤ lim) : (n : Int) < 2 ^ 63 := by unfold lim at h; omega
theorem sz_line {n : Nat} (h : n ≤ lim) : n ≤ sizeLine := by rw [sizeLine_eq]; unfold lim at h; omega
section
variable {cx : XCx} {F : Addr → Prop} {s : Shared} {h : Heap} {v : Value} {A : Around}
theorem isList_of {a : Addr} {vs : List Value} {n : Nat} (g : h.get? a = some (lobj vs.toArray n)) : h.IsList a vs.toArray := ⟨_, g, rfl, n, rfl⟩
theorem isTup_of {a : Addr} {vs : List Value} {n : Nat} (g : h.get? a = some (tobj vs.toArray n)) : IsTup h a vs.toArray := ⟨_, g, rfl, n, rfl⟩
theorem BRep.list_inv (w : Wd cx F s) {l : List D} (b : BRep cx F s.heap v (.list l)) : ListInv cx F s.heap v l := by
  cases b with
  | rep q =>
    cases q with
    | list f g z q => exact ⟨_, _, _, rfl, w.nx _ f, g, z, q⟩
  | own nx g z q => exact ⟨_, _, _, rfl, nx, g, z, q⟩
theorem BRep.tup_inv {l : List D} (b : BRep cx F h v (.tup l)) : TupInv cx F h v l := by
  cases b with
  | rep q =>
    cases q with
    | tup f g z q => exact ⟨_, _, _, rfl, f, g, z, q⟩
theorem BRep.str_inv {l : List Nat} (b : BRep cx F h v (.str l)) : StrInv v l := by
  cases b with
  | rep q => cases q with | str t p z => exact ⟨t, rfl, p, z⟩
theorem BRep.int_inv {i : Int} (b : BRep cx F h v (.int i)) : ∃ t, v = .int i t := by
  cases b with
  | rep q => cases q with | int _ t => exact ⟨t, rfl⟩
theorem BRep.bool_inv {i : Bool} (b : BRep cx F h v (.bool i)) : v = .bool i := by
  cases b with
  | rep q => cases q with | bool _ => rfl
theorem BRep.none_inv (b : BRep cx F h v .none) : v = .none := by
  cases b with
  | rep q => cases q with | none => rfl
theorem BRep.ty_inv {n : String} (b : BRep cx F h v (.ty n)) : v = .type n := by
  cases b with
  | rep q => cases q with | ty _ => rfl
theorem BRepL.two {vs : List Value} {a b : D} (q : BRepL cx F h vs [a, b]) : TwoInv cx F h vs a b := by
  cases q with
  | cons p q => cases q with | cons p' q => cases q; exact ⟨_, _, rfl, p, p'⟩
theorem BRepL.one {vs : List Value} {a : D} (q : BRepL cx F h vs [a]) : ∃ x, vs = [x] ∧ BRep cx F h x a := by
  cases q with
  | cons p q => cases q; exact ⟨_, rfl, p⟩
theorem truthy_ok (w : Wd cx F s) {d : D} {b : Bool} (q : BRep cx F s.heap v d) (e : d.truth = some b) : EvB cx A F s (truthy v) b := by
  intro Q E hQ
  cases d with
  | none => cases e; rw [q.none_inv]; exact PyProof.Rows.truthy_none (hQ F s (Step.refl w))
  | bool b => cases e; rw [q.bool_inv]; exact wpAny_truthy_bool (hQ F s (Step.refl w))
  | int i =>
    obtain ⟨t, rfl⟩ := q.int_inv
    cases e
    refine PyProof.Rows.truthy_int ?_
    have := hQ F s (Step.refl w)
    by_cases hi : i = 0
    · subst hi; exact this
    · have e1 : (i != 0) = true := bne_iff_ne.mpr hi
      rw [e1]
      simpa [hi] using this
  | str l =>
    obtain ⟨t, rfl, p, z⟩ := q.str_inv
    cases e
    refine P.truthy_str (by have := sz_lt z; show ¬ ((l.toArray.size : Nat) : Int) ≥ 2 ^ 63; rw [List.size_toArray]; omega) ?_
    have e : (((PySem.Str.mk l.toArray).length : Int) != 0) = !l.isEmpty := by
      show (((l.toArray.size : Nat) : Int) != 0) = _
      rw [List.size_toArray]
      cases l <;> simp <;> omega
    rw [e]
    exact hQ F _ ((Step.refl w).toks _)
  | list l =>
    obtain ⟨a, vs, n, rfl, nx, g, z, ql⟩ := q.list_inv w
    cases e
    refine wpAny_truthy_list (isList_of g) (by rw [List.size_toArray]; exact sz_lt z) ?_
    have e : (!vs.toArray.isEmpty) = !l.isEmpty := by
      have := ql.length
      clear q
      cases vs <;> cases l <;> simp_all
    rw [e]
    exact hQ F _ ((Step.refl w).toks _)
  | tup l =>
    obtain ⟨a, vs, n, rfl, f, g, z, ql⟩ := q.tup_inv
    cases e
    refine PyProof.Rows.truthy_tuple (isTup_of g) (by rw [List.size_toArray]; exact sz_lt z) ?_
    have e : (!vs.toArray.isEmpty) = !l.isEmpty := by
      have := ql.length
      clear q
      cases vs <;> cases l <;> simp_all
    rw [e]
    exact hQ F _ ((Step.refl w).toks _)
  | tok k => cases e
  | ty n => cases e
end
section
variable {cx : XCx} {ε : Sc}
theorem SoundT.ofE {e : Expr} {x : X} (h : SoundE cx ε e x) (hf : ∀ env, isTrue e env (eval e env) = (do let v ← eval e env; standAt e.pos; holding [v] (truthy v))) : SoundT cx ε e x := by
  intro n cf A env F s ρ ad m cm H b hb Q E hQ
  unfold evT truthR at hb
  split at hb
  · rename_i r e
    rw [hf]
    refine Ev.bind (h n cf A env F s ρ ad m cm H r e) fun v F' s' st q => ?_
    exact wpAny_bind (wpAny_standAt (wpAny_holding (truthy_ok st.wd q.brep hb _ _ fun F'' s'' st' => hQ F'' s'' (st.trans st'))))
  · cases hb
theorem Sound.ofE {e : Expr} {x : X} (h : SoundE cx ε e x) (hf : ∀ env, isTrue e env (eval e env) = (do let v ← eval e env; standAt e.pos; holding [v] (truthy v))) : Sound cx ε e x := ⟨h, SoundT.ofE h hf⟩
noncomputable def constD : Const → Option D
  | .none => some .none
  | .bool b => some (.bool b)
  | .int i => some (.int i)
  | .str x => if x.cps.toList.all (fun c => decide (c < 0x110000)) && decide (x.cps.size ≤ lim) then some (.str x.cps.toList) else none
  | _ => none
theorem sound_const {c : Const} {k : Nat} {pos : Pos} {d : D} (hd : constD c = some d) : Sound cx ε (.Constant c k pos) (.const d) := by
  refine Sound.ofE ?_ fun _ => rfl
  intro n cf A env F s ρ ad m cm H r hr Q E hQ
  replace hr := (evq_const _).symm.trans hr
  cases hr
  cases c <;> try cases hd
  · exact wpAny_pure (hQ _ F s (Step.refl H.wd) (.val .none))
  · exact wpAny_pure (hQ _ F s (Step.refl H.wd) (.val (.bool _)))
  · exact wpAny_Constant_int (hQ _ F _ ((Step.refl H.wd).toks _) (.val (.int _ _)))
  · rename_i x
    replace hd : (if (x.cps.toList.all (fun c => decide (c < 0x110000)) && decide (x.cps.size ≤ lim)) = true then some (D.str x.cps.toList) else none) = some d := hd
    split at hd
    · rename_i q
      cases hd
      simp only [Bool.and_eq_true, List.all_eq_true, decide_eq_true_eq] at q
      refine Calls.Constant_str (hQ _ F _ ((Step.refl H.wd).toks _) (.val ?_))
      exact Rep.str (l := x.cps.toList) _ q.1 (by rw [Array.length_toList]; exact q.2)
    · cases hd
theorem load_var {n cf A env F s ρ ad m cm} (H : Here cx ε n cf A env F s ρ ad m cm) {x : Str} {i : Nat} (hv : ε.vars.lookup x = some i) (hn : (x == ("__classdict__" : Str)) = false) {Q : Value → Shared → Prop} {E : Value → Shared → Prop}
    (h : ∀ v, SlotRep cx F s.heap ad i (some v) (slotAt ρ i) → Q v s) (hs : slotAt ρ i ≠ .unset) : wpAny (model cx.prog cx.w) A (loadName env x) Q E s := by
  have hk : env.scope.kind = .function := H.env.kind
  have key : ∀ {ov : Option Value}, SlotRep cx F s.heap ad i ov (slotAt ρ i) → ∃ v, ov = some v ∧ SlotRep cx F s.heap ad i (some v) (slotAt ρ i) := by
    intro ov q
    generalize slotAt ρ i = sl at *
    cases q with
    | unset => exact absurd rfl hs
    | val q => exact ⟨_, rfl, .val q⟩
    | own a b c d q => exact ⟨_, rfl, .own a b c d q⟩
    | app a b c => exact ⟨_, rfl, .app a b c⟩
  rcases H.env.vars x i hv with ⟨k, q⟩ | ⟨k, ⟨c, hc⟩, q⟩
  · obtain ⟨v, e, q'⟩ := key q
    exact wpAny_loadName_local hk (by unfold Env.kindOf; rw [H.env.names]; exact k) H.env.ns e (h v q')
  · obtain ⟨v, e, q'⟩ := key q
    have hcell := H.env.cells x c hc
    rw [e] at hcell
    rcases k with k | k
    · exact wpAny_loadName_cell hk (by unfold Env.kindOf; rw [H.env.names]; exact k) hc hcell (h v q')
    · exact wpAny_loadName_free hk (by unfold Env.kindOf; rw [H.env.names]; exact k) hc hcell (h v q') hn
theorem sound_var {x : Str} {i : Nat} {pos : Pos} (hv : ε.vars.lookup x = some i) (hn : (x == ("__classdict__" : Str)) = false) (hd : (x == ("__debug__" : Str)) = false) : Sound cx ε (.Name x pos) (.var i) := by
  refine Sound.ofE ?_ fun _ => rfl
  intro n cf A env F s ρ ad m cm H r hr Q E hQ
  refine wpAny_Name ?_ hd
  replace hr := (evq_var _).symm.trans hr
  have hr' : ∀ sl, ρ[i]? = some sl → slotAt ρ i = sl := fun sl e => by unfold slotAt; simp [List.getD, e]
  cases hs : ρ[i]? with
  | none => rw [hs] at hr; cases hr
  | some sl =>
    rw [hs] at hr
    have hsl := hr' sl hs
    refine load_var H hv hn (fun v q => ?_) (by rw [hsl]; intro e; subst e; cases hr)
    rw [hsl] at q
    cases q with
    | unset => cases hr
    | val q => cases hr; exact hQ v F s (Step.refl H.wd) (.val q)
    | own nf nx g z q => cases hr; exact hQ _ F s (Step.refl H.wd) (.bor nx g z q)
    | app a b c => cases hr
theorem run2 {n cf A env F s ρ ad m cm} (H : Here cx ε n cf A env F s ρ ad m cm) {l r : Expr} {xl xr : X} {o : Op} {res : R} {f : Value → Value → Sem Value} (hl : SoundE cx ε l xl) (hr : SoundE cx ε r xr) (ho : OpOK cx o (op2 f))
    (he : ev cf (.op o (.cons xl (.cons xr .nil))) ρ = some [res]) {Q : Value → Shared → Prop} {E : Value → Shared → Prop} (hQ : Post cx F s res Q) :
    wpAny (model cx.prog cx.w) A (eval l env) (fun a s₁ => wpAny (model cx.prog cx.w) A (eval r env) (fun b s₂ => wpAny (model cx.prog cx.w) A (f a b) Q E s₂) E s₁) E s := by
  obtain ⟨rs, h1, h2⟩ := ev_op he
  obtain ⟨ra, xs, ha, h3, rfl⟩ := ev_cons h1
  obtain ⟨rb, ys, hb, h4, rfl⟩ := ev_cons h3
  cases ev_nil h4
  refine hl n cf A env F s ρ ad m cm H ra ha _ _ fun a F' s' st qa => ?_
  refine hr n cf A env F' s' ρ ad m cm (H.step st) rb hb _ _ fun b F'' s'' st' qb => ?_
  exact ho n A F'' s'' [a, b] _ res H.ok H.bud st'.wd (.cons (st'.brep st.wd qa.brep) (.cons qb.brep .nil)) h2 _ _ (hQ.after (st.trans st'))
theorem sound_bin {l r : Expr} {op : Operator} {pos : Pos} {xl xr : X} {o : Op} (hl : Sound cx ε l xl) (hr : Sound cx ε r xr) (ho : OpOK cx o (op2 (binaryOp op))) : Sound cx ε (.BinOp l op r pos) (.op o (.cons xl (.cons xr .nil))) := by
  refine Sound.ofE ?_ fun _ => rfl
  intro n cf A env F s ρ ad m cm H res he Q E hQ
  exact wpAny_BinOp (run2 H hl.ev hr.ev ho he hQ)
theorem sound_cmp {l r : Expr} {op : CmpOp} {pos : Pos} {xl xr : X} {o : Op} (hl : Sound cx ε l xl) (hr : Sound cx ε r xr) (ho : OpOK cx o (op2 (compareOp op))) (hm : behindInMarks op r = false) : Sound cx ε (.Compare l [op] [r] pos) (.op o (.cons xl (.cons xr .nil))) := by
  have hE : SoundE cx ε (.Compare l [op] [r] pos) (.op o (.cons xl (.cons xr .nil))) := by
    intro n cf A env F s ρ ad m cm H res he Q E hQ
    exact wpAny_Compare1 (run2 H hl.ev hr.ev ho he hQ) hm
  refine ⟨hE, ?_⟩
  intro n cf A env F s ρ ad m cm H b hb Q E hQ
  unfold evT truthR at hb
  split at hb
  · rename_i res e
    refine wpAny_isTrue_Compare1 (run2 H hl.ev hr.ev ho e fun v F' s' st q => ?_) hm
    exact truthy_ok st.wd q.brep hb _ _ fun F'' s'' st' => hQ F'' s'' (st.trans st')
  · cases hb
theorem sound_un {e : Expr} {op : UnaryOp} {pos : Pos} {x : X} {o : Op} (h : Sound cx ε e x) (ho : OpOK cx o (op1 (unaryOp op))) (hn : op ≠ .Not) : Sound cx ε (.UnaryOp op e pos) (.op o (.cons x .nil)) := by
  refine Sound.ofE ?_ fun _ => by cases op <;> first | rfl | exact absurd rfl hn
  intro n cf A env F s ρ ad m cm H res he Q E hQ
  obtain ⟨rs, h1, h2⟩ := ev_op he
  obtain ⟨ra, xs, ha, h3, rfl⟩ := ev_cons h1
  cases ev_nil h3
  show wpAny _ _ (do let v ← eval e env; standAt pos; holding [v] (unaryOp op v)) Q E s
  refine Ev.bind (h.ev n cf A env F s ρ ad m cm H ra ha) fun a F' s' st qa => ?_
  refine wpAny_bind (wpAny_standAt (wpAny_holding ?_))
  exact ho n A F' s' [a] _ res H.ok H.bud st.wd (.cons qa.brep .nil) h2 _ _ (hQ.after st)
theorem sound_not {e : Expr} {pos : Pos} {x : X} (h : Sound cx ε e x) : Sound cx ε (.UnaryOp .Not e pos) (.not x) := by
  constructor
  · intro n cf A env F s ρ ad m cm H res he Q E hQ
    replace he := (evq_not _).symm.trans he
    split at he
    · rename_i r e1
      obtain ⟨b, hb, h2⟩ := Option.map_eq_some_iff.mp he
      cases h2
      show wpAny _ _ (do let v ← eval e env; standAt pos; holding [v] (unaryOp .Not v)) Q E s
      refine Ev.bind (h.ev n cf A env F s ρ ad m cm H r e1) fun a F' s' st qa => ?_
      refine wpAny_bind (wpAny_standAt (wpAny_holding ?_))
      exact not_of (truthy_ok st.wd qa.brep hb _ _ fun F'' s'' st' => hQ _ F'' s'' (st.trans st') (.val (.bool _)))
    · cases he
  · intro n cf A env F s ρ ad m cm H b hb Q E hQ
    unfold evT truthR at hb
    split at hb
    · rename_i res e1
      replace e1 := (evq_not _).symm.trans e1
      split at e1
      · rename_i r e2
        obtain ⟨b', hb', h2⟩ := Option.map_eq_some_iff.mp e1
        cases h2
        simp only [R.ds, D.truth, Option.some.injEq] at hb
        subst hb
        show wpAny _ _ (do return !(← isTrue e env (eval e env))) Q E s
        refine wpAny_bind (h.tr n cf A env F s ρ ad m cm H b' (by unfold evT truthR; rw [e2]; exact hb') _ _ fun F' s' st => ?_)
        exact wpAny_pure (hQ F' s' st)
      · cases e1
    · cases hb
theorem sound_ite {c t f : Expr} {pos : Pos} {xc xt xf : X} (hc : Sound cx ε c xc) (ht : Sound cx ε t xt) (hf : Sound cx ε f xf) : Sound cx ε (.IfExp c t f pos) (.ite xc xt xf) := by
  constructor
  · intro n cf A env F s ρ ad m cm H res he Q E hQ
    replace he := (evq_ite _).symm.trans he
    show wpAny _ _ (do if ← isTrue c env (eval c env) then eval t env else eval f env) Q E s
    split at he
    · rename_i hb
      refine wpAny_bind (hc.tr n cf A env F s ρ ad m cm H true hb _ _ fun F' s' st => ?_)
      exact ht.ev n cf A env F' s' ρ ad m cm (H.step st) res he _ _ (hQ.after st)
    · rename_i hb
      refine wpAny_bind (hc.tr n cf A env F s ρ ad m cm H false hb _ _ fun F' s' st => ?_)
      exact hf.ev n cf A env F' s' ρ ad m cm (H.step st) res he _ _ (hQ.after st)
    · cases he
  · intro n cf A env F s ρ ad m cm H b hb Q E hQ
    unfold evT at hb
    have he : ev cf (.ite xc xt xf) ρ = ev cf (.ite xc xt xf) ρ := rfl
    show wpAny _ _ (do if ← isTrue c env (eval c env) then isTrue t env (eval t env) else isTrue f env (eval f env)) Q E s
    rw [evq_ite] at hb
    split at hb
    · rename_i hb'
      refine wpAny_bind (hc.tr n cf A env F s ρ ad m cm H true hb' _ _ fun F' s' st => ?_)
      exact ht.tr n cf A env F' s' ρ ad m cm (H.step st) b hb _ _ fun F'' s'' st' => hQ F'' s'' (st.trans st')
    · rename_i hb'
      refine wpAny_bind (hc.tr n cf A env F s ρ ad m cm H false hb' _ _ fun F' s' st => ?_)
      exact hf.tr n cf A env F' s' ρ ad m cm (H.step st) b hb _ _ fun F'' s'' st' => hQ F'' s'' (st.trans st')
    · cases hb
inductive SoundB (cx : XCx) (ε : Sc) : BoolOp → List Expr → X → Prop
  | one {op : BoolOp} {e : Expr} {x : X} : Sound cx ε e x → SoundB cx ε op [e] x
  | and {e : Expr} {x : X} {es : List Expr} {y : X} : Sound cx ε e x → SoundB cx ε .And es y → SoundB cx ε .And (e :: es) (.and x y)
  | or {e : Expr} {x : X} {es : List Expr} {y : X} : Sound cx ε e x → SoundB cx ε .Or es y → SoundB cx ε .Or (e :: es) (.or x y)
theorem SoundB.ne {op : BoolOp} {es : List Expr} {x : X} (h : SoundB cx ε op es x) : ∃ e r, es = e :: r := by cases h <;> exact ⟨_, _, rfl⟩
theorem boolOp_cons {pos : Pos} {op : BoolOp} {x y : Sem Value} {r : List (Sem Value)} : boolOp pos op (x :: y :: r) = (do
    let v ← x
    standAt pos
    let t ← holding [v] (truthy v)
    match op, t with
    | .And, false | .Or, true => pure v
    | _, _ => boolOp pos op (y :: r)) := rfl
theorem boolOp_ok {n cf A env} {pos : Pos} {op : BoolOp} {es : List Expr} {x : X} (h : SoundB cx ε op es x) :
    ∀ F s ρ ad m cm, Here cx ε n cf A env F s ρ ad m cm → ∀ r, ev cf x ρ = some [r] → Ev cx A F s (boolOp pos op (evalEach es env)) r := by
  induction h with
  | one h => intro F s ρ ad m cm H r hr; exact h.ev n cf A env F s ρ ad m cm H r hr
  | @and e x es y h1 h2 ih =>
    intro F s ρ ad m cm H r hr Q E hQ
    obtain ⟨e2, r2, rfl⟩ := h2.ne
    show wpAny _ _ (boolOp pos .And (eval e env :: eval e2 env :: evalEach r2 env)) Q E s
    rw [boolOp_cons]
    replace hr := (evq_and _).symm.trans hr
    split at hr
    · rename_i x1 e1
      refine Ev.bind (h1.ev n cf A env F s ρ ad m cm H x1 e1) fun v F' s' st q => ?_
      refine wpAny_bind (wpAny_standAt (wpAny_bind (wpAny_holding ?_)))
      split at hr
      · rename_i hb
        refine truthy_ok st.wd q.brep hb _ _ fun F'' s'' st' => ?_
        exact ih F'' s'' ρ ad m cm ((H.step st).step st') r hr _ _ (hQ.after (st.trans st'))
      · rename_i hb
        cases hr
        refine truthy_ok st.wd q.brep hb _ _ fun F'' s'' st' => ?_
        exact wpAny_pure (hQ v F'' s'' (st.trans st') (q.step st' st.wd))
      · cases hr
    · cases hr
  | @or e x es y h1 h2 ih =>
    intro F s ρ ad m cm H r hr Q E hQ
    obtain ⟨e2, r2, rfl⟩ := h2.ne
    show wpAny _ _ (boolOp pos .Or (eval e env :: eval e2 env :: evalEach r2 env)) Q E s
    rw [boolOp_cons]
    replace hr := (evq_or _).symm.trans hr
    split at hr
    · rename_i x1 e1
      refine Ev.bind (h1.ev n cf A env F s ρ ad m cm H x1 e1) fun v F' s' st q => ?_
      refine wpAny_bind (wpAny_standAt (wpAny_bind (wpAny_holding ?_)))
      split at hr
      · rename_i hb
        refine truthy_ok st.wd q.brep hb _ _ fun F'' s'' st' => ?_
        exact ih F'' s'' ρ ad m cm ((H.step st).step st') r hr _ _ (hQ.after (st.trans st'))
      · rename_i hb
        cases hr
        refine truthy_ok st.wd q.brep hb _ _ fun F'' s'' st' => ?_
        exact wpAny_pure (hQ v F'' s'' (st.trans st') (q.step st' st.wd))
      · cases hr
    · cases hr
theorem allTrue_ok {n cf A env} {op : BoolOp} {es : List Expr} {x : X} (h : SoundB cx ε op es x) :
    ∀ F s ρ ad m cm, Here cx ε n cf A env F s ρ ad m cm → ∀ b, evT cf x ρ = some b → EvB cx A F s (allTrue op es env) b := by
  induction h with
  | @one op e x h =>
    intro F s ρ ad m cm H b hb Q E hQ
    show wpAny _ _ (do
      match op, ← isTrue e env (eval e env) with
      | .And, false => pure false
      | .Or, true => pure true
      | _, _ => allTrue op [] env) Q E s
    refine wpAny_bind (h.tr n cf A env F s ρ ad m cm H b hb _ _ fun F' s' st => ?_)
    cases op <;> cases b <;> exact wpAny_pure (hQ F' s' st)
  | @and e x es y h1 h2 ih =>
    intro F s ρ ad m cm H b hb Q E hQ
    show wpAny _ _ (do
      match BoolOp.And, ← isTrue e env (eval e env) with
      | .And, false => pure false
      | .Or, true => pure true
      | _, _ => allTrue .And es env) Q E s
    unfold evT at hb
    rw [evq_and] at hb
    split at hb
    · rename_i x1 e1
      split at hb
      · rename_i hb'
        refine wpAny_bind (h1.tr n cf A env F s ρ ad m cm H true (by unfold evT truthR; rw [e1]; exact hb') _ _ fun F' s' st => ?_)
        exact ih F' s' ρ ad m cm (H.step st) b hb _ _ fun F'' s'' st' => hQ F'' s'' (st.trans st')
      · rename_i hb'
        refine wpAny_bind (h1.tr n cf A env F s ρ ad m cm H false (by unfold evT truthR; rw [e1]; exact hb') _ _ fun F' s' st => ?_)
        have : b = false := by
          have : some b = some false := hb.symm.trans hb'
          cases this; rfl
        subst this
        exact wpAny_pure (hQ F' s' st)
      · cases hb
    · cases hb
  | @or e x es y h1 h2 ih =>
    intro F s ρ ad m cm H b hb Q E hQ
    show wpAny _ _ (do
      match BoolOp.Or, ← isTrue e env (eval e env) with
      | .And, false => pure false
      | .Or, true => pure true
      | _, _ => allTrue .Or es env) Q E s
    unfold evT at hb
    rw [evq_or] at hb
    split at hb
    · rename_i x1 e1
      split at hb
      · rename_i hb'
        refine wpAny_bind (h1.tr n cf A env F s ρ ad m cm H false (by unfold evT truthR; rw [e1]; exact hb') _ _ fun F' s' st => ?_)
        exact ih F' s' ρ ad m cm (H.step st) b hb _ _ fun F'' s'' st' => hQ F'' s'' (st.trans st')
      · rename_i hb'
        refine wpAny_bind (h1.tr n cf A env F s ρ ad m cm H true (by unfold evT truthR; rw [e1]; exact hb') _ _ fun F' s' st => ?_)
        have : b = true := by
          have : some b = some true := hb.symm.trans hb'
          cases this; rfl
        subst this
        exact wpAny_pure (hQ F' s' st)
      · cases hb
    · cases hb
theorem sound_bool {op : BoolOp} {es : List Expr} {x : X} {pos : Pos} (h : SoundB cx ε op es x) : Sound cx ε (.BoolOp op es pos) x :=
  ⟨fun _ _ _ _ F s ρ ad m cm H r hr => boolOp_ok h F s ρ ad m cm H r hr, fun _ _ _ _ F s ρ ad m cm H b hb => allTrue_ok h F s ρ ad m cm H b hb⟩
end
end Mine
end MpDx
section MpEx
open PySem PySem.Calls PyProof.Rows
namespace Mine
section
variable {cx : XCx}
theorem op_add : OpOK cx .add (op2 (binaryOp .Add)) := by
  intro n A F s vs ds r ok bud w q he Q E hQ
  replace he : opAdd ds = some r := he
  rcases ds with _ | ⟨a0, t0⟩
  · cases he
  cases a0 <;> try (cases he; done)
  all_goals
    rcases t0 with _ | ⟨a1, t1⟩
    · cases he
    cases a1 <;> try (cases he; done)
    rcases t1 with _ | ⟨a2, t2⟩ <;> try (cases he; done)
  · cases he
    obtain ⟨x, y, rfl, qa, qb⟩ := q.two
    obtain ⟨t, rfl⟩ := qa.int_inv
    obtain ⟨u, rfl⟩ := qb.int_inv
    exact P.add_int (hQ _ F _ ((Step.refl w).toks _) (.val (.int _ _)))
  · rename_i a b
    replace he : (if a.length + b.length ≤ lim then some (R.val (.str (a ++ b))) else none) = some r := he
    split at he <;> cases he
    rename_i hl
    obtain ⟨x, y, rfl, qa, qb⟩ := q.two
    obtain ⟨t, rfl, pa, za⟩ := qa.str_inv
    obtain ⟨u, rfl, pb, zb⟩ := qb.str_inv
    refine PyProof.Rows.add_str (fun t' tk => hQ _ F _ ((Step.refl w).toks _) (.val ?_)) (by
      show a.toArray.size + b.toArray.size ≤ sizeLine
      rw [List.size_toArray, List.size_toArray]; exact sz_line hl)
    have e : (PySem.Str.mk a.toArray ++ PySem.Str.mk b.toArray) = PySem.Str.mk (a ++ b).toArray := by
      show PySem.Str.mk (a.toArray ++ b.toArray) = _
      simp
    rw [e]
    exact .str _ (fun c hc => (List.mem_append.mp hc).elim (pa c) (pb c)) (by rw [List.length_append]; exact hl)
  · rename_i a b
    replace he : (if a.length + b.length ≤ lim then some (R.own (a ++ b)) else none) = some r := he
    split at he <;> cases he
    rename_i hl
    obtain ⟨x, y, rfl, qa, qb⟩ := q.two
    obtain ⟨l, vs, k, rfl, nx, g, z, q1⟩ := qa.list_inv w
    obtain ⟨l', vs', k', rfl, nx', g', z', q2⟩ := qb.list_inv w
    have hz : vs.length + vs'.length ≤ lim := by rw [q1.length, q2.length]; exact hl
    have e : vs.toArray ++ vs'.toArray = (vs ++ vs').toArray := by simp
    refine concat_meets ⟨_, g, rfl⟩ ⟨_, g', rfl⟩ noFill_list_add seq_list_add PySem.F.slot_list_add PySem.F.entry_list_add (PySem.F.args_list_add_2 _ _) (list_addW l l' vs.toArray vs'.toArray k k' none none #[] #[] (by simpa using sz_line hz)) ⟨g, g', ?_⟩
    rw [e]
    refine hQ _ F _ (Step.push ok w _ _) (.pushOwn w (by rw [List.length_append]; exact hz) (q1.append q2))
theorem op_sub : OpOK cx .sub (op2 (binaryOp .Sub)) := by
  intro n A F s vs ds r ok bud w q he Q E hQ
  delta opF at he; dsimp only at he
  unfold opSub at he
  split at he <;> cases he
  obtain ⟨x, y, rfl, qa, qb⟩ := q.two
  obtain ⟨t, rfl⟩ := qa.int_inv
  obtain ⟨u, rfl⟩ := qb.int_inv
  exact P.sub_int (hQ _ F _ ((Step.refl w).toks _) (.val (.int _ _)))
theorem op_neg : OpOK cx .neg (op1 (unaryOp .USub)) := by
  intro n A F s vs ds r ok bud w q he Q E hQ
  delta opF at he; dsimp only at he
  unfold opNeg at he
  split at he <;> cases he
  obtain ⟨x, rfl, qa⟩ := q.one
  obtain ⟨t, rfl⟩ := qa.int_inv
  exact P.neg_int (hQ _ F _ ((Step.refl w).toks _) (.val (.int _ _)))
theorem op_div : OpOK cx .fdiv (op2 (binaryOp .FloorDiv)) := by
  intro n A F s vs ds r ok bud w q he Q E hQ
  delta opF at he; dsimp only at he
  unfold opDiv at he
  split at he
  · rename_i a b
    split at he <;> cases he
    rename_i hb
    obtain ⟨x, y, rfl, qa, qb⟩ := q.two
    obtain ⟨t, rfl⟩ := qa.int_inv
    obtain ⟨u, rfl⟩ := qb.int_inv
    obtain ⟨env, l, e1, e2, e3, e4, e5⟩ := bud.fr
    refine PyProof.Rows.floordiv_int hb (hQ _ F _ ((Step.refl w).toks _) (.val (.int _ _))) (.inr (PylongRoom.of (w.lim ok) ?_ (SeerAt.of (ok.seer _ w.base) ok.tree e1 e2 e3 e4 e5)))
    have := bud.dp
    show A.depth + 100 < 1000
    omega
  · cases he
theorem op_mod : OpOK cx .mod (op2 (binaryOp .Mod)) := by
  intro n A F s vs ds r ok bud w q he Q E hQ
  delta opF at he; dsimp only at he
  unfold opMod at he
  split at he
  · rename_i a b
    split at he <;> cases he
    rename_i hb
    obtain ⟨x, y, rfl, qa, qb⟩ := q.two
    obtain ⟨t, rfl⟩ := qa.int_inv
    obtain ⟨u, rfl⟩ := qb.int_inv
    exact PyProof.Rows.mod_int' hb (hQ _ F _ ((Step.refl w).toks _) (.val (.int _ _)))
  · cases he
theorem cmp_ok {op : CmpOp} {f : D → D → Option Bool} {vs : List Value} {ds : List D} {F : Addr → Prop} {s : Shared} {A : Around} {r : R} (w : Wd cx F s) (q : BRepL cx F s.heap vs ds) (he : opBool f ds = some r)
    (h : ∀ x y a b c, BRep cx F s.heap x a → BRep cx F s.heap y b → f a b = some c → ∀ (Q : Value → Shared → Prop) (E : Value → Shared → Prop), (∀ k, Q (.bool c) { s with toks := k }) → wpAny (model cx.prog cx.w) A (compareOp op x y) Q E s) :
    Ev cx A F s (op2 (compareOp op) vs) r := by
  intro Q E hQ
  unfold opBool at he
  split at he
  · obtain ⟨c, hc, e⟩ := Option.map_eq_some_iff.mp he
    cases e
    obtain ⟨x, y, rfl, qa, qb⟩ := q.two
    exact h x y _ _ c qa qb hc Q E fun k => hQ _ F _ ((Step.refl w).toks k) (.val (.bool _))
  · cases he
theorem BRep.reads {F : Addr → Prop} {h : Heap} {v : Value} {d : D} {n : Nat} (q : BRep cx F h v d) (e : d.ok n = true) (hn : n ≤ 60) : (∃ as, Reads h v d.toPy as) ∧ PySem.SeqAt.shaped d.toPy = true := by
  cases q with
  | rep q => exact ⟨q.reads e, q.shaped e hn⟩
  | own nx g z q =>
    cases n with
    | zero => simp [D.ok] at e
    | succ n =>
      simp only [D.ok] at e
      obtain ⟨as, x⟩ := q.reads e
      refine ⟨⟨_, by unfold D.toPy; exact Reads.list g rfl rfl (by rw [List.toList_toArray]; exact x)⟩, ?_⟩
      have l := q.lay e
      unfold PySem.SeqAt.shaped D.toPy PyData.canLay0 PyData.depth
      rw [l.1, Bool.true_and]; exact decide_eq_true (by omega)
theorem mkStr_beq (a b : List Nat) : ((PySem.Str.mk a.toArray).cps.toList == (PySem.Str.mk b.toArray).cps.toList) = decide (a = b) := by
  show (a == b) = decide (a = b)
  by_cases h : a = b
  · subst h; simp
  · simp [h]
theorem eq_ok {F : Addr → Prop} {s : Shared} {A : Around} {n : Nat} {x y : Value} {a b : D} {c : Bool} (bud : BudE n A) (qa : BRep cx F s.heap x a) (qb : BRep cx F s.heap y b) (hc : eqD a b = some c)
    {Q : Value → Shared → Prop} {E : Value → Shared → Prop} (h : ∀ k, Q (.bool c) { s with toks := k }) : wpAny (model cx.prog cx.w) A (compareOp .Eq x y) Q E s := by
  unfold eqD at hc
  split at hc
  · cases hc
    obtain ⟨t, rfl, _, _⟩ := qa.str_inv
    obtain ⟨u, rfl, _, _⟩ := qb.str_inv
    exact P.eq_str (by rw [mkStr_beq]; exact h s.toks)
  · cases hc
    obtain ⟨t, rfl⟩ := qa.int_inv
    obtain ⟨u, rfl⟩ := qb.int_inv
    exact P.eq_int (by rw [show ∀ i j : Int, (i == j) = decide (i = j) from fun i j => rfl]; exact h s.toks)
  · split at hc <;> cases hc
    rename_i hok
    simp only [Bool.and_eq_true] at hok
    obtain ⟨⟨as, ra⟩, sa⟩ := qa.reads hok.1 (by omega)
    obtain ⟨⟨bs, rb⟩, sb⟩ := qb.reads hok.2 (by omega)
    exact PyProof.Rows.eq_dataH ra rb sa sb (by have := bud.un; show A.units + 64 < 9900; omega) (h s.toks)
theorem ne_ok {F : Addr → Prop} {s : Shared} {A : Around} {n : Nat} {x y : Value} {a b : D} {c : Bool} (bud : BudE n A) (qa : BRep cx F s.heap x a) (qb : BRep cx F s.heap y b) (hc : eqD a b = some c)
    {Q : Value → Shared → Prop} {E : Value → Shared → Prop} (h : ∀ k, Q (.bool (!c)) { s with toks := k }) : wpAny (model cx.prog cx.w) A (compareOp .NotEq x y) Q E s := by
  unfold eqD at hc
  split at hc
  · cases hc
    obtain ⟨t, rfl, _, _⟩ := qa.str_inv
    obtain ⟨u, rfl, _, _⟩ := qb.str_inv
    exact P.ne_str (by show Q (.bool (!(_ == _))) s; rw [mkStr_beq]; exact h s.toks)
  · cases hc
    obtain ⟨t, rfl⟩ := qa.int_inv
    obtain ⟨u, rfl⟩ := qb.int_inv
    exact P.ne_int (by show Q (.bool (!(_ == _))) s; exact h s.toks)
  · split at hc <;> cases hc
    rename_i hok
    simp only [Bool.and_eq_true] at hok
    obtain ⟨⟨as, ra⟩, sa⟩ := qa.reads hok.1 (by omega)
    obtain ⟨⟨bs, rb⟩, sb⟩ := qb.reads hok.2 (by omega)
    exact PyProof.Rows.ne_dataH ra rb sa sb (by have := bud.un; show A.units + 64 < 9900; omega) (h s.toks)
theorem op_eq : OpOK cx .eq (op2 (compareOp .Eq)) := by
  intro n A F s vs ds r ok bud w q he
  exact cmp_ok w q he fun x y a b c qa qb hc Q E h => eq_ok bud qa qb hc h
theorem op_ne : OpOK cx .ne (op2 (compareOp .NotEq)) := by
  intro n A F s vs ds r ok bud w q he
  refine cmp_ok w q he fun x y a b c qa qb hc Q E h => ?_
  obtain ⟨c', hc', rfl⟩ := Option.map_eq_some_iff.mp hc
  exact ne_ok bud qa qb hc' h
theorem in_ok {F : Addr → Prop} {s : Shared} {A : Around} {n : Nat} {x y : Value} {a b : D} {c : Bool} (w : Wd cx F s) (bud : BudE n A) (qa : BRep cx F s.heap x a) (qb : BRep cx F s.heap y b) (hc : inD a b = some c)
    {Q : Value → Shared → Prop} {E : Value → Shared → Prop} (h : ∀ k, Q (.bool c) { s with toks := k }) : wpAny (model cx.prog cx.w) A (compareOp .In x y) Q E s := by
  have hu : A.units + 65 < cLine := by have := bud.un; show A.units + 65 < 9900; omega
  unfold inD at hc
  split at hc
  · rename_i l
    split at hc <;> cases hc
    rename_i hok
    simp only [Bool.and_eq_true] at hok
    obtain ⟨⟨as, ra⟩, sa⟩ := qa.reads hok.2 (by omega)
    obtain ⟨⟨bs, rb⟩, sb⟩ := qb.reads (n := 9) (by simp only [D.ok]; exact hok.1) (by omega)
    unfold D.toPy at rb sb
    have l1 := SeqAt.canLay_of_shaped sb
    have l2 := SeqAt.canLay_of_shaped sa
    have l3 := SeqAt.depth_of_shaped sa
    have l4 := Nat.min_le_right (PyData.depthAll (D.toPys l)) a.toPy.depth
    exact SeqAt.in_list_reads rb ra l1 l2 (by show A.units + 1 + _ < 9900; have := bud.un; omega) (h s.toks)
  · rename_i l
    split at hc <;> cases hc
    rename_i hok
    simp only [Bool.and_eq_true] at hok
    obtain ⟨⟨as, ra⟩, sa⟩ := qa.reads hok.2 (by omega)
    obtain ⟨⟨bs, rb⟩, sb⟩ := qb.reads (n := 9) (by simp only [D.ok]; exact hok.1) (by omega)
    unfold D.toPy at rb sb
    have l1 := SeqAt.canLay_of_shaped sb
    have l2 := SeqAt.canLay_of_shaped sa
    have l3 := SeqAt.depth_of_shaped sa
    have l4 := Nat.min_le_right (PyData.depthAll (D.toPys l)) a.toPy.depth
    exact SeqAt.in_tuple_reads rb ra l1 l2 (by show A.units + 1 + _ < 9900; have := bud.un; omega) (h s.toks)
  · split at hc <;> cases hc
    obtain ⟨t, rfl, _, _⟩ := qa.str_inv
    obtain ⟨u, rfl, _, _⟩ := qb.str_inv
    exact P.in_str (h s.toks)
  · cases hc
theorem notin_ok {F : Addr → Prop} {s : Shared} {A : Around} {n : Nat} {x y : Value} {a b : D} {c : Bool} (w : Wd cx F s) (bud : BudE n A) (qa : BRep cx F s.heap x a) (qb : BRep cx F s.heap y b) (hc : inD a b = some c)
    {Q : Value → Shared → Prop} {E : Value → Shared → Prop} (h : ∀ k, Q (.bool (!c)) { s with toks := k }) : wpAny (model cx.prog cx.w) A (compareOp .NotIn x y) Q E s := by
  have hu : A.units + 65 < cLine := by have := bud.un; show A.units + 65 < 9900; omega
  unfold inD at hc
  split at hc
  · rename_i l
    split at hc <;> cases hc
    rename_i hok
    simp only [Bool.and_eq_true] at hok
    obtain ⟨⟨as, ra⟩, sa⟩ := qa.reads hok.2 (by omega)
    obtain ⟨⟨bs, rb⟩, sb⟩ := qb.reads (n := 9) (by simp only [D.ok]; exact hok.1) (by omega)
    unfold D.toPy at rb sb
    have l1 := SeqAt.canLay_of_shaped sb
    have l2 := SeqAt.canLay_of_shaped sa
    have l3 := SeqAt.depth_of_shaped sa
    have l4 := Nat.min_le_right (PyData.depthAll (D.toPys l)) a.toPy.depth
    exact SeqAt.notIn_list_reads rb ra l1 l2 (by show A.units + 1 + _ < 9900; have := bud.un; omega) (h s.toks)
  · rename_i l
    split at hc <;> cases hc
    rename_i hok
    simp only [Bool.and_eq_true] at hok
    obtain ⟨⟨as, ra⟩, sa⟩ := qa.reads hok.2 (by omega)
    obtain ⟨⟨bs, rb⟩, sb⟩ := qb.reads (n := 9) (by simp only [D.ok]; exact hok.1) (by omega)
    unfold D.toPy at rb sb
    have l1 := SeqAt.canLay_of_shaped sb
    have l2 := SeqAt.canLay_of_shaped sa
    have l3 := SeqAt.depth_of_shaped sa
    have l4 := Nat.min_le_right (PyData.depthAll (D.toPys l)) a.toPy.depth
    exact SeqAt.notIn_tuple_reads rb ra l1 l2 (by show A.units + 1 + _ < 9900; have := bud.un; omega) (h s.toks)
  · split at hc <;> cases hc
    obtain ⟨t, rfl, _, _⟩ := qa.str_inv
    obtain ⟨u, rfl, _, _⟩ := qb.str_inv
    exact P.notIn_str (h s.toks)
  · cases hc
theorem op_in : OpOK cx .in_ (op2 (compareOp .In)) := by
  intro n A F s vs ds r ok bud w q he
  exact cmp_ok w q he fun x y a b c qa qb hc Q E h => in_ok w bud qa qb hc h
theorem op_notin : OpOK cx .notin (op2 (compareOp .NotIn)) := by
  intro n A F s vs ds r ok bud w q he
  refine cmp_ok w q he fun x y a b c qa qb hc Q E h => ?_
  obtain ⟨c', hc', rfl⟩ := Option.map_eq_some_iff.mp hc
  exact notin_ok w bud qa qb hc' h
theorem ord_ok {op : CmpOp} {f : Int → Int → Bool} {g : List Nat → List Nat → Bool} {vs : List Value} {ds : List D} {F : Addr → Prop} {s : Shared} {A : Around} {r : R} (w : Wd cx F s) (q : BRepL cx F s.heap vs ds) (he : opCmp f g ds = some r)
    (h1 : ∀ a b t u (Q : Value → Shared → Prop) (E : Value → Shared → Prop), Q (.bool (f a b)) s → wpAny (model cx.prog cx.w) A (compareOp op (.int a t) (.int b u)) Q E s)
    (h2 : ∀ a b t u (Q : Value → Shared → Prop) (E : Value → Shared → Prop), Q (.bool (g a b)) s → wpAny (model cx.prog cx.w) A (compareOp op (.str ⟨a.toArray⟩ t) (.str ⟨b.toArray⟩ u)) Q E s) :
    Ev cx A F s (op2 (compareOp op) vs) r := by
  intro Q E hQ
  rcases ds with _ | ⟨a0, t0⟩
  · cases he
  cases a0 <;> try (cases he; done)
  all_goals
    rcases t0 with _ | ⟨a1, t1⟩
    · cases he
    cases a1 <;> try (cases he; done)
    rcases t1 with _ | ⟨a2, t2⟩ <;> try (cases he; done)
  · cases he
    obtain ⟨x, y, rfl, qa, qb⟩ := q.two
    obtain ⟨t, rfl⟩ := qa.int_inv
    obtain ⟨u, rfl⟩ := qb.int_inv
    exact h1 _ _ _ _ _ _ (hQ _ F _ (Step.refl w) (.val (.bool _)))
  · cases he
    obtain ⟨x, y, rfl, qa, qb⟩ := q.two
    obtain ⟨t, rfl, _, _⟩ := qa.str_inv
    obtain ⟨u, rfl, _, _⟩ := qb.str_inv
    exact h2 _ _ _ _ _ _ (hQ _ F _ (Step.refl w) (.val (.bool _)))
theorem op_lt : OpOK cx .lt (op2 (compareOp .Lt)) := fun n A F s vs ds r ok bud w q he =>
  ord_ok w q he (fun _ _ _ _ _ _ h => P.lt_int h) fun _ _ _ _ _ _ h => P.lt_str h
theorem op_le : OpOK cx .le (op2 (compareOp .LtE)) := fun n A F s vs ds r ok bud w q he =>
  ord_ok w q he (fun _ _ _ _ _ _ h => P.le_int h) fun _ _ _ _ _ _ h => P.le_str h
theorem op_gt : OpOK cx .gt (op2 (compareOp .Gt)) := fun n A F s vs ds r ok bud w q he =>
  ord_ok w q he (fun _ _ _ _ _ _ h => P.gt_int h) fun _ _ _ _ _ _ h => P.gt_str h
theorem op_ge : OpOK cx .ge (op2 (compareOp .GtE)) := fun n A F s vs ds r ok bud w q he =>
  ord_ok w q he (fun _ _ _ _ _ _ h => P.ge_int h) fun _ _ _ _ _ _ h => P.ge_str h
end
end Mine
end MpEx
section MpFx
open PySem PySem.Calls PyProof.Rows PySem.Builtin.Str
namespace Mine
section
variable {cx : XCx}
theorem small_of {i : Int} (h : small i = true) : -1000000000 ≤ i ∧ i ≤ 1000000000 := by
  unfold small at h
  simpa [Bool.and_eq_true, decide_eq_true_eq] using h
theorem place_eq (i : Int) (n : Nat) : place i n = seqIndex? i n := by
  rcases Int.lt_or_le i 0 with h | h
  · have h0 : ¬ 0 ≤ i := by omega
    simp only [place, seqIndex?, if_neg h0, if_pos h]
    by_cases h2 : 0 ≤ i + n
    · have h3 : i + n < n := by omega
      simp [h2, h3]
    · simp [h2]
  · have h0 : ¬ i < 0 := by omega
    simp only [place, seqIndex?, if_pos h, if_neg h0]
    by_cases h2 : i < n
    · simp [h, h2]
    · simp [h2]
theorem op_index : OpOK cx .index (op2 getItem) := by
  intro n A F s vs ds r ok bud w q he Q E hQ
  replace he : opIndex ds = some r := he
  rcases ds with _ | ⟨a0, t0⟩
  · cases he
  cases a0 <;> try (cases he; done)
  all_goals
    rcases t0 with _ | ⟨a1, t1⟩
    · cases he
    cases a1 <;> try (cases he; done)
    rcases t1 with _ | ⟨a2, t2⟩ <;> try (cases he; done)
  · rename_i l i
    replace he : (if small i then (match place i l.length with | some k => ((l[k]?).map fun c => R.val (.str [c])) | none => none) else none) = some r := he
    split at he
    · rename_i hs
      have hs := small_of hs
      split at he
      · rename_i k hk
        obtain ⟨c, hc, e⟩ := Option.map_eq_some_iff.mp he
        cases e
        obtain ⟨x, y, rfl, qa, qb⟩ := q.two
        obtain ⟨t, rfl, p, z⟩ := qa.str_inv
        obtain ⟨u, rfl⟩ := qb.int_inv
        refine P.getItem_str (c := c) (by simp; omega) ?_ (hQ _ F _ ((Step.refl w).toks _) (.val ?_))
        · rw [place_eq] at hk
          show (seqIndex? i l.toArray.size).bind _ = _
          rw [List.size_toArray, hk]
          show l.toArray[k]? = _
          simpa using hc
        · have : c ∈ l := List.mem_of_getElem? hc
          exact Rep.str (l := [c]) _ (fun d hd => by rw [List.mem_singleton.mp hd]; exact p c this) (by show 1 ≤ lim; decide)
      · cases he
    · cases he
  · rename_i l i
    replace he : (if small i then (match place i l.length with | some k => ((l[k]?).map R.val) | none => none) else none) = some r := he
    split at he
    · rename_i hs
      have hs := small_of hs
      split at he
      · rename_i k hk
        obtain ⟨d, hc, e⟩ := Option.map_eq_some_iff.mp he
        cases e
        obtain ⟨x, y, rfl, qa, qb⟩ := q.two
        obtain ⟨a, ws, m, rfl, nx, g, z, ql⟩ := qa.list_inv w
        obtain ⟨u, rfl⟩ := qb.int_inv
        obtain ⟨v, hv, rv⟩ := ql.get hc
        have hl := ql.length
        unfold place at hk
        split at hk
        · rename_i h0
          split at hk <;> cases hk
          rename_i h1
          exact wpAny_getItem_list (isList_of g) h0 (by omega) (by simpa using hv) (hQ _ F _ (Step.refl w) (.val rv))
        · rename_i h0
          split at hk <;> cases hk
          rename_i h1
          exact wpAny_getItem_list_neg (isList_of g) (by omega) (by rw [List.size_toArray, hl]; omega) (by omega) (by rw [List.size_toArray, hl]; simpa using hv) (hQ _ F _ (Step.refl w) (.val rv))
      · cases he
    · cases he
  · rename_i l i
    replace he : (if small i then (match place i l.length with | some k => ((l[k]?).map R.val) | none => none) else none) = some r := he
    split at he
    · rename_i hs
      have hs := small_of hs
      split at he
      · rename_i k hk
        obtain ⟨d, hc, e⟩ := Option.map_eq_some_iff.mp he
        cases e
        obtain ⟨x, y, rfl, qa, qb⟩ := q.two
        obtain ⟨a, ws, m, rfl, f, g, z, ql⟩ := qa.tup_inv
        obtain ⟨u, rfl⟩ := qb.int_inv
        obtain ⟨v, hv, rv⟩ := ql.get hc
        rw [place_eq] at hk
        exact PyProof.Rows.getItem_tuple (isTup_of g) (by omega) (by omega) (by rw [List.size_toArray, ql.length]; exact hk) (by simpa using hv) (hQ _ F _ (Step.refl w) (.val rv))
      · cases he
    · cases he
theorem clip_eq (i : Int) (n : Nat) : clip i n = clipAt n i := by
  unfold clip clipAt
  by_cases h : i < 0
  · rw [if_pos h, if_pos h, Int.min_eq_left (by have := Int.add_le_add_right (Int.le_of_lt h) (n : Int); rwa [Int.zero_add] at this)]
    rcases Int.le_total 0 (i + n) with q | q
    · rw [Int.max_eq_right q]
    · rw [Int.max_eq_left q, Int.toNat_of_nonpos q]; rfl
  · rw [if_neg h, if_neg h]
    by_cases g : i < n
    · rw [if_pos g, Int.min_eq_left (Int.le_of_lt g), Int.max_eq_right (Int.not_lt.mp h)]
    · rw [if_neg g, Int.min_eq_right (Int.not_lt.mp g), Int.max_eq_right (Int.natCast_nonneg n)]; rfl
theorem part_of {F : Addr → Prop} {h : Heap} {v : Value} {d : D} {o : Option Int} (q : BRep cx F h v d) (e : partD d = some o) : IsPart v o ∧ (∃ p : Option (Int × Tok), v = partValue p ∧ p.map (·.1) = o) := by
  cases d <;> try (cases e; done)
  · cases e; rw [q.none_inv]; exact ⟨.none, none, rfl, rfl⟩
  · rename_i i
    replace e : (if small i then some (some i) else none) = some o := e
    split at e <;> cases e
    obtain ⟨t, rfl⟩ := q.int_inv
    exact ⟨.int _ t, some (_, t), rfl, rfl⟩
theorem bound_part {d : D} {k n b : Nat} (h : bound d k n = some b) : ∃ o, partD d = some o ∧ b = o.elim k (clipAt n) := by
  cases d <;> try (cases h; done)
  · cases h; exact ⟨none, rfl, rfl⟩
  · rename_i i
    replace h : (if small i then some (clip i n) else none) = some b := h
    split at h <;> cases h
    rename_i hi
    exact ⟨some i, if_pos hi, clip_eq _ _⟩
theorem pick_toArray (vs : List Value) (lo hi st : Option Int) : slicePick vs.toArray lo hi st = (pick vs lo hi st).toArray := by
  unfold slicePick pick
  simp only [List.size_toArray]
  have e : (fun a : Nat => vs.toArray[a]?) = fun a => vs[a]? := by funext a; simp
  rw [e]
theorem RepL.pick {T : Nat → Addr} {F : Addr → Prop} {h : Heap} {vs : List Value} {ds : List D} (r : RepL T F h vs ds) (lo hi st : Option Int) : RepL T F h (pick vs lo hi st) (Mine.pick ds lo hi st) := by
  unfold Mine.pick
  rw [r.length]
  exact r.pickAt _
theorem pick_plain {α : Type} (l : List α) (lo hi : Option Int) : pick l lo hi none = cut l (lo.elim 0 (clipAt l.length)) (hi.elim l.length (clipAt l.length)) := by
  unfold pick cut
  rw [sliceBounds_plain]
  simp only [sliceRange_one]
  have := pick_run l.toArray (lo.elim 0 (clipAt l.length)) (hi.elim l.length (clipAt l.length) - lo.elim 0 (clipAt l.length))
  simp only [List.getElem?_toArray] at this
  exact this
theorem strSlice_pick (l : List Nat) (lo hi : Option Int) : ((strSliceIndices lo hi 1 l.length).filterMap (l[·]?)) = pick l lo hi none := rfl
theorem pick_length {α : Type} (l : List α) (lo hi : Option Int) : (pick l lo hi none).length ≤ l.length := by
  rw [pick_plain]; unfold cut
  rw [List.length_take, List.length_drop]; omega
theorem slice_list {F : Addr → Prop} {s : Shared} {A : Around} {E : Value → Shared → Prop} {Q : Value → Shared → Prop} (ok : CxOk cx) (w : Wd cx F s) {a sl : Addr} {vs : List Value} {n : Nat} {l : List D} {vl vu vst : Value} {lo hi st : Option Int}
    (g : s.heap.get? a = some (lobj vs.toArray n)) (z : vs.length ≤ lim) (q : RepL cx.T F s.heap vs l) (hs : s.heap.IsSliceOf sl vl vu vst) (pl : IsPart vl lo) (pu : IsPart vu hi) (ps : IsPart vst st) (h0 : st ≠ some 0)
    (hQ : Post cx F s (.own (pick l lo hi st)) Q) : wpAny (model cx.prog cx.w) A (getItem (.ref a) (.ref sl)) Q E s := by
  refine wpAny_getItem_list_slice (isList_of g) hs pl pu ps h0 ?_ (by rw [List.size_toArray]; exact sz_line z)
  have hsz : (pick vs lo hi st).length ≤ lim := by
    have := slicePick_size_le vs.toArray lo hi st
    rw [pick_toArray, List.size_toArray, List.size_toArray] at this
    exact Nat.le_trans this z
  rw [pick_toArray]
  refine hQ _ F _ (Step.push ok w _ _) (.pushOwn w hsz (q.pick lo hi st))
theorem slice_str {F : Addr → Prop} {s : Shared} {A : Around} {E : Value → Shared → Prop} {Q : Value → Shared → Prop} (w : Wd cx F s) {sl : Addr} {l : List Nat} {t : Tok} {pl pu : Option (Int × Tok)}
    (p : ∀ c ∈ l, c < 0x110000) (z : l.length ≤ lim) (hs : s.heap.IsSlice sl pl pu none) (hQ : Post cx F s (.val (.str (pick l (pl.map (·.1)) (pu.map (·.1)) none))) Q) :
    wpAny (model cx.prog cx.w) A (getItem (.str ⟨l.toArray⟩ t) (.ref sl)) Q E s := by
  refine wpAny_getItem_str_slice hs (by rfl) ?_
  have hsz := pick_length l (pl.map (·.1)) (pu.map (·.1))
  have hp : ∀ c ∈ pick l (pl.map (·.1)) (pu.map (·.1)) none, c < 0x110000 := fun c hc => by
    rw [pick_plain] at hc; unfold cut at hc
    exact p c (List.mem_of_mem_drop (List.mem_of_mem_take hc))
  have e0 : slicePicked ⟨l.toArray⟩ pl pu none = strSliceIndices (pl.map (·.1)) (pu.map (·.1)) 1 l.length := by
    unfold slicePicked
    show strSliceIndices _ _ 1 (l.toArray.size) = _
    rw [List.size_toArray]
  have e1 : ((slicePicked ⟨l.toArray⟩ pl pu none).filterMap ((PySem.Str.mk l.toArray).cps[·]?)) = pick l (pl.map (·.1)) (pu.map (·.1)) none := by
    rw [e0, ← strSlice_pick]
    have e : (fun a : Nat => (PySem.Str.mk l.toArray).cps[a]?) = fun a => l[a]? := by funext a; simp
    rw [e]
  unfold sliceMade
  rw [e1]
  by_cases hc : ((((none : Option (Int × Tok)).map (·.1)).getD 1 == 1 && (slicePicked ⟨l.toArray⟩ pl pu none).length == (PySem.Str.mk l.toArray).length) = true)
  · rw [if_pos hc]
    simp only [Bool.and_eq_true, beq_iff_eq] at hc
    have h2 := hc.2
    rw [e0] at h2
    have e3 : strSliceIndices (pl.map (·.1)) (pu.map (·.1)) 1 l.length = sliceRange (sliceBounds (pl.map (·.1)) (pu.map (·.1)) none l.length).1 (sliceBounds (pl.map (·.1)) (pu.map (·.1)) none l.length).2.1 (sliceBounds (pl.map (·.1)) (pu.map (·.1)) none l.length).2.2 := rfl
    rw [e3, sliceBounds_plain, sliceRange_one, List.length_map, List.length_range] at h2
    have h3 : (PySem.Str.mk l.toArray).length = l.length := by show l.toArray.size = _; rw [List.size_toArray]
    rw [h3] at h2
    have hb : (pu.map (·.1)).elim l.length (clipAt l.length) ≤ l.length := by
      cases (pu.map (·.1)) with
      | none => exact Nat.le_refl _
      | some i => show clipAt l.length i ≤ _; unfold clipAt; omega
    have : pick l (pl.map (·.1)) (pu.map (·.1)) none = l := by
      rw [pick_plain]
      unfold cut
      rcases Nat.eq_zero_or_pos l.length with h | h
      · rw [List.length_eq_zero_iff.mp h]; simp
      · have e2 : (pl.map (·.1)).elim 0 (clipAt l.length) = 0 := by omega
        rw [e2, List.drop_zero, List.take_of_length_le (by omega)]
    rw [this] at hQ
    exact hQ _ F _ (Step.refl w) (.val (.str t p z))
  · rw [if_neg hc]
    exact ⟨Nat.le_trans (by show (List.toArray _).size ≤ l.length; rw [List.size_toArray]; exact hsz) (sz_line z), hQ _ F _ ((Step.refl w).toks _) (.val (.str _ hp (Nat.le_trans hsz z)))⟩
end
end Mine
end MpFx
section MpGx
open PySem PySem.Calls PyProof.Rows PySem.Builtin.Str
namespace Mine
section
variable {cx : XCx} {ε : Sc}
theorem subscripted_any (slice : Expr) (o i : Value) : ∃ ops, subscripted slice false o i = operate ops (getItem o i) := by
  cases slice with
  | Slice l u st p => cases st <;> exact ⟨_, rfl⟩
  | _ => exact ⟨_, rfl⟩
noncomputable def seqD : D → Bool
  | .str _ | .list _ | .tup _ => true
  | _ => false
theorem tail_ok {F : Addr → Prop} {s : Shared} {A : Around} {value slice : Expr} {o i : Value} {d : D} {Q : Value → Shared → Prop} {E : Value → Shared → Prop} (w : Wd cx F s) (q : BRep cx F s.heap o d) (hd : seqD d = true)
    (h : wpAny (model cx.prog cx.w) A (getItem o i) Q E s) : wpAny (model cx.prog cx.w) A (subscriptTail value slice o i) Q E s := by
  obtain ⟨ops, hs⟩ := subscripted_any slice o i
  cases d with
  | str l =>
    obtain ⟨t, rfl, _, _⟩ := q.str_inv
    exact tail_any (typeIs_str s _ _) PySem.F.slot_str_getitem.lookup h hs
  | list l =>
    obtain ⟨a, vs, n, rfl, nx, g, z, _⟩ := q.list_inv w
    exact tail_any (T := "list") ⟨_, g, rfl⟩ list_getitem_lookup h hs
  | tup l =>
    obtain ⟨a, vs, n, rfl, f, g, z, _⟩ := q.tup_inv
    exact tail_any (T := "tuple") ⟨_, g, rfl⟩ PySem.F.slot_tuple_getitem.lookup h hs
  | _ => cases hd
theorem seqD_index {d e : D} {r : R} (h : opIndex [d, e] = some r) : seqD d = true := by
  cases d <;> first | rfl | (cases h; done)
theorem sound_index {v i : Expr} {pos : Pos} {xv xi : X} (hv : Sound cx ε v xv) (hi : Sound cx ε i xi) : Sound cx ε (.Subscript v i pos) (.op .index (.cons xv (.cons xi .nil))) := by
  refine Sound.ofE ?_ fun _ => rfl
  intro n cf A env F s ρ ad m cm H res he Q E hQ
  obtain ⟨rs, h1, h2⟩ := ev_op he
  obtain ⟨ra, xs, ha, h3, rfl⟩ := ev_cons h1
  obtain ⟨rb, ys, hb, h4, rfl⟩ := ev_cons h3
  cases ev_nil h4
  refine Subscript_ ?_
  refine hv.ev n cf A env F s ρ ad m cm H ra ha _ _ fun a F' s' st qa => ?_
  refine hi.ev n cf A env F' s' ρ ad m cm (H.step st) rb hb _ _ fun b F'' s'' st' qb => ?_
  have qa' := st'.brep st.wd qa.brep
  refine tail_ok st'.wd qa' (seqD_index h2) ?_
  exact op_index n A F'' s'' [a, b] _ res H.ok H.bud st'.wd (.cons qa' (.cons qb.brep .nil)) h2 _ _ (hQ.after (st.trans st'))
inductive SoundO (cx : XCx) (ε : Sc) : Option Expr → X → Prop
  | no : SoundO cx ε none (.const .none)
  | yes {e : Expr} {x : X} : Sound cx ε e x → SoundO cx ε (some e) x
theorem SoundO.run {o : Option Expr} {x : X} (h : SoundO cx ε o x) {n cf A env F s ρ ad m cm} (H : Here cx ε n cf A env F s ρ ad m cm) {r : R} (hr : ev cf x ρ = some [r]) : Ev cx A F s (evalPart o env) r := by
  cases h with
  | no => replace hr := (evq_const _).symm.trans hr; cases hr; exact Ev.here H.wd (.val .none)
  | yes h => exact h.ev n cf A env F s ρ ad m cm H r hr
theorem sliceOf_brep {F : Addr → Prop} {h : Heap} {v : Value} {d : D} {o : Option Int} (q : BRep cx F h v d) (e : partD d = some o) : ∃ p : Option (Int × Tok), v = partValue p ∧ p.map (·.1) = o := (part_of q e).2
theorem sound_slice {v : Expr} {l u : Option Expr} {p pos : Pos} {xv xl xu : X} (hv : Sound cx ε v xv) (hl : SoundO cx ε l xl) (hu : SoundO cx ε u xu) :
    Sound cx ε (.Subscript v (.Slice l u none p) pos) (.op .slice (.cons xv (.cons xl (.cons xu .nil)))) := by
  refine Sound.ofE ?_ fun _ => rfl
  intro n cf A env F s ρ ad m cm H res he Q E hQ
  obtain ⟨rs, h1, h2⟩ := ev_op he
  obtain ⟨ra, xs, ha, h3, rfl⟩ := ev_cons h1
  obtain ⟨rb, ys, hb, h4, rfl⟩ := ev_cons h3
  obtain ⟨rc, zs, hc, h5, rfl⟩ := ev_cons h4
  cases ev_nil h5
  refine Subscript_ ?_
  refine hv.ev n cf A env F s ρ ad m cm H ra ha _ _ fun a F' s' st qa => ?_
  refine wpAny_Slice ?_
  refine hl.run (H.step st) hb _ _ fun vl F1 s1 st1 ql => ?_
  refine hu.run ((H.step st).step st1) hc _ _ fun vu F2 s2 st2 qu => ?_
  refine wpAny_pure ?_
  have st3 := (st.trans st1).trans st2
  have st4 := Step.push H.ok st3.wd { cls := .type "slice", data := .fields #[vl, vu, .none] } s2.toks
  have qa' := st4.brep st3.wd ((st1.trans st2).brep st.wd qa.brep)
  have ql' := st4.brep st3.wd (st2.brep st1.wd ql.brep)
  have qu' := st4.brep st3.wd qu.brep
  have hs := Heap.IsSliceOf.new s2.heap vl vu .none
  replace h2 : opSlice [ra.ds, rb.ds, rc.ds] = some res := h2
  cases hx : ra.ds <;> rw [hx] at h2 <;> try (cases h2; done)
  · rename_i x
    rw [hx] at qa'
    replace h2 : (match bound rb.ds 0 x.length, bound rc.ds x.length x.length with | some lo, some hi => some (R.val (.str (cut x lo hi))) | _, _ => none) = some res := h2
    split at h2
    · rename_i lo hi hlo hhi
      cases h2
      obtain ⟨t, rfl, pp, z⟩ := qa'.str_inv
      refine tail_ok st4.wd qa' rfl ?_
      obtain ⟨ol, hol, rfl⟩ := bound_part hlo
      obtain ⟨ou, hou, rfl⟩ := bound_part hhi
      obtain ⟨pl, rfl, e4⟩ := sliceOf_brep ql' hol
      obtain ⟨pu, rfl, e5⟩ := sliceOf_brep qu' hou
      refine slice_str st4.wd (pl := pl) (pu := pu) pp z ?_ ?_
      · obtain ⟨o, h1, h2, h3⟩ := hs; exact ⟨o, h1, h2, h3⟩
      · rw [e4, e5, pick_plain]; exact hQ.after (st3.trans st4)
    · cases h2
  · rename_i x
    rw [hx] at qa'
    replace h2 : (match bound rb.ds 0 x.length, bound rc.ds x.length x.length with | some lo, some hi => some (R.own (cut x lo hi)) | _, _ => none) = some res := h2
    split at h2
    · rename_i lo hi hlo hhi
      cases h2
      obtain ⟨al, vs, k, rfl, nx, g, z, q⟩ := qa'.list_inv st4.wd
      refine tail_ok st4.wd qa' rfl ?_
      obtain ⟨ol, hol, rfl⟩ := bound_part hlo
      obtain ⟨ou, hou, rfl⟩ := bound_part hhi
      refine slice_list H.ok st4.wd g z q hs (part_of ql' hol).1 (part_of qu' hou).1 .none (by intro e; cases e) ?_
      rw [pick_plain]; exact hQ.after (st3.trans st4)
    · cases h2
theorem sound_slice3 {v st : Expr} {l u : Option Expr} {p pos : Pos} {xv xl xu xs : X} (hv : Sound cx ε v xv) (hl : SoundO cx ε l xl) (hu : SoundO cx ε u xu) (hst : Sound cx ε st xs) :
    Sound cx ε (.Subscript v (.Slice l u (some st) p) pos) (.op .slice3 (.cons xv (.cons xl (.cons xu (.cons xs .nil))))) := by
  refine Sound.ofE ?_ fun _ => rfl
  intro n cf A env F s ρ ad m cm H res he Q E hQ
  obtain ⟨rs, h1, h2⟩ := ev_op he
  obtain ⟨ra, xs', ha, h3, rfl⟩ := ev_cons h1
  obtain ⟨rb, ys, hb, h4, rfl⟩ := ev_cons h3
  obtain ⟨rc, zs, hc, h5, rfl⟩ := ev_cons h4
  obtain ⟨rd, ws, hd, h6, rfl⟩ := ev_cons h5
  cases ev_nil h6
  refine Subscript_ ?_
  refine hv.ev n cf A env F s ρ ad m cm H ra ha _ _ fun a F' s' st qa => ?_
  refine wpAny_Slice ?_
  refine hl.run (H.step st) hb _ _ fun vl F1 s1 st1 ql => ?_
  refine hu.run ((H.step st).step st1) hc _ _ fun vu F2 s2 st2 qu => ?_
  have st3 := (st.trans st1).trans st2
  refine hst.ev n cf A env F2 s2 ρ ad m cm (H.step st3) rd hd _ _ fun vs F3 s3 st5 qs => ?_
  have st6 := st3.trans st5
  have st4 := Step.push H.ok st6.wd { cls := .type "slice", data := .fields #[vl, vu, vs] } s3.toks
  have qa' := st4.brep st6.wd (((st1.trans st2).trans st5).brep st.wd qa.brep)
  have ql' := st4.brep st6.wd ((st2.trans st5).brep st1.wd ql.brep)
  have qu' := st4.brep st6.wd (st5.brep st3.wd qu.brep)
  have qs' := st4.brep st6.wd qs.brep
  have hs := Heap.IsSliceOf.new s3.heap vl vu vs
  replace h2 : opSlice3 [ra.ds, rb.ds, rc.ds, rd.ds] = some res := h2
  cases hx : ra.ds <;> rw [hx] at h2 <;> try (cases h2; done)
  cases hy : rd.ds <;> rw [hy] at h2 <;> try (cases h2; done)
  · rename_i x k
    rw [hx] at qa'; rw [hy] at qs'
    replace h2 : (match partD rb.ds, partD rc.ds with | some lo, some hi => if k ≠ 0 ∧ small k then some (R.own (pick x lo hi (some k))) else none | _, _ => none) = some res := h2
    split at h2
    · rename_i lo hi hlo hhi
      split at h2 <;> cases h2
      rename_i hk
      obtain ⟨al, vs', k', rfl, nx, g, z, q⟩ := qa'.list_inv st4.wd
      refine tail_ok st4.wd qa' rfl ?_
      obtain ⟨t, rfl⟩ := qs'.int_inv
      exact slice_list H.ok st4.wd g z q hs (part_of ql' hlo).1 (part_of qu' hhi).1 (.int _ _) (by intro e; cases e; exact hk.1 rfl) (hQ.after (st6.trans st4))
    · cases h2
end
end Mine
end MpGx
section MpHx
open PySem PySem.Calls PyProof.Rows PySem.Builtin.Str
namespace Mine
noncomputable def starred : Expr → Bool
  | .Starred _ _ => true
  | _ => false
theorem starEach_plain {e : Expr} {rest : List Expr} {env : Env} (h : starred e = false) : starEach (e :: rest) env = (false, eval e env) :: starEach rest env := by
  cases e <;> first | rfl | cases h
theorem backTo_plain {pos : Pos} {t : Sem Value} {r : List (Bool × Sem Value)} : backTo pos ((false, t) :: r) = (false, t) :: backTo pos r := by
  simp [backTo]
section
variable {cx : XCx} {ε : Sc}
inductive RepRL (cx : XCx) (F : Addr → Prop) (lo h : Heap) : List Value → List R → Prop
  | nil : RepRL cx F lo h [] []
  | cons {v : Value} {vs : List Value} {r : R} {rs : List R} : RepR cx F lo h v r → RepRL cx F lo h vs rs → RepRL cx F lo h (v :: vs) (r :: rs)
theorem RepRL.brep {F : Addr → Prop} {lo h : Heap} {vs : List Value} {rs : List R} (q : RepRL cx F lo h vs rs) : BRepL cx F h vs (rs.map R.ds) := by
  induction q with
  | nil => exact .nil
  | cons a _ ih => exact .cons a.brep ih
theorem RepRL.low {F F' F'' : Addr → Prop} {s s' : Shared} {h : Heap} {vs : List Value} {rs : List R} (x : Step cx F s F' s') (q : RepRL cx F'' s'.heap h vs rs) : RepRL cx F'' s.heap h vs rs := by
  induction q with
  | nil => exact .nil
  | cons a _ ih => exact .cons (a.low x) ih
theorem RepRL.append {F : Addr → Prop} {lo h : Heap} {vs ws : List Value} {rs ts : List R} (q : RepRL cx F lo h vs rs) (p : RepRL cx F lo h ws ts) : RepRL cx F lo h (vs ++ ws) (rs ++ ts) := by
  induction q with
  | nil => exact p
  | cons a _ ih => exact .cons a ih
theorem RepRL.vals {F : Addr → Prop} {lo h : Heap} {vs : List Value} {l : List D} (q : RepL cx.T F h vs l) : RepRL cx F lo h vs (l.map .val) := by
  induction vs generalizing l with
  | nil => cases q; exact .nil
  | cons v vs ih => cases q with | cons a b => exact .cons (.val a) (ih b)
theorem RepRL.length {F : Addr → Prop} {lo h : Heap} {vs : List Value} {rs : List R} (q : RepRL cx F lo h vs rs) : vs.length = rs.length := by
  induction q with
  | nil => rfl
  | cons _ _ ih => simp [ih]
theorem fz_all (ok : CxOk cx) {F : Addr → Prop} {s : Shared} (w : Wd cx F s) : ∀ {vs : List Value} {rs : List R} {ds : List D} {F' : Addr → Prop} {s' : Shared} {F₁ : Addr → Prop}, Step cx F s F₁ s' → (∀ a, F' a → F₁ a) → RepRL cx F' s.heap s'.heap vs rs → fzAll rs = some ds →
    ∃ F'', Step cx F s F'' s' ∧ (∀ a, F₁ a → F'' a) ∧ RepL cx.T F'' s'.heap vs ds := by
  intro vs rs ds F' s' F₁ x hF q e
  induction q generalizing ds F₁ with
  | nil => cases e; exact ⟨F₁, x, fun _ h => h, .nil⟩
  | @cons v vs r rs a b ih =>
    unfold fzAll at e
    split at e
    · rename_i d ds' e1 e2
      cases e
      cases a with
      | val a =>
        cases e1
        obtain ⟨F'', y, hs, q⟩ := ih x hF e2
        exact ⟨F'', y, hs, .cons (a.mono (fun c h => hs c (hF c h)) fun _ _ _ e => e) q⟩
      | own l nf nx g z a =>
        cases e1
        obtain ⟨F'', y, hs, q⟩ := ih (x.freeze ok w l g) (fun c h => .inl (hF c h)) e2
        exact ⟨F'', y, fun c h => hs c (.inl h), .cons (.list (hs _ (.inr rfl)) g z (a.mono (fun c h => hs c (.inl (hF c h))) fun _ _ _ e => e)) q⟩
      | bor _ _ _ _ => cases e1
    · cases e
inductive SoundL (cx : XCx) (ε : Sc) : List Expr → X → Bool → Prop
  | nil : SoundL cx ε [] .nil false
  | cons {e : Expr} {x : X} {es : List Expr} {y : X} {st : Bool} : Sound cx ε e x → starred e = false → SoundL cx ε es y st → SoundL cx ε (e :: es) (.cons x y) st
  | star {e : Expr} {x : X} {p : Pos} : Sound cx ε e x → SoundL cx ε [.Starred e p] (.star x) true
theorem collect_ok {F : Addr → Prop} {s : Shared} {A : Around} {E : Value → Shared → Prop} {Q : List Value → Shared → Prop} (ok : CxOk cx) (w : Wd cx F s) {v : Value} {r : R} {d : D} {l : List D} {lo : Heap} (q : RepR cx F lo s.heap v r) (e : r.fz = some d)
    (hl : d = .list l ∨ d = .tup l)
    (h : ∀ vs s', RepL cx.T F s'.heap vs l → vs.length ≤ lim → Step cx F s F s' → Q vs s') : PySem.W.StarOf (model cx.prog cx.w) A E v Q s := by
  have key : ∃ (a : Addr) (o : Obj) (T : String) (vs : List Value) (n : Nat), v = .ref a ∧ s.heap.get? a = some o ∧ o.cls = .type T ∧ o.data = .seq vs.toArray n ∧ (T = "list" ∨ T = "tuple") ∧ vs.length ≤ lim ∧ RepL cx.T F s.heap vs l := by
    cases q with
    | val q =>
      cases e
      rcases hl with rfl | rfl
      · cases q with | list f g z q => exact ⟨_, _, "list", _, _, rfl, g, rfl, rfl, .inl rfl, z, q⟩
      · cases q with | tup f g z q => exact ⟨_, _, "tuple", _, _, rfl, g, rfl, rfl, .inr rfl, z, q⟩
    | own l nf nx g z q =>
      cases e
      rcases hl with h | h <;> cases h
      exact ⟨_, _, "list", _, _, rfl, g, rfl, rfl, .inl rfl, z, q⟩
    | bor _ _ _ _ => cases e
  obtain ⟨a, o, T, vs, n, rfl, g, hc, hd, hT, z, q⟩ := key
  have hT' : s.TypeIs (.ref a) T := ⟨o, g, hc⟩
  have c : wpAny (model cx.prog cx.w) A (collect (.ref a)) Q E s := by
    refine wpAny_collect_seq a hT g hc hd (fun h' hk => ?_) (by rw [List.size_toArray]; exact sz_line z)
    exact h vs { s with heap := h' } (q.mono (fun _ h => h) fun a o _ e => hk a o e) z (Step.grown ok w s.toks hk)
  unfold PySem.W.StarOf notIterableAtAll
  rcases hT with rfl | rfl
  · exact wpAny_bind (wpAny_specialOf hT' PySem.F.slot_list_iter.lookup (wpAny_pure ⟨rfl, c⟩))
  · exact wpAny_bind (wpAny_specialOf hT' PySem.F.slot_tuple_iter.lookup (wpAny_pure ⟨rfl, c⟩))
theorem ev_star {cf : Nat → List D → Option D} {ρ : List Slot} {a : X} {rs : List R} (h : ev cf (.star a) ρ = some rs) : ∃ x d l, ev cf a ρ = some [x] ∧ x.fz = some d ∧ (d = .list l ∨ d = .tup l) ∧ rs = l.map .val := by
  replace h := (evq_star _).symm.trans h
  split at h
  · rename_i x e
    split at h
    · rename_i l e'; cases h; exact ⟨x, _, l, e, e', .inl rfl, rfl⟩
    · rename_i l e'; cases h; exact ⟨x, _, l, e, e', .inr rfl, rfl⟩
    · cases h
  · cases h
theorem star_run {n cf A env F s ρ ad m cm} (H : Here cx ε n cf A env F s ρ ad m cm) {e : Expr} {x : X} (h : Sound cx ε e x) {rs : List R} (hr : ev cf (.star x) ρ = some rs) {Q : List Value → Shared → Prop} {E : Value → Shared → Prop}
    (hQ : ∀ vs F' s', Step cx F s F' s' → RepRL cx F' s.heap s'.heap vs rs → vs.length ≤ lim → Q vs s') : wpAny (model cx.prog cx.w) A (eval e env) (fun v s₁ => PySem.W.StarOf (model cx.prog cx.w) A E v Q s₁) E s := by
  obtain ⟨r, d, l, e1, e2, e3, rfl⟩ := ev_star hr
  refine h.ev n cf A env F s ρ ad m cm H r e1 _ _ fun v F' s' st q => ?_
  obtain ⟨F'', st', hs, rd⟩ := st.fz H.ok H.wd q e2
  have q' : RepR cx F'' s.heap s'.heap v (.val d) := .val rd
  exact collect_ok H.ok st'.wd q' rfl e3 fun vs s'' ql z st'' => hQ vs F'' s'' (st'.trans st'') (RepRL.vals ql) z
theorem SoundL.run {es : List Expr} {x : X} {b : Bool} (h : SoundL cx ε es x b) {n cf A env} {pos : Pos} :
    ∀ F s ρ ad m cm, Here cx ε n cf A env F s ρ ad m cm → ∀ rs, ev cf x ρ = some rs → ∀ (Q : List Value → Shared → Prop) (E : Value → Shared → Prop),
      (∀ vs F' s', Step cx F s F' s' → RepRL cx F' s.heap s'.heap vs rs → Q vs s') → wpAny (model cx.prog cx.w) A (spliced (backTo pos (starEach es env))) Q E s := by
  induction h with
  | nil =>
    intro F s ρ ad m cm H rs hr Q E hQ
    cases ev_nil hr
    exact Calls.spliced_nil (hQ [] F s (Step.refl H.wd) .nil)
  | @cons e x es y st h1 hs h2 ih =>
    intro F s ρ ad m cm H rs hr Q E hQ
    obtain ⟨r, rs', e1, e2, rfl⟩ := ev_cons hr
    rw [starEach_plain hs, backTo_plain]
    refine Calls.spliced_cons ?_
    refine h1.ev n cf A env F s ρ ad m cm H r e1 _ _ fun v F' s' st q => ?_
    refine ih F' s' ρ ad m cm (H.step st) rs' e2 _ _ fun vs F'' s'' st' qs => ?_
    exact hQ _ F'' s'' (st.trans st') (.cons (q.step st' st.wd) (qs.low st))
  | @star e x p h1 =>
    intro F s ρ ad m cm H rs hr Q E hQ
    refine PySem.W.ks_spliced (rest := []) (star_run H h1 hr fun vs F' s' st q z => ?_)
    exact Calls.spliced_nil (by rw [List.append_nil]; exact hQ vs F' s' st q)
theorem sound_list {es : List Expr} {x : X} {b : Bool} {pos : Pos} (h : SoundL cx ε es x b) : Sound cx ε (.List es pos) (.list x) := by
  refine Sound.ofE ?_ fun _ => rfl
  intro n cf A env F s ρ ad m cm H res he Q E hQ
  replace he := (evq_list _).symm.trans he
  split at he
  · rename_i rs e1
    split at he
    · rename_i ds e2
      split at he <;> cases he
      rename_i hz
      show wpAny _ _ (do standAt pos; newList (← spliced (backTo pos (starEach es env)))) Q E s
      refine wpAny_bind (wpAny_standAt (wpAny_bind ?_))
      refine h.run F s ρ ad m cm H rs e1 _ _ fun vs F' s' st q => ?_
      obtain ⟨F'', st', _, q'⟩ := fz_all H.ok H.wd st (fun _ h => h) q e2
      have z : vs.length ≤ lim := by rw [q'.length]; exact hz
      refine wpAny_newList ?_ (sz_line z)
      exact hQ _ F'' _ (st'.trans (Step.push H.ok st'.wd _ _)) ((RepR.pushOwn st'.wd z q').low st')
    · cases he
  · cases he
theorem push_tup {F : Addr → Prop} {s : Shared} (ok : CxOk cx) (w : Wd cx F s) {vs : List Value} {l : List D} (k : Nat) (z : vs.length ≤ lim) (q : RepL cx.T F s.heap vs l) :
    ∃ F', Step cx F s F' { s with heap := s.heap.push (tobj vs.toArray 0), toks := k } ∧ Rep cx.T F' (s.heap.push (tobj vs.toArray 0)) (.ref s.heap.objs.size) (.tup l) := by
  have st := Step.push ok w (tobj vs.toArray 0) k
  have g : (s.heap.push (tobj vs.toArray 0)).get? s.heap.objs.size = some (tobj vs.toArray 0) := Heap.get?_push_size _ rfl
  exact ⟨_, st.freeze ok w (fresh_size _) g, .tup (.inr rfl) g z ((st.repL w q).mono (fun _ h => .inl h) fun _ _ _ e => e)⟩
theorem sound_tup {es : List Expr} {x : X} {b : Bool} {k : Nat} {pos : Pos} (h : SoundL cx ε es x b) : Sound cx ε (.Tuple es k pos) (.tup x) := by
  refine Sound.ofE ?_ fun _ => rfl
  intro n cf A env F s ρ ad m cm H res he Q E hQ
  replace he := (evq_tup _).symm.trans he
  split at he
  · rename_i rs e1
    split at he
    · rename_i ds e2
      split at he <;> cases he
      rename_i hz
      show wpAny _ _ (do standAt pos; newTuple (← spliced (backTo pos (starEach es env)))) Q E s
      refine wpAny_bind (wpAny_standAt (wpAny_bind ?_))
      refine h.run F s ρ ad m cm H rs e1 _ _ fun vs F' s' st q => ?_
      obtain ⟨F'', st', _, q'⟩ := fz_all H.ok H.wd st (fun _ h => h) q e2
      have z : vs.length ≤ lim := by rw [q'.length]; exact hz
      refine wpAny_newTuple ?_ (sz_line z)
      obtain ⟨F3, st3, r⟩ := push_tup H.ok st'.wd s'.toks z q'
      exact hQ _ F3 _ (st'.trans st3) (.val r)
    · cases he
  · cases he
theorem backTo_any {es : List Expr} {x : X} {b : Bool} {pos : Pos} {env : Env} (h : SoundL cx ε es x b) : (backTo pos (starEach es env)).any (·.1) = b := by
  induction h with
  | nil => rfl
  | cons h1 hs h2 ih => rw [starEach_plain hs, backTo_plain, List.any_cons]; simpa using ih
  | star h => rfl
theorem evalArgs_ok {es : List Expr} {x : X} {b : Bool} {pos : Pos} (h : SoundL cx ε es x b) {n cf A env F s ρ ad m cm} (H : Here cx ε n cf A env F s ρ ad m cm) {rs : List R} (hr : ev cf x ρ = some rs) {f : Value} {Q : Args → Shared → Prop} {E : Value → Shared → Prop}
    (hQ : ∀ vs F' s', Step cx F s F' s' → RepRL cx F' s.heap s'.heap vs rs → Q ⟨vs, []⟩ s') : wpAny (model cx.prog cx.w) A (evalArgs f true (backTo pos (starEach es env)) []) Q E s := by
  cases h with
  | nil =>
    cases ev_nil hr
    exact PySem.evalArgs_none (hQ [] F s (Step.refl H.wd) .nil)
  | @cons e x es y b h1 hs h2 =>
    have := (SoundL.cons h1 hs h2).run (pos := pos) F s ρ ad m cm H rs hr
    rw [starEach_plain hs, backTo_plain] at this ⊢
    exact Calls.evalArgs_plain (this _ _ hQ)
  | star h1 =>
    exact PySem.W.ks_lone (star_run H h1 hr fun vs F' s' st q _ => hQ vs F' s' st q)
theorem load_global {n cf A env F s ρ ad m cm} (H : Here cx ε n cf A env F s ρ ad m cm) {x : Str} {pos : Pos} {v : Value} (hk : ε.kinds.lookup x = some .globalImplicit) (hv : cx.mg x = some v) (hd : (x == ("__debug__" : Str)) = false)
    {Q : Value → Shared → Prop} {E : Value → Shared → Prop} (h : Q v s) : wpAny (model cx.prog cx.w) A (eval (.Name x pos) env) Q E s :=
  Calls.Name_function_global H.env.kind (by unfold Env.kindOf; rw [H.env.names]; exact hk) (Calls.loadGlobal_global (H.env.glob ▸ H.wd.glob H.ok) hv h) hd
theorem load_builtin {n cf A env F s ρ ad m cm} (H : Here cx ε n cf A env F s ρ ad m cm) {x : Str} {pos : Pos} {v : Value} (hk : ε.kinds.lookup x = some .globalImplicit) (hg : cx.mg x = none) (hn : x ≠ "__name__") (hv : bootBuiltins x = some v) (hd : (x == ("__debug__" : Str)) = false)
    {Q : Value → Shared → Prop} {E : Value → Shared → Prop} (h : Q v s) : wpAny (model cx.prog cx.w) A (eval (.Name x pos) env) Q E s :=
  Calls.Name_function_global H.env.kind (by unfold Env.kindOf; rw [H.env.names]; exact hk) (Calls.loadGlobal_builtin (H.env.glob ▸ H.wd.glob H.ok) hg (H.env.blt ▸ H.wd.blt H.ok) ((H.ok.bmb x hn).trans hv) h) hd
theorem call_not_method {f : Expr} {args : List Expr} {pos : Pos} {env : Env} (hf : ∀ o n p, f ≠ .Attribute o n p) : eval (.Call f args [] pos) env = (do callWith pos (← eval f env) [] (backTo pos (starEach args env)) []) := by
  cases f <;> first | rfl | exact absurd rfl (hf _ _ _)
theorem sound_call {f : Str} {i : Nat} {p pos : Pos} {es : List Expr} {x : X} {b : Bool} (hk : ε.kinds.lookup f = some .globalImplicit) (hv : cx.mg f = some (.ref (cx.fa i))) (hd : (f == ("__debug__" : Str)) = false) (h : SoundL cx ε es x b) :
    Sound cx ε (.Call (.Name f p) es [] pos) (.call i x) := by
  refine Sound.ofE ?_ fun _ => rfl
  intro n cf A env F s ρ ad m cm H res he Q E hQ
  replace he := (evq_call _).symm.trans he
  split at he
  · rename_i rs e1
    split at he
    · rename_i ds e2
      obtain ⟨d, e3, e4⟩ := Option.map_eq_some_iff.mp he
      cases e4
      rw [call_not_method (by intro _ _ _ e; cases e)]
      obtain ⟨⟨o, fd, g, hfd, nx⟩, hcall⟩ := H.calls i ds d e3
      refine wpAny_bind (load_global H hk hv hd ?_)
      refine Calls.callWith_function (o := o) (fd := fd) (evalArgs_ok h H e1 fun vs F' s' st q => ?_)
      obtain ⟨F'', st', _, q'⟩ := fz_all H.ok H.wd st (fun _ h => h) q e2
      refine ⟨⟨st'.wd.base _ _ g nx, hfd⟩, ?_⟩
      show wpAny _ _ (call (.ref (cx.fa i)) vs) Q E s'
      refine wpAny_call (hcall A F'' s' vs H.bud.toBud st'.wd q' _ fun v F3 s3 st3 r => ?_)
      exact hQ v F3 s3 (st'.trans st3) (.val r)
    · cases he
  · cases he
inductive Callee : Value → Prop
  | builtin (id : String) : Callee (.builtin id)
  | type (T : String) : Callee (.type T)
theorem sound_callB {f : Str} {c : Value} {o : Op} {p pos : Pos} {es : List Expr} {x : X} (hk : ε.kinds.lookup f = some .globalImplicit) (hg : cx.mg f = none) (hn : f ≠ "__name__") (hv : bootBuiltins f = some c) (hc : Callee c)
    (hd : (f == ("__debug__" : Str)) = false) (h : SoundL cx ε es x false) (ho : OpOK cx o (fun vs => call c vs)) : Sound cx ε (.Call (.Name f p) es [] pos) (.op o x) := by
  refine Sound.ofE ?_ fun _ => rfl
  intro n cf A env F s ρ ad m cm H res he Q E hQ
  obtain ⟨rs, e1, e2⟩ := ev_op he
  rw [call_not_method (by intro _ _ _ e; cases e)]
  refine wpAny_bind (load_builtin H hk hg hn hv hd ?_)
  cases hc with
  | builtin id =>
    refine Calls.callWith_builtin (backTo_any h) (evalArgs_ok h H e1 fun vs F' s' st q => ?_)
    exact ho n A F' s' vs _ res H.ok H.bud st.wd q.brep e2 _ _ (hQ.after st)
  | type T =>
    refine PyProof.Rows.callWith_type (backTo_any h) (evalArgs_ok h H e1 fun vs F' s' st q => ?_)
    exact ho n A F' s' vs _ res H.ok H.bud st.wd q.brep e2 _ _ (hQ.after st)
noncomputable def plainBase : Expr → Bool
  | .Call (.Name _ _) [] [] _ => false
  | _ => true
theorem plainBase_ok {o : Expr} {a : Str} {env : Env} {t : Sem Value} (h : plainBase o = true) : attributeBase o a env t = t := by
  cases o with
  | Call f as ks pos => cases f with
    | Name x p => cases as with
      | nil => cases ks with
        | nil => cases h
        | cons _ _ => rfl
      | cons _ _ => rfl
    | _ => rfl
  | _ => rfl
theorem meth_run {o : Expr} {name : Str} {apos pos : Pos} {es : List Expr} {env : Env} {A : Around} {s : Shared} {Q : Value → Shared → Prop} {E : Value → Shared → Prop} (hb : plainBase o = true) (hl : (apos.endLine == pos.line) = true) (hn : es.length < 30)
    (hst : (backTo pos (starEach es env)).any (·.1) = false)
    (h : wpAny (model cx.prog cx.w) A (eval o env) (fun ov s₁ => wpAny (model cx.prog cx.w) A (getMethod ov name (do return (← importBound o env).getD true)) (fun fx s₂ => wpAny (model cx.prog cx.w) A (callWith pos fx.1 fx.2 (backTo pos (starEach es env)) []) Q E s₂) E s₁) E s) :
    wpAny (model cx.prog cx.w) A (eval (.Call (.Attribute o name apos) es [] pos) env) Q E s := by
  have hform : methodCallForm (es.length + ([] : List Keyword).length) (backTo pos (starEach es env)) [] = true := by
    unfold methodCallForm
    simp only [List.length_nil, Nat.add_zero, List.all_nil, Bool.and_true, List.isEmpty_nil, if_true, Bool.and_eq_true, decide_eq_true_eq]
    refine ⟨?_, hn⟩
    rw [List.all_eq_true]
    intro y hy
    have := List.any_eq_false.mp hst y hy
    simpa using this
  have hpos : methodCallPos true o env apos pos = pure pos := by unfold methodCallPos; simp [hl]
  show wpAny _ _ (do
    let ov ← attributeBase o name env (eval o env)
    standAt apos.atName
    methodCall o name apos pos env ov (es.length + ([] : List Keyword).length) (backTo pos (starEach es env)) (backToKw pos (keywordEach [] env))) Q E s
  rw [plainBase_ok hb]
  refine wpAny_bind (wpAny_mono h (fun ov s₁ h₁ => wpAny_bind (wpAny_standAt ?_)) fun _ _ e => e)
  show wpAny _ _ (methodCall o name apos pos env ov (es.length + ([] : List Keyword).length) (backTo pos (starEach es env)) []) Q E s₁
  unfold methodCall calleeOf
  rw [hform]
  refine wpAny_bind (wpAny_holding (wpAny_mono h₁ (fun fx s₂ h₂ => ?_) fun _ _ e => e))
  rw [hpos]
  exact wpAny_bind (wpAny_pure h₂)
theorem sound_strMeth {o : Expr} {name : Str} {id : String} {apos pos : Pos} {es : List Expr} {xo x : X} {op : Op} (hb : plainBase o = true) (hl : (apos.endLine == pos.line) = true) (hn : es.length < 30)
    (slot : PySem.Slot "str" name id) (ty : typeOf (.builtin id) = pure (.type "method_descriptor"))
    (h0 : Sound cx ε o xo) (h : SoundL cx ε es x false) (hs : ∀ d ds r, opF op (d :: ds) = some r → ∃ l, d = .str l) (ho : OpOK cx op (fun vs => call (.builtin id) vs)) : Sound cx ε (.Call (.Attribute o name apos) es [] pos) (.op op (.cons xo x)) := by
  refine Sound.ofE ?_ fun _ => rfl
  intro n cf A env F s ρ ad m cm H res he Q E hQ
  obtain ⟨rs, e1, e2⟩ := ev_op he
  obtain ⟨r0, rs', e3, e4, rfl⟩ := ev_cons e1
  refine meth_run hb hl hn (backTo_any h) ?_
  refine h0.ev n cf A env F s ρ ad m cm H r0 e3 _ _ fun v F' s' st q => ?_
  obtain ⟨l, hl'⟩ := hs _ _ _ e2
  have qb := q.brep
  rw [hl'] at qb
  obtain ⟨t, rfl, p, z⟩ := qb.str_inv
  refine GM.of _ (typeIs_str _ _ _) slot ty (fun _ e => nomatch e) ?_
  refine Calls.callWith_builtin (backTo_any h) (evalArgs_ok h (H.step st) e4 fun vs F'' s'' st' qs => ?_)
  exact ho n A F'' s'' (_ :: vs) _ res H.ok H.bud st'.wd (.cons (st'.brep st.wd q.brep) qs.brep) e2 _ _ (hQ.after (st.trans st'))
end
end Mine
end MpHx
section MpIx
open PySem PySem.Calls PyProof.Rows PySem.Builtin.Str
namespace Mine
theorem foldl_arrays {α : Type} (n : Nat) (l : List α) : ((List.replicate n l.toArray).foldl (· ++ ·) #[]) = ((List.replicate n l).flatten).toArray := by
  have : ∀ (m : Nat) (acc : List α), ((List.replicate m l.toArray).foldl (· ++ ·) acc.toArray) = (acc ++ (List.replicate m l).flatten).toArray := by
    intro m
    induction m with
    | zero => intro acc; simp
    | succ m ih =>
      intro acc
      simp only [List.replicate_succ, List.foldl_cons, List.flatten_cons]
      rw [show acc.toArray ++ l.toArray = (acc ++ l).toArray by simp, ih]
      simp
  have := this n []
  simpa using this
section
variable {cx : XCx}
theorem op_mul : OpOK cx .mul (op2 (binaryOp .Mult)) := by
  intro n A F s vs ds r ok bud w q he Q E hQ
  replace he : opMul ds = some r := he
  rcases ds with _ | ⟨a0, t0⟩
  · cases he
  cases a0 <;> try (cases he; done)
  all_goals
    rcases t0 with _ | ⟨a1, t1⟩
    · cases he
    cases a1 <;> try (cases he; done)
    rcases t1 with _ | ⟨a2, t2⟩ <;> try (cases he; done)
  · rename_i a b
    replace he : (if (small a || small b) = true then some (R.val (.int (a * b))) else none) = some r := he
    split at he <;> cases he
    rename_i hs
    obtain ⟨x, y, rfl, qa, qb⟩ := q.two
    obtain ⟨t, rfl⟩ := qa.int_inv
    obtain ⟨u, rfl⟩ := qb.int_inv
    refine P.mul_int (hQ _ F _ ((Step.refl w).toks _) (.val (.int _ _))) ?_
    simp only [Bool.or_eq_true] at hs
    rcases hs with hs | hs
    · have := small_of hs
      exact PySem.IntMulOk.of_left (PySem.intBits_le_64 (by omega) (by omega))
    · have := small_of hs
      exact PySem.IntMulOk.of_right (PySem.intBits_le_64 (by omega) (by omega))
  · rename_i a b
    replace he : (if (small b && decide (a.length * b.toNat ≤ lim)) = true then some (R.val (.str (rep a b))) else none) = some r := he
    split at he <;> cases he
    rename_i hs
    simp only [Bool.and_eq_true, decide_eq_true_eq] at hs
    have hb := small_of hs.1
    have hz := hs.2
    obtain ⟨x, y, rfl, qa, qb⟩ := q.two
    obtain ⟨t, rfl, p, z⟩ := qa.str_inv
    obtain ⟨u, rfl⟩ := qb.int_inv
    have hlen : (PySem.Str.mk a.toArray).length = a.length := by show a.toArray.size = _; rw [List.size_toArray]
    refine SB.mul ⟨by simp; omega, ?_, ?_⟩ ?_
    · intro h1 _ h2
      rw [hlen] at h2
      have : (a.length : Int) ≤ 1000000 := by unfold lim at z; omega
      have h3 : (2 ^ 63 - 1) / b ≥ 1000000 := by
        apply Int.le_ediv_of_mul_le (by omega)
        omega
      omega
    · intro h1 _
      rw [hlen]
      unfold tooLong
      simp only [decide_eq_false_iff_not]
      have := sz_line hz
      omega
    · intro t' k
      have hlen2 : (rep a b).length = a.length * b.toNat := by
        unfold rep
        simp [Nat.mul_comm]
      have e : Txt.mul ⟨a.toArray⟩ b = ⟨(rep a b).toArray⟩ := by
        unfold Txt.mul rep
        split
        · rename_i h1
          have : b.toNat = 0 := by omega
          rw [this]; rfl
        · split
          · rename_i h1 h2
            simp only [Bool.or_eq_true, beq_iff_eq] at h2
            rcases h2 with h2 | h2
            · subst h2; simp
            · rw [hlen, List.length_eq_zero_iff] at h2; subst h2
              simp
          · show PySem.Str.mk _ = _
            rw [foldl_arrays]
      rw [e]
      refine hQ _ F _ ((Step.refl w).toks k) (.val (.str _ (fun c hc => ?_) (by rw [hlen2]; exact hz)))
      unfold rep at hc
      obtain ⟨l, hl, hc⟩ := List.mem_flatten.mp hc
      rw [(List.mem_replicate.mp hl).2] at hc
      exact p c hc
  · rename_i a b
    replace he : (if (small b && decide (a.length * b.toNat ≤ lim)) = true then some (R.own (rep a b)) else none) = some r := he
    split at he <;> cases he
    rename_i hs
    simp only [Bool.and_eq_true, decide_eq_true_eq] at hs
    have hb := small_of hs.1
    have hz := hs.2
    obtain ⟨x, y, rfl, qa, qb⟩ := q.two
    obtain ⟨l, vs, k, rfl, nx, g, z, ql⟩ := qa.list_inv w
    obtain ⟨u, rfl⟩ := qb.int_inv
    have hsz : vs.toArray.size * b.toNat ≤ 2 ^ 24 := by
      rw [List.size_toArray, ql.length]; unfold lim at hz; omega
    have hlen2 : (rep vs b).length ≤ lim := by
      unfold rep
      simp only [List.length_flatten, List.map_replicate, List.sum_replicate_nat]
      rw [ql.length, Nat.mul_comm]; exact hz
    have e : (List.foldl (fun x1 x2 => x1 ++ x2) #[] (List.replicate (if vs.toArray.isEmpty = true then 0 else b.toNat) vs.toArray)) = (rep vs b).toArray := by
      unfold rep
      split
      · rename_i h1
        have : vs = [] := by simpa using h1
        subst this
        simp
      · rw [foldl_arrays]
    refine wpAny_binaryOp_repeat_ref (T := "list") (U := "int") (by decide) ⟨_, g, rfl⟩ (fun s' => typeIs_int s' b u) noFill_list_mul PySem.F.fills_int_mul PySem.F.slot_int_rmul repeat_list PySem.F.slot_int_index.lookup
      (call_meets PySem.F.slot_int_rmul (typeIs_int s b u) PySem.F.entry_int_rmul (PySem.F.args_int_rmul_2 _ _) (int___rmul___int_list b u l vs.toArray k)
        ⟨g, rfl, ⟨_, g, rfl⟩, call_meets PySem.F.slot_list_mul ⟨_, g, rfl⟩ PySem.F.entry_list_mul (PySem.F.args_list_mul_2 _ _)
          (AutoListH.list___mul___list_int_3 l vs.toArray k b u (by simp [Builtin.List.listFitsIndex]; omega) (by omega) (by simp [Builtin.List.listTooLong, sizeLine]; omega))
          ⟨g, ?_⟩⟩)
    rw [e]
    exact hQ _ F _ (Step.push ok w _ _) (.pushOwn w hlen2 (ql.rep _))
theorem is_same (ok : CxOk cx) {F : Addr → Prop} {s : Shared} {A : Around} {x y : Value} {a b : D} {c : Bool} (w : Wd cx F s) (qa : BRep cx F s.heap x a) (qb : BRep cx F s.heap y b) (hc : isD a b = some c) {Q : Bool → Shared → Prop} {E : Value → Shared → Prop} (h : Q c s) :
    wpAny (model cx.prog cx.w) A (isSame x y) Q E s := by
  have notNone : ∀ {v : Value} {d : D}, BRep cx F s.heap v d → (match d with | .none => False | .ty _ => False | _ => True) → v ≠ .none := by
    intro v d q hd e
    subst e
    cases q with
    | rep q => cases q; exact hd
  cases a <;> cases b <;> cases hc
  · rw [qa.none_inv, qb.none_inv]; exact wpAny_isSame_plain rfl h
  · cases qb with | rep qb => cases qb with | tok f g => rw [qa.none_inv]; exact wpAny_isSame_plain rfl h
  · rw [qa.bool_inv, qb.none_inv]; exact wpAny_isSame_plain rfl h
  · obtain ⟨t, rfl⟩ := qa.int_inv; rw [qb.none_inv]; exact wpAny_isSame_plain rfl h
  · obtain ⟨t, rfl, _, _⟩ := qa.str_inv; rw [qb.none_inv]; exact wpAny_isSame_plain rfl h
  · cases qb with | rep qb => cases qb with | tok f g => obtain ⟨t, rfl, _, _⟩ := qa.str_inv; exact wpAny_isSame_plain rfl h
  · obtain ⟨a, vs, n, rfl, _⟩ := qa.list_inv w; rw [qb.none_inv]; exact wpAny_isSame_plain rfl h
  · obtain ⟨a, vs, n, rfl, _⟩ := qa.tup_inv; rw [qb.none_inv]; exact wpAny_isSame_plain rfl h
  · cases qa with | rep qa => cases qa with | tok f g => rw [qb.none_inv]; exact wpAny_isSame_plain rfl h
  · cases qa with | rep qa => cases qa with | tok f g => obtain ⟨t, rfl, _, _⟩ := qb.str_inv; exact wpAny_isSame_plain rfl h
  · rename_i i j
    cases qa with | rep qa => cases qb with | rep qb =>
      cases qa with | tok f g => cases qb with | tok f' g' =>
        by_cases e : i = j
        · subst e
          simp only [decide_true] at h
          exact wpAny_isSame_ref_self h
        · rw [decide_eq_false e] at h
          exact wpAny_isSame_ref_other (fun e' => e (ok.tinj _ _ e')) g g' (by show Value.type "list" ≠ Value.type "tuple"; decide) h
  · rename_i m n
    rw [qa.ty_inv, qb.ty_inv]
    refine wpAny_isSame_plain rfl ?_
    have e : (Value.type m == Value.type n) = decide (m = n) := by
      by_cases e : m = n
      · subst e; simp
      · simp [e]
    rw [e]; exact h
theorem op_is : OpOK cx .is_ (op2 (compareOp .Is)) := by
  intro n A F s vs ds r ok bud w q he
  refine cmp_ok w q he fun x y a b c qa qb hc Q E h => ?_
  show wpAny _ A (do return .bool (← isSame x y)) Q E s
  exact wpAny_bind (is_same ok w qa qb hc (wpAny_pure (h s.toks)))
theorem op_isnot : OpOK cx .isnot (op2 (compareOp .IsNot)) := by
  intro n A F s vs ds r ok bud w q he
  refine cmp_ok w q he fun x y a b c qa qb hc Q E h => ?_
  obtain ⟨c', hc', rfl⟩ := Option.map_eq_some_iff.mp hc
  show wpAny _ A (do return .bool (!(← isSame x y))) Q E s
  exact wpAny_bind (is_same ok w qa qb hc' (wpAny_pure (h s.toks)))
theorem op_len : OpOK cx .len (fun vs => call (.builtin "len") vs) := by
  intro n A F s vs ds r ok bud w q he Q E hQ
  replace he : opLen ds = some r := he
  rcases ds with _ | ⟨a0, t0⟩
  · cases he
  cases a0 <;> try (cases he; done)
  all_goals
    rcases t0 with _ | ⟨a1, t1⟩ <;> cases he
  · obtain ⟨x, rfl, qa⟩ := q.one
    obtain ⟨t, rfl, p, z⟩ := qa.str_inv
    rename_i l
    have e : (PySem.Str.mk l.toArray).length = l.length := by show l.toArray.size = _; rw [List.size_toArray]
    refine P.len_str (by rw [e]; have := sz_lt z; omega) ?_
    rw [e]
    exact hQ _ F _ ((Step.refl w).toks _) (.val (.int _ _))
  · obtain ⟨x, rfl, qa⟩ := q.one
    obtain ⟨a, vs, k, rfl, nx, g, z, ql⟩ := qa.list_inv w
    refine PyProof.Rows.len_list (isList_of g) (by rw [List.size_toArray]; exact sz_lt z) ?_
    rw [List.size_toArray, ql.length]
    exact hQ _ F _ ((Step.refl w).toks _) (.val (.int _ _))
  · obtain ⟨x, rfl, qa⟩ := q.one
    obtain ⟨a, vs, k, rfl, f, g, z, ql⟩ := qa.tup_inv
    refine PyProof.Rows.len_tuple (isTup_of g) (by rw [List.size_toArray]; exact sz_lt z) ?_
    rw [List.size_toArray, ql.length]
    exact hQ _ F _ ((Step.refl w).toks _) (.val (.int _ _))
theorem op_abs : OpOK cx .abs (fun vs => call (.builtin "abs") vs) := by
  intro n A F s vs ds r ok bud w q he Q E hQ
  delta opF at he; dsimp only at he
  unfold opAbs at he
  split at he <;> cases he
  rename_i i
  obtain ⟨x, rfl, qa⟩ := q.one
  obtain ⟨t, rfl⟩ := qa.int_inv
  refine PyProof.Rows.call_abs_int fun u tk => ?_
  have e : (if i < 0 then -i else i) = (i.natAbs : Int) := by omega
  rw [e]
  exact hQ _ F _ ((Step.refl w).toks _) (.val (.int _ _))
theorem toInts_rep {F : Addr → Prop} {h : Heap} : ∀ {l : List D} {is : List Int} {vs : List Value}, toInts l = some is → RepL cx.T F h vs l → ∀ (i : Nat) v, vs[i]? = some v → ∃ t, v = .int (is.getD i 0) t := by
  intro l
  induction l with
  | nil => intro is vs e q i v hv; cases q; cases hv
  | cons d r ih =>
    intro is vs e q
    cases d <;> try (cases e; done)
    obtain ⟨is', e', rfl⟩ := Option.map_eq_some_iff.mp (show (toInts r).map _ = some is from e)
    cases q with
    | cons a b =>
      obtain ⟨t, e2⟩ := (BRep.rep (cx := cx) a).int_inv
      intro i v hv
      cases i with
      | zero => exact ⟨t, (Option.some.inj hv).symm.trans e2⟩
      | succ i => exact ih e' b i v hv
theorem toInts_length : ∀ {l : List D} {is : List Int}, toInts l = some is → is.length = l.length
  | [], is, e => by cases e; rfl
  | d :: r, is, e => by
    cases d <;> try (cases e; done)
    obtain ⟨is', e', rfl⟩ := Option.map_eq_some_iff.mp (show (toInts r).map _ = some is from e)
    simp [toInts_length e']
theorem op_sum : OpOK cx .sum (fun vs => call (.builtin "sum") vs) := by
  intro n A F s vs ds r ok bud w q he Q E hQ
  delta opF at he; dsimp only at he
  unfold opSum at he
  split at he
  · rename_i l
    obtain ⟨is, e1, e2⟩ := Option.map_eq_some_iff.mp he
    cases e2
    obtain ⟨x, rfl, qa⟩ := q.one
    obtain ⟨a, vs, k, rfl, nx, g, z, ql⟩ := qa.list_inv w
    refine call_sum_walkG (wpAny_pyIter_list (isList_of g) ?_)
    have hne : a ≠ s.heap.objs.size := Nat.ne_of_lt (Heap.lt_size g)
    refine ⟨s.heap.objs.size, _, _, _, _, _, fun i => is.getD i 0, rfl, Walks.list (A := A.in1) bud.hd _ a hne vs.toArray, ⟨⟨_, Heap.get?_push_size _ rfl, rfl, rfl⟩, isList_of (Heap.get?_push_of_some _ g)⟩, ?_, ?_, ?_⟩
    · intro b hb
      simp only [List.mem_cons, List.not_mem_nil, or_false] at hb
      rw [Heap.size_push]
      rcases hb with rfl | rfl
      · exact Nat.lt_succ_self _
      · exact Nat.lt_succ_of_lt (Heap.lt_size g)
    · intro i v hv
      exact toInts_rep e1 ql i v (by simpa using hv)
    · intro h' tk t' hk
      have e : preSum (fun i => is.getD i 0) vs.toArray.size = is.sum := by
        rw [preSum_getD, List.size_toArray, ql.length, ← toInts_length e1, List.take_length]
      rw [e]
      refine hQ _ F _ (Step.grown ok w _ fun b o hb => ?_) (.val (.int _ _))
      refine hk b o ?_ (Heap.get?_push_of_some _ hb)
      simp only [List.mem_cons, List.not_mem_nil, or_false]
      rintro rfl
      rw [fresh_size] at hb; cases hb
  · cases he
end
end Mine
end MpIx
section MpJx
open PySem PySem.Calls PyProof.Rows PySem.Builtin.Str
namespace Mine
theorem mk_length (l : List Nat) : (PySem.Str.mk l.toArray).length = l.length := by show l.toArray.size = _; rw [List.size_toArray]
theorem strSub_sub (x : PySem.Str) (lo hi : Nat) : (∀ c ∈ (strSub x lo hi).cps.toList, c ∈ x.cps.toList) ∧ (strSub x lo hi).cps.size ≤ x.cps.size := by
  unfold strSub
  constructor
  · intro c hc
    simp only [Array.mem_toList_iff] at hc ⊢
    obtain ⟨i, hi, e⟩ := Array.mem_iff_getElem.mp hc
    rw [Array.getElem_extract] at e
    exact Array.mem_iff_getElem.mpr ⟨_, _, e⟩
  · simp only [Array.size_extract]; omega
section
variable {cx : XCx}
theorem str_rep {F : Addr → Prop} {h : Heap} {l : List Nat} (p : ∀ c ∈ l, c < 0x110000) (z : l.length ≤ lim) {y : PySem.Str} (t : Tok) (h1 : ∀ c ∈ y.cps.toList, c ∈ l) (h2 : y.cps.size ≤ l.length) : Rep cx.T F h (.str y t) (.str y.cps.toList) :=
  Rep.str (l := y.cps.toList) t (fun c hc => p c (h1 c hc)) (by rw [Array.length_toList]; omega)
theorem str2_ok {f : PySem.Str → PySem.Str → R} {vs : List Value} {ds : List D} {F : Addr → Prop} {s : Shared} {A : Around} {r : R} {id : String} (w : Wd cx F s) (q : BRepL cx F s.heap vs ds) (he : opStr2 f ds = some r)
    (h : ∀ (a b : List Nat) (t u : Tok), (∀ c ∈ a, c < 0x110000) → a.length ≤ lim → ∀ (Q : Value → Shared → Prop) (E : Value → Shared → Prop), (∀ v k, RepR cx F s.heap s.heap v (f ⟨a.toArray⟩ ⟨b.toArray⟩) → Q v { s with toks := k }) →
      wpAny (model cx.prog cx.w) A (call (.builtin id) [.str ⟨a.toArray⟩ t, .str ⟨b.toArray⟩ u]) Q E s) : Ev cx A F s (call (.builtin id) vs) r := by
  intro Q E hQ
  unfold opStr2 at he
  split at he <;> cases he
  obtain ⟨x, y, rfl, qa, qb⟩ := q.two
  obtain ⟨t, rfl, p, z⟩ := qa.str_inv
  obtain ⟨u, rfl, _, _⟩ := qb.str_inv
  exact h _ _ t u p z Q E fun v k rv => hQ v F _ ((Step.refl w).toks k) rv
theorem op_rfind : OpOK cx .rfind (fun vs => call (.builtin "str.rfind") vs) := by
  intro n A F s vs ds r ok bud w q he
  delta opF at he; dsimp only at he
  exact str2_ok w q he fun a b t u p z Q E h => SC.rfind (h _ _ (.val (.int _ _)))
theorem op_startswith : OpOK cx .startswith (fun vs => call (.builtin "str.startswith") vs) := by
  intro n A F s vs ds r ok bud w q he
  delta opF at he; dsimp only at he
  exact str2_ok w q he fun a b t u p z Q E h => SC.startswith (h _ s.toks (.val (.bool _)))
theorem op_endswith : OpOK cx .endswith (fun vs => call (.builtin "str.endswith") vs) := by
  intro n A F s vs ds r ok bud w q he
  delta opF at he; dsimp only at he
  exact str2_ok w q he fun a b t u p z Q E h => SC.endswith (h _ s.toks (.val (.bool _)))
theorem stripBy_sub (g : Nat → Bool) (l r : Bool) (x : PySem.Str) : (∀ c ∈ (Txt.stripBy g l r x).cps.toList, c ∈ x.cps.toList) ∧ (Txt.stripBy g l r x).cps.size ≤ x.cps.size := by
  unfold Txt.stripBy
  split
  · exact ⟨fun _ h => h, Nat.le_refl _⟩
  · exact strSub_sub _ _ _
theorem op_rstrip : OpOK cx .rstrip (fun vs => call (.builtin "str.rstrip") vs) := by
  intro n A F s vs ds r ok bud w q he
  delta opF at he; dsimp only at he
  refine str2_ok w q he fun a b t u p z Q E h => SC.rstripChars (fun t' k => h _ k (.val ?_)) (by rw [mk_length]; exact sz_line z)
  have := stripBy_sub (PySem.Str.mk b.toArray).cps.contains false true ⟨a.toArray⟩
  exact str_rep p z t' this.1 (by have h2 := this.2; rw [show (PySem.Str.mk a.toArray).cps.size = a.length from List.size_toArray ..] at h2; exact h2)
theorem op_find4 : OpOK cx .find4 (fun vs => call (.builtin "str.find") vs) := by
  intro n A F s vs ds r ok bud w q he Q E hQ
  replace he : opFind4 ds = some r := he
  rcases ds with _ | ⟨a0, t0⟩
  · cases he
  cases a0 <;> try (cases he; done)
  all_goals
    rcases t0 with _ | ⟨a1, t1⟩
    · cases he
    cases a1 <;> try (cases he; done)
    rcases t1 with _ | ⟨a2, t2⟩
    · cases he
    cases a2 <;> try (cases he; done)
    rcases t2 with _ | ⟨a3, t3⟩
    · cases he
    cases a3 <;> try (cases he; done)
    rcases t3 with _ | ⟨a4, t4⟩ <;> try (cases he; done)
  · rename_i a b i j
    replace he : (if small i ∧ small j then some (R.val (.int (match Builtin.Str.occurrences ⟨a.toArray⟩ ⟨b.toArray⟩ (fromIndex a.length i) (min (fromIndex a.length j) a.length) 1 with | k :: _ => (k : Int) | [] => -1))) else none) = some r := he
    split at he <;> cases he
    cases q with | cons q1 q => cases q with | cons q2 q => cases q with | cons q3 q => cases q with | cons q4 q =>
    cases q
    obtain ⟨t, rfl, _, _⟩ := q1.str_inv
    obtain ⟨u, rfl, _, _⟩ := q2.str_inv
    obtain ⟨v, rfl⟩ := q3.int_inv
    obtain ⟨v', rfl⟩ := q4.int_inv
    refine call_gives PySem.F.slot_str_find (typeIs_str _ _ _) PySem.F.entry_str_find (PySem.F.args_str_find_4 _ _ _ _) (m := .int (match occurrences ⟨a.toArray⟩ ⟨b.toArray⟩ (fromIndex a.length i) (min (fromIndex a.length j) a.length) 1 with | k :: _ => (k : Int) | [] => -1)) ?_ ?_
    · show Gives (match occurrences ⟨a.toArray⟩ ⟨b.toArray⟩ (fromIndex (PySem.Str.mk a.toArray).length i) (min (fromIndex (PySem.Str.mk a.toArray).length j) (PySem.Str.mk a.toArray).length) 1 with | k :: _ => retInt k | [] => (do rule "str.find.not-found"; retInt (-1))) _
      rw [mk_length]
      cases occurrences ⟨a.toArray⟩ ⟨b.toArray⟩ (fromIndex a.length i) (min (fromIndex a.length j) a.length) 1 with
      | nil => exact .rule (.of_eq rfl)
      | cons k _ => exact .of_eq rfl
    · exact hQ _ F _ ((Step.refl w).toks _) (.val (.int _ _))
theorem op_replace : OpOK cx .replace (fun vs => call (.builtin "str.replace") vs) := by
  intro n A F s vs ds r ok bud w q he Q E hQ
  replace he : opReplace ds = some r := he
  rcases ds with _ | ⟨a0, t0⟩
  · cases he
  cases a0 <;> try (cases he; done)
  all_goals
    rcases t0 with _ | ⟨a1, t1⟩
    · cases he
    cases a1 <;> try (cases he; done)
    rcases t1 with _ | ⟨a2, t2⟩
    · cases he
    cases a2 <;> try (cases he; done)
    rcases t2 with _ | ⟨a3, t3⟩ <;> try (cases he; done)
  · rename_i a b c
    replace he : (if (Builtin.Str.occurrences ⟨a.toArray⟩ ⟨b.toArray⟩ 0 a.length (a.length + 1)).isEmpty = true then some (R.val (.str a)) else none) = some r := he
    split at he <;> cases he
    rename_i hocc
    cases q with | cons q1 q => cases q with | cons q2 q => cases q with | cons q3 q =>
    cases q
    obtain ⟨t, rfl, p, z⟩ := q1.str_inv
    obtain ⟨u, rfl, _, _⟩ := q2.str_inv
    obtain ⟨v, rfl, _, _⟩ := q3.str_inv
    have e : ((occurrences ⟨a.toArray⟩ ⟨b.toArray⟩ 0 (PySem.Str.mk a.toArray).length ((PySem.Str.mk a.toArray).length + 1)).isEmpty || ((PySem.Str.mk b.toArray).length == 0 && (PySem.Str.mk c.toArray).length == 0)) = true := by
      rw [mk_length, hocc]; rfl
    obtain ⟨mc, n1, n2⟩ := ok.nb
    refine call_givesAt PySem.F.slot_str_replace (typeIs_str _ _ _) PySem.F.entry_str_replace (PySem.F.args_str_replace_3 _ _ _) (gives_str_replace2 _ _ _ t u v fun h => by rw [e] at h; cases h) ⟨mc, n1.at' fun o g => w.base _ o g ok.limx, n2⟩ ?_
    rw [if_pos e]
    exact hQ _ F _ (Step.refl w) (.val (.str t p z))
end
end Mine
end MpJx
section MpKx
open PySem PySem.Calls PyProof.Rows PySem.Builtin.Str
namespace Mine
section
variable {cx : XCx}
theorem foldl_glue (s : List Nat) : ∀ (ls : List (List Nat)) (acc : List Nat), ((ls.map fun x => PySem.Str.mk x.toArray).foldl (fun (acc : Array Nat) p => acc ++ (PySem.Str.mk s.toArray).cps ++ p.cps) acc.toArray) = (acc ++ (ls.map fun x => s ++ x).flatten).toArray
  | [], acc => by simp
  | x :: r, acc => by
    rw [List.map_cons, List.foldl_cons]
    have e : (acc.toArray ++ (PySem.Str.mk s.toArray).cps ++ (PySem.Str.mk x.toArray).cps) = (acc ++ s ++ x).toArray := by simp
    rw [e, foldl_glue s r]
    simp
theorem joinL_cons (s a : List Nat) : ∀ r : List (List Nat), joinL s (a :: r) = a ++ (r.map fun x => s ++ x).flatten
  | [] => by simp [joinL]
  | b :: r => by
    rw [joinL, joinL_cons s b r]
    · simp
    · intro h; cases h
theorem glued_join (s : List Nat) (ls : List (List Nat)) : glued ⟨s.toArray⟩ (ls.map fun x => PySem.Str.mk x.toArray) = ⟨(joinL s ls).toArray⟩ := by
  unfold glued
  cases ls with
  | nil => rfl
  | cons a r =>
    simp only [List.map_cons, List.drop_succ_cons, List.drop_zero, List.headD_cons]
    have := foldl_glue s r a
    simp only [joinL_cons]
    exact congrArg PySem.Str.mk this
theorem joinL_mem {s : List Nat} {c : Nat} : ∀ {ls : List (List Nat)}, c ∈ joinL s ls → c ∈ s ∨ ∃ x ∈ ls, c ∈ x
  | [], h => by simp [joinL] at h
  | a :: r, h => by
    rw [joinL_cons, List.mem_append] at h
    rcases h with h | h
    · exact .inr ⟨a, List.mem_cons_self, h⟩
    · simp only [List.mem_flatten, List.mem_map] at h
      obtain ⟨l, ⟨x, hx, rfl⟩, hc⟩ := h
      rcases List.mem_append.mp hc with h | h
      · exact .inl h
      · exact .inr ⟨x, List.mem_cons_of_mem _ hx, h⟩
theorem joinSize (s : PySem.Str) : ∀ (xs : List PySem.Str) (k : Nat), xs.toArray.foldl (fun n x => n + x.length + s.length) k = k + (xs.map fun x => x.length + s.length).sum := by
  intro xs
  induction xs with
  | nil => intro k; simp
  | cons x r ih =>
    intro k
    have := ih (k + x.length + s.length)
    simp only [List.foldl_toArray, List.foldl_cons, List.map_cons, List.sum_cons] at this ⊢
    rw [this]; omega
theorem joinL_length (s : List Nat) (a : List Nat) (r : List (List Nat)) : (joinL s (a :: r)).length = a.length + (r.map fun x => s.length + x.length).sum := by
  rw [joinL_cons, List.length_append, List.length_flatten, List.map_map]
  congr 2
  apply List.map_congr_left
  intro x _
  simp
theorem op_tyOf : OpOK cx .tyOf (fun vs => call (.type "type") vs) := by
  intro n A F s vs ds r ok bud w q he Q E hQ
  delta opF at he; dsimp only at he
  rcases ds with _ | ⟨d, _ | ⟨c, t⟩⟩
  · cases he
  · replace he : (tyD d).map (fun n => R.val (.ty n)) = some r := he
    obtain ⟨x, rfl, qa⟩ := q.one
    obtain ⟨T, e1, e2⟩ := Option.map_eq_some_iff.mp he
    cases e2
    have key : s.TypeIs x T ∧ (Value.type T == Value.type "builtin_function_or_method") = false := by
      cases d <;> cases e1
      · rw [qa.bool_inv]; exact ⟨rfl, by decide⟩
      · obtain ⟨t, rfl⟩ := qa.int_inv; exact ⟨typeIs_int s _ _, by decide⟩
      · obtain ⟨t, rfl, _, _⟩ := qa.str_inv; exact ⟨typeIs_str s _ _, by decide⟩
      · obtain ⟨a, vs, n, rfl, nx, g, _, _⟩ := qa.list_inv w; exact ⟨⟨_, g, rfl⟩, by decide⟩
      · obtain ⟨a, vs, n, rfl, f, g, _, _⟩ := qa.tup_inv; exact ⟨⟨_, g, rfl⟩, by decide⟩
      · cases qa with | rep qa => cases qa with | tok f g => exact ⟨⟨_, g, rfl⟩, by decide⟩
    exact call_type_of key.1 key.2 (hQ _ F _ (Step.refl w) (.val (.ty _)))
  · cases he
theorem RepL.two_ty {T : Nat → Addr} {F : Addr → Prop} {h : Heap} {vs : List Value} {a b : String} (q : RepL T F h vs [.ty a, .ty b]) : vs = [.type a, .type b] := by
  cases q with
  | cons qa q => cases q with
    | cons qb q =>
      cases q
      cases qa
      cases qb
      rfl
inductive IsInstI : List D → R → Prop
  | s1 (l : List Nat) : IsInstI [.str l, .ty "str"] (.val (.bool true))
  | s2 (l : List Nat) : IsInstI [.str l, .ty "bytes"] (.val (.bool false))
  | s3 (l : List Nat) : IsInstI [.str l, .tup [.ty "list", .ty "tuple"]] (.val (.bool false))
  | s4 (l : List D) : IsInstI [.list l, .tup [.ty "list", .ty "tuple"]] (.val (.bool true))
theorem if_inv {α : Type} {p : Prop} [Decidable p] {x y : α} (h : (if p then some x else none) = some y) : p ∧ x = y := by
  by_cases q : p
  · rw [if_pos q] at h; exact ⟨q, Option.some.inj h⟩
  · rw [if_neg q] at h; cases h
theorem isInst_inv {ds : List D} {r : R} (he : opIsInst ds = some r) : IsInstI ds r := by
  rcases ds with _ | ⟨a, t⟩
  · cases he
  cases a <;> try (cases he; done)
  · rcases t with _ | ⟨b, t⟩
    · cases he
    cases b <;> try (cases he; done)
    · rename_i l m
      rcases m with _ | ⟨x, m⟩
      · cases he
      cases x <;> try (cases he; done)
      rcases m with _ | ⟨y, m⟩
      · cases he
      cases y <;> try (cases he; done)
      rcases m with _ | ⟨z, m⟩ <;> try (cases he; done)
      rcases t with _ | ⟨z, t⟩ <;> try (cases he; done)
      obtain ⟨⟨rfl, rfl⟩, rfl⟩ := if_inv he
      exact .s3 _
    · rename_i l n
      rcases t with _ | ⟨z, t⟩ <;> try (cases he; done)
      have e : (if n = "str" then some (R.val (.bool true)) else if n = "bytes" then some (.val (.bool false)) else none) = some r := he
      by_cases q : n = "str"
      · rw [if_pos q] at e; cases e; subst q; exact .s1 _
      · rw [if_neg q] at e
        obtain ⟨rfl, rfl⟩ := if_inv e
        exact .s2 _
  · rcases t with _ | ⟨b, t⟩
    · cases he
    cases b <;> try (cases he; done)
    rename_i l m
    rcases m with _ | ⟨x, m⟩
    · cases he
    cases x <;> try (cases he; done)
    rcases m with _ | ⟨y, m⟩
    · cases he
    cases y <;> try (cases he; done)
    rcases m with _ | ⟨z, m⟩ <;> try (cases he; done)
    rcases t with _ | ⟨z, t⟩ <;> try (cases he; done)
    obtain ⟨⟨rfl, rfl⟩, rfl⟩ := if_inv he
    exact .s4 _
theorem op_isInst : OpOK cx .isInst (fun vs => call (.builtin "isinstance") vs) := by
  intro n A F s vs ds r ok bud w q he Q E hQ
  cases isInst_inv (show opIsInst ds = some r from he) with
  | s1 l =>
    obtain ⟨x, y, rfl, qa, qb⟩ := q.two
    obtain ⟨t, rfl, _, _⟩ := qa.str_inv
    rw [qb.ty_inv]
    exact IsiPair.str_str (hQ _ F _ (Step.refl w) (.val (.bool _)))
  | s2 l =>
    obtain ⟨x, y, rfl, qa, qb⟩ := q.two
    obtain ⟨t, rfl, _, _⟩ := qa.str_inv
    rw [qb.ty_inv]
    exact IsiPair.str_bytes (hQ _ F _ ((Step.refl w).toks _) (.val (.bool _)))
  | s3 l =>
    obtain ⟨x, y, rfl, qa, qb⟩ := q.two
    obtain ⟨t, rfl, _, _⟩ := qa.str_inv
    obtain ⟨a, vs, k, rfl, f, g, z, q3⟩ := qb.tup_inv
    have e2 := q3.two_ty
    subst e2
    exact call_isi_str g fun tk => hQ _ F _ ((Step.refl w).toks _) (.val (.bool _))
  | s4 l =>
    obtain ⟨x, y, rfl, qa, qb⟩ := q.two
    obtain ⟨l, ws, j, rfl, nx, gl, _, _⟩ := qa.list_inv w
    obtain ⟨a, vs, k, rfl, f, g, z, q3⟩ := qb.tup_inv
    have e2 := q3.two_ty
    subst e2
    exact call_isi_list gl g fun tk => hQ _ F _ ((Step.refl w).toks _) (.val (.bool _))
theorem isSub_inv {ds : List D} {r : R} (he : opIsSub ds = some r) : ds = [.ty "str", .tup [.ty "str", .ty "bytes"]] ∧ r = .val (.bool true) := by
  rcases ds with _ | ⟨a, t⟩
  · cases he
  cases a <;> try (cases he; done)
  rcases t with _ | ⟨b, t⟩
  · cases he
  cases b <;> try (cases he; done)
  rename_i l m
  rcases m with _ | ⟨x, m⟩
  · cases he
  cases x <;> try (cases he; done)
  rcases m with _ | ⟨y, m⟩
  · cases he
  cases y <;> try (cases he; done)
  rcases m with _ | ⟨z, m⟩ <;> try (cases he; done)
  rcases t with _ | ⟨z, t⟩ <;> try (cases he; done)
  obtain ⟨⟨rfl, rfl, rfl⟩, rfl⟩ := if_inv he
  exact ⟨rfl, rfl⟩
theorem op_isSub : OpOK cx .isSub (fun vs => call (.builtin "issubclass") vs) := by
  intro n A F s vs ds r ok bud w q he Q E hQ
  obtain ⟨rfl, rfl⟩ := isSub_inv (show opIsSub ds = some r from he)
  obtain ⟨x, y, rfl, qa, qb⟩ := q.two
  rw [qa.ty_inv]
  obtain ⟨a, vs, k, rfl, f, g, z, q3⟩ := qb.tup_inv
  have e2 := q3.two_ty
  subst e2
  exact call_issub_tuple g fun tk => hQ _ F _ ((Step.refl w).toks _) (.val (.bool _))
end
end Mine
end MpKx
section MpLx
open PySem PySem.Calls PyProof.Rows PySem.Builtin.Str
namespace Mine
noncomputable def Mut (env : Env) (ρ : List Slot) (ad : Nat → Addr) (a : Addr) : Prop :=
  a = env.locals ∨ (∃ n, env.cells.lookup n = some a) ∨ ∃ i l, slotAt ρ i = .own l ∧ a = ad i
set_option genInjectivity false in
structure ScOK (ε : Sc) : Prop where
  inj : ∀ x y i, ε.vars.lookup x = some i → ε.vars.lookup y = some i → x = y
set_option genInjectivity false in
structure Frm (cx : XCx) (ε : Sc) (env : Env) (F : Addr → Prop) (s : Shared) (ρ : List Slot) (ad : Nat → Addr) (m cm : Str → Option Value) : Prop where
  en : EnvOK cx ε env F s.heap ρ ad m cm
  lf : ¬ F env.locals
  cf : ∀ n c, env.cells.lookup n = some c → ¬ F c ∧ c ≠ env.locals
  cinj : ∀ n n' c, env.cells.lookup n = some c → env.cells.lookup n' = some c → n = n'
  oinj : ∀ i j l l', slotAt ρ i = .own l → slotAt ρ j = .own l' → ad i = ad j → i = j
  own : ∀ i l, slotAt ρ i = .own l → ¬ F (ad i) ∧ ¬ cx.X (ad i) ∧ (∃ vs n, s.heap.get? (ad i) = some (lobj vs n)) ∧ ad i ≠ env.locals ∧ ∀ n, env.cells.lookup n ≠ some (ad i)
set_option genInjectivity false in
structure StepS (cx : XCx) (env : Env) (F : Addr → Prop) (s : Shared) (ρ : List Slot) (ad : Nat → Addr) (F' : Addr → Prop) (s' : Shared) (ρ' : List Slot) (ad' : Nat → Addr) : Prop where
  sub : ∀ a, F a → F' a
  new : ∀ a, F' a → F a ∨ s.heap.get? a = none ∨ Mut env ρ ad a
  keep : ∀ a o, s.heap.get? a = some o → ¬ cx.X a → ¬ Mut env ρ ad a → s'.heap.get? a = some o
  os : s'.os = s.os
  wd : Wd cx F' s'
  mu : ∀ a, Mut env ρ' ad' a → Mut env ρ ad a ∨ s.heap.get? a = none
theorem slotAt_set (ρ : List Slot) (i : Nat) (sl : Slot) (j : Nat) : slotAt (ρ.set i sl) j = if j = i then (if i < ρ.length then sl else .unset) else slotAt ρ j := by
  unfold slotAt
  simp only [List.getD_eq_getElem?_getD, List.getElem?_set]
  by_cases h : i = j
  · subst h
    simp only [if_true]
    split <;> rfl
  · simp only [if_neg h, if_neg (Ne.symm h)]
theorem ownAt_eq {ρ : List Slot} {i : Nat} {l : List D} (h : ownAt ρ i = some l) : slotAt ρ i = .own l ∧ i < ρ.length := by
  unfold ownAt at h
  split at h
  · rename_i l' e
    cases h
    refine ⟨by unfold slotAt; simp [List.getD, e], ?_⟩
    rcases Nat.lt_or_ge i ρ.length with q | q
    · exact q
    · rw [List.getElem?_eq_none q] at e; cases e
  · cases h
section
variable {cx : XCx} {ε : Sc} {env : Env} {F F' F'' : Addr → Prop} {s s' s'' : Shared} {ρ ρ' ρ'' : List Slot} {ad ad' ad'' : Nat → Addr} {m cm : Str → Option Value}
theorem Frm.isSome (f : Frm cx ε env F s ρ ad m cm) {a : Addr} (h : Mut env ρ ad a) : ∃ o, s.heap.get? a = some o := by
  rcases h with rfl | ⟨n, hn⟩ | ⟨i, l, hi, rfl⟩
  · obtain ⟨o, _, _, e, _⟩ := f.en.ns; exact ⟨o, e⟩
  · obtain ⟨o, e, _⟩ := f.en.cells n a hn; exact ⟨o, e⟩
  · obtain ⟨_, _, ⟨vs, n, e⟩, _⟩ := f.own i l hi; exact ⟨_, e⟩
theorem Frm.notF (f : Frm cx ε env F s ρ ad m cm) {a : Addr} (h : Mut env ρ ad a) : ¬ F a ∧ ¬ cx.X a := by
  rcases h with rfl | ⟨n, hn⟩ | ⟨i, l, hi, rfl⟩
  · exact ⟨f.lf, f.en.lx⟩
  · exact ⟨(f.cf n a hn).1, f.en.cxx n a hn⟩
  · exact ⟨(f.own i l hi).1, (f.own i l hi).2.1⟩
theorem StepS.refl (w : Wd cx F s) : StepS cx env F s ρ ad F s ρ ad := ⟨fun _ h => h, fun _ h => .inl h, fun _ _ e _ _ => e, rfl, w, fun _ h => .inl h⟩
theorem StepS.trans (x : StepS cx env F s ρ ad F' s' ρ' ad') (y : StepS cx env F' s' ρ' ad' F'' s'' ρ'' ad'') : StepS cx env F s ρ ad F'' s'' ρ'' ad'' := by
  have back : ∀ a, ¬ cx.X a → s'.heap.get? a = none → Mut env ρ ad a ∨ s.heap.get? a = none := fun a nx h => by
    by_cases hm : Mut env ρ ad a
    · exact .inl hm
    · right
      cases e : s.heap.get? a with
      | none => rfl
      | some o => rw [x.keep a o e nx hm] at h; cases h
  refine ⟨fun a h => y.sub a (x.sub a h), fun a h => ?_, fun a o e nx nm => ?_, y.os.trans x.os, y.wd, fun a h => ?_⟩
  · rcases y.new a h with q | q | q
    · exact x.new a q
    · rcases back a (y.wd.nx a h) q with q | q
      · exact .inr (.inr q)
      · exact .inr (.inl q)
    · rcases x.mu a q with q | q
      · exact .inr (.inr q)
      · exact .inr (.inl q)
  · refine y.keep a o (x.keep a o e nx nm) nx fun hm => ?_
    rcases x.mu a hm with q | q
    · exact nm q
    · rw [e] at q; cases q
  · rcases y.mu a h with q | q
    · exact x.mu a q
    · by_cases nx : cx.X a
      · obtain ⟨o, e⟩ := x.wd.xex a nx
        rw [e] at q; cases q
      · exact back a nx q
theorem StepS.ofStep (x : Step cx F s F' s') : StepS cx env F s ρ ad F' s' ρ ad := ⟨x.sub, fun a h => (x.new a h).imp id .inl, fun a o e nx _ => x.keep a o e nx, x.os, x.wd, fun _ h => .inl h⟩
theorem Frm.step (f : Frm cx ε env F s ρ ad m cm) (w : Wd cx F s) (x : Step cx F s F' s') : Frm cx ε env F' s' ρ ad m cm := by
  have nf : ∀ {a}, Mut env ρ ad a → ¬ F' a := fun h => by
    obtain ⟨o, e⟩ := f.isSome h
    exact x.notF (f.notF h).1 e
  refine ⟨f.en.step x w, nf (.inl rfl), fun n c hc => ⟨nf (.inr (.inl ⟨n, hc⟩)), (f.cf n c hc).2⟩, f.cinj, f.oinj, fun i l hi => ?_⟩
  obtain ⟨_, nx, ⟨vs, n, e⟩, h4, h5⟩ := f.own i l hi
  exact ⟨nf (.inr (.inr ⟨i, l, hi, rfl⟩)), nx, ⟨vs, n, x.keep _ _ e nx⟩, h4, h5⟩
end
set_option genInjectivity false in
structure HereS (cx : XCx) (ε : Sc) (n : Nat) (cf : Nat → List D → Option D) (A : Around) (env : Env) (F : Addr → Prop) (s : Shared) (ρ : List Slot) (ad : Nat → Addr) (m cm : Str → Option Value) : Prop where
  ok : CxOk cx
  sc : ScOK ε
  calls : CallOK cx n cf
  bud : BudE n A
  wd : Wd cx F s
  frm : Frm cx ε env F s ρ ad m cm
theorem HereS.here {cx ε n cf A env F s ρ ad m cm} (H : HereS cx ε n cf A env F s ρ ad m cm) : Here cx ε n cf A env F s ρ ad m cm := ⟨H.ok, H.calls, H.bud, H.wd, H.frm.en⟩
theorem HereS.step {cx ε n cf A env F s ρ ad m cm} {F' : Addr → Prop} {s' : Shared} (H : HereS cx ε n cf A env F s ρ ad m cm) (x : Step cx F s F' s') : HereS cx ε n cf A env F' s' ρ ad m cm := ⟨H.ok, H.sc, H.calls, H.bud, x.wd, H.frm.step H.wd x⟩
theorem HereS.stepS {cx ε n cf A env F s ρ ad m cm} {F' : Addr → Prop} {s' : Shared} {ρ' ad' m' cm'} (H : HereS cx ε n cf A env F s ρ ad m cm) (x : StepS cx env F s ρ ad F' s' ρ' ad') (f : Frm cx ε env F' s' ρ' ad' m' cm') : HereS cx ε n cf A env F' s' ρ' ad' m' cm' := ⟨H.ok, H.sc, H.calls, H.bud, x.wd, f⟩
inductive OutRep (cx : XCx) (F : Addr → Prop) (h : Heap) : Flow → Out → Prop
  | next : OutRep cx F h .next .next
  | brk : OutRep cx F h .brk .brk
  | cont : OutRep cx F h .cont .cont
  | ret {v : Value} {d : D} : Rep cx.T F h v d → OutRep cx F h (.ret v) (.ret d)
noncomputable def PostS (cx : XCx) (ε : Sc) (env : Env) (F : Addr → Prop) (s : Shared) (ρ : List Slot) (ad : Nat → Addr) (ρ' : List Slot) (o : Out) (Q : Flow → Shared → Prop) : Prop :=
  ∀ f F' s' ad' m' cm', StepS cx env F s ρ ad F' s' ρ' ad' → Frm cx ε env F' s' ρ' ad' m' cm' → OutRep cx F' s'.heap f o → Q f s'
theorem PostS.after {cx ε env F s ρ ad ρ' o Q} {F₁ : Addr → Prop} {s₁ : Shared} {ρ₁ ad₁} (h : PostS cx ε env F s ρ ad ρ' o Q) (x : StepS cx env F s ρ ad F₁ s₁ ρ₁ ad₁) : PostS cx ε env F₁ s₁ ρ₁ ad₁ ρ' o Q :=
  fun f F' s' ad' m' cm' y fr q => h f F' s' ad' m' cm' (x.trans y) fr q
noncomputable def SoundS (cx : XCx) (ε : Sc) (st : Stmt) (sx : S) : Prop :=
  ∀ n cf A env F s ρ ad m cm, HereS cx ε n cf A env F s ρ ad m cm → ∀ ρ' o, ex cf sx ρ = some (ρ', o) → ∀ Q E, PostS cx ε env F s ρ ad ρ' o Q → wpAny (model cx.prog cx.w) A (exec st env) Q E s
noncomputable def SoundSs (cx : XCx) (ε : Sc) (sts : List Stmt) (sx : S) : Prop :=
  ∀ n cf A env F s ρ ad m cm, HereS cx ε n cf A env F s ρ ad m cm → ∀ ρ' o, ex cf sx ρ = some (ρ', o) → ∀ Q E, PostS cx ε env F s ρ ad ρ' o Q → wpAny (model cx.prog cx.w) A (execs sts env) Q E s
theorem ex_seq {cf : Nat → List D → Option D} {a b : S} {ρ : List Slot} : ex cf (.seq a b) ρ = (match ex cf a ρ with
    | some (ρ', .next) => ex cf b ρ'
    | some (ρ', o) => some (ρ', o)
    | Option.none => Option.none) := by 
  exact exq_seq cf
theorem ex_fz {cf : Nat → List D → Option D} {i : Nat} {ρ : List Slot} : ex cf (.fz i) ρ = (match ownAt ρ i with
    | some l => some (ρ.set i (.val (.list l)), .next)
    | Option.none => some (ρ, .next)) := by 
  exact exq_fz cf
section
variable {cx : XCx} {ε : Sc}
theorem soundSs_nil : SoundSs cx ε [] .skip := by
  intro n cf A env F s ρ ad m cm H ρ' o h Q E hQ
  replace h := (exq_skip cf).symm.trans h; cases h
  exact wpAny_execs_nil (hQ .next F s ad m cm (StepS.refl H.wd) H.frm .next)
theorem soundSs_cons {st : Stmt} {sts : List Stmt} {a b : S} (h1 : SoundS cx ε st a) (h2 : SoundSs cx ε sts b) : SoundSs cx ε (st :: sts) (.seq a b) := by
  intro n cf A env F s ρ ad m cm H ρ' o h Q E hQ
  refine wpAny_execs_cons ?_
  replace h := (exq_seq cf).symm.trans h
  split at h
  · rename_i ρ₁ e1
    refine h1 n cf A env F s ρ ad m cm H ρ₁ .next e1 _ _ fun f F' s' ad' m' cm' x fr q => ?_
    cases q
    exact h2 n cf A env F' s' ρ₁ ad' m' cm' (H.stepS x fr) ρ' o h _ _ (hQ.after x)
  · rename_i ρ₁ o₁ hne e1
    cases h
    refine h1 n cf A env F s ρ ad m cm H _ _ e1 _ _ fun f F' s' ad' m' cm' x fr q => ?_
    cases q with
    | next => exact (hne rfl).elim
    | brk => exact hQ _ F' s' ad' m' cm' x fr .brk
    | cont => exact hQ _ F' s' ad' m' cm' x fr .cont
    | ret r => exact hQ _ F' s' ad' m' cm' x fr (.ret r)
  · cases h
theorem frozen {n cf A env F s ρ ad m cm} (H : HereS cx ε n cf A env F s ρ ad m cm) {i : Nat} {l : List D} (h : ownAt ρ i = some l) (hv : ∃ x, ε.vars.lookup x = some i) :
    ∃ F', StepS cx env F s ρ ad F' s (ρ.set i (.val (.list l))) ad ∧ Frm cx ε env F' s (ρ.set i (.val (.list l))) ad m cm := by
  obtain ⟨hs, hlt⟩ := ownAt_eq h
  obtain ⟨x, hx⟩ := hv
  have f := H.frm
  obtain ⟨nf, nx, ⟨vs0, n0, e0⟩, h4, h5⟩ := f.own i l hs
  have hsr : ∃ ov, SlotRep cx F s.heap ad i ov (.own l) := by
    rcases f.en.vars x i hx with ⟨_, q⟩ | ⟨_, _, q⟩ <;> rw [hs] at q <;> exact ⟨_, q⟩
  obtain ⟨ov, q⟩ := hsr
  cases q with
  | own _ _ g z q =>
  have hset : ∀ j, slotAt (ρ.set i (.val (.list l))) j = if j = i then .val (.list l) else slotAt ρ j := fun j => by rw [slotAt_set, if_pos hlt]
  have hsub : ∀ a, F a → (F a ∨ a = ad i) := fun _ h => .inl h
  have wd' : Wd cx (fun a => F a ∨ a = ad i) s := ⟨H.wd.base, H.ok.xi _ _ _ _ H.wd.xi hsub (fun _ _ _ e => e), H.wd.gens, fun a o h nx => .inl (H.wd.f0 a o h nx), fun a h => h.elim (H.wd.lt a) fun e => ⟨_, e ▸ g⟩, fun a h => h.elim (H.wd.nx a) fun e => e ▸ nx, H.wd.xex⟩
  have slots : ∀ j ov, SlotRep cx F s.heap ad j ov (slotAt ρ j) → SlotRep cx (fun a => F a ∨ a = ad i) s.heap ad j ov (slotAt (ρ.set i (.val (.list l))) j) := by
    intro j ov q'
    rw [hset]
    by_cases hj : j = i
    · subst hj
      rw [if_pos rfl]
      rw [hs] at q'
      cases q' with
      | own _ _ g z q => exact .val (.list (.inr rfl) g z (q.mono hsub fun _ _ _ e => e))
    · rw [if_neg hj]
      generalize hsl : slotAt ρ j = sl at q'
      cases q' with
      | unset => exact .unset
      | val q => exact .val (q.mono hsub fun _ _ _ e => e)
      | own nf' nx' g z q => exact .own (fun h => h.elim nf' fun e => hj (f.oinj j i _ _ hsl hs e)) nx' g z (q.mono hsub fun _ _ _ e => e)
      | app a b c => exact .app (.inl a) b c
  refine ⟨fun a => F a ∨ a = ad i, ⟨hsub, fun a h => h.imp id fun e => .inr (.inr (.inr ⟨i, l, hs, e⟩)), fun _ _ e _ _ => e, rfl, wd', fun a h => ?_⟩, ?_⟩
  · rcases h with h | h | ⟨j, l', hj, rfl⟩
    · exact .inl (.inl h)
    · exact .inl (.inr (.inl h))
    · rw [hset] at hj
      split at hj
      · cases hj
      · exact .inl (.inr (.inr ⟨j, l', hj, rfl⟩))
  · refine ⟨⟨f.en.kind, f.en.names, f.en.glob, f.en.blt, f.en.code, f.en.lx, f.en.cxx, f.en.ns, f.en.cells, fun y j hy => (f.en.vars y j hy).imp (fun ⟨k, q⟩ => ⟨k, slots j _ q⟩) fun ⟨k, c, q⟩ => ⟨k, c, slots j _ q⟩⟩,
      fun h => h.elim f.lf fun e => h4 e.symm, fun n c hc => ⟨fun h => h.elim (f.cf n c hc).1 fun e => h5 n (e ▸ hc), (f.cf n c hc).2⟩, f.cinj, fun j k l1 l2 h1 h2 e => ?_, fun j l1 h1 => ?_⟩
    · rw [hset] at h1 h2
      split at h1
      · cases h1
      · split at h2
        · cases h2
        · exact f.oinj j k _ _ h1 h2 e
    · rw [hset] at h1
      split at h1
      · cases h1
      · rename_i hj
        obtain ⟨a1, a2, a3, a4, a5⟩ := f.own j l1 h1
        exact ⟨fun h => h.elim a1 fun e => hj (f.oinj j i _ _ h1 hs e), a2, a3, a4, a5⟩
theorem soundS_fz {st : Stmt} {i : Nat} {b : S} (hv : ∃ x, ε.vars.lookup x = some i) (h : SoundS cx ε st b) : SoundS cx ε st (.seq (.fz i) b) := by
  intro n cf A env F s ρ ad m cm H ρ' o he Q E hQ
  rw [ex_seq, ex_fz] at he
  cases hown : ownAt ρ i with
  | none =>
    rw [hown] at he
    exact h n cf A env F s ρ ad m cm H ρ' o he Q E hQ
  | some l =>
    rw [hown] at he
    obtain ⟨F', x, f⟩ := frozen H hown hv
    exact h n cf A env F' s _ ad m cm (H.stepS x f) ρ' o he Q E (hQ.after x)
end
end Mine
end MpLx
section MpMx
open PySem PySem.Calls PyProof.Rows PySem.Builtin.Str
namespace Mine
section
variable {cx : XCx} {ε : Sc} {n : Nat} {cf : Nat → List D → Option D} {A : Around} {env : Env} {F F₀ : Addr → Prop} {s s₀ : Shared} {ρ : List Slot} {ad ad' : Nat → Addr} {m cm m' cm' : Str → Option Value}
theorem mutated (H : HereS cx ε n cf A env F s ρ ad m cm) {b : Addr} (hb : Mut env ρ ad b) {h' : Heap} (sb : Heap.SameBut b s.heap h') (k : Nat) :
    Wd cx F { s with heap := h', toks := k } ∧ (∀ a o, F a → s.heap.get? a = some o → h'.get? a = some o) := by
  obtain ⟨nf, nx⟩ := H.frm.notF hb
  have hk : ∀ a o, a ≠ b → s.heap.get? a = some o → h'.get? a = some o := fun a o h e => (sb.2 a h).trans e
  have fne : ∀ a, F a → a ≠ b := fun a h e => nf (e ▸ h)
  refine ⟨⟨fun a o e x => hk a o (fne a (H.wd.f0 a o e x)) (H.wd.base a o e x), H.ok.xi _ _ _ _ H.wd.xi (fun _ h => h) (fun a o h e => hk a o (h.elim (fne a) fun h e => nx (e ▸ h)) e), H.wd.gens, H.wd.f0, fun a f => let ⟨o, e⟩ := H.wd.lt a f; ⟨o, hk a o (fne a f) e⟩, H.wd.nx,
    fun a f => let ⟨o, e⟩ := H.wd.xex a f; ⟨o, hk a o (fun e => nx (e ▸ f)) e⟩⟩, fun a o f e => hk a o (fne a f) e⟩
theorem put_steps (H₀ : HereS cx ε n cf A env F₀ s₀ ρ ad m cm) (x : Step cx F₀ s₀ F s) {b : Addr} (hb : Mut env ρ ad b) {h' : Heap} (sb : Heap.SameBut b s.heap h') (k : Nat) {i : Nat} {sl : Slot}
    (hmu : ∀ l, sl = .own l → Mut env ρ ad (ad' i) ∨ s₀.heap.get? (ad' i) = none) (had : ∀ j, j ≠ i → ad' j = ad j) : StepS cx env F₀ s₀ ρ ad F { s with heap := h', toks := k } (ρ.set i sl) ad' := by
  refine ⟨x.sub, fun a h => (x.new a h).imp id .inl, fun a o e nx nm => ?_, x.os, (mutated (H₀.step x) hb sb k).1, fun a h => ?_⟩
  · exact (sb.2 a fun e => nm (e ▸ hb)).trans (x.keep a o e nx)
  · rcases h with h | h | ⟨j, l, hj, rfl⟩
    · exact .inl (.inl h)
    · exact .inl (.inr (.inl h))
    · rw [slotAt_set] at hj
      by_cases e : j = i
      · subst e
        rw [if_pos rfl] at hj
        split at hj
        · exact hmu l hj
        · cases hj
      · rw [if_neg e] at hj
        rw [had j e]
        exact .inl (.inr (.inr ⟨j, l, hj, rfl⟩))
set_option genInjectivity false in
structure NewOwn (cx : XCx) (env : Env) (F : Addr → Prop) (h' : Heap) (ρ : List Slot) (ad ad' : Nat → Addr) (i : Nat) : Prop where
  nf : ¬ F (ad' i)
  nx : ¬ cx.X (ad' i)
  is : ∃ vs n, h'.get? (ad' i) = some (lobj vs n)
  nl : ad' i ≠ env.locals
  nc : ∀ n, env.cells.lookup n ≠ some (ad' i)
  oth : ∀ j l, j ≠ i → slotAt ρ j = .own l → ad j ≠ ad' i
theorem Frm.put (H : HereS cx ε n cf A env F s ρ ad m cm) {b : Addr} (hb : Mut env ρ ad b) {h' : Heap} (sb : Heap.SameBut b s.heap h') (k : Nat) {i : Nat} {sl : Slot}
    (hns : h'.Ns env.locals m') (hcells : ∀ n c, env.cells.lookup n = some c → h'.IsCell c (cm' n))
    (hvars : ∀ x j, ε.vars.lookup x = some j → j ≠ i → m' x = m x ∧ cm' x = cm x)
    (hnew : ∀ x, ε.vars.lookup x = some i → (ε.kinds.lookup x = some .local → SlotRep cx F h' ad' i (m' x) sl) ∧ (ε.kinds.lookup x ≠ some .local → SlotRep cx F h' ad' i (cm' x) sl))
    (had : ∀ j, j ≠ i → ad' j = ad j) (happ : ad' i = ad i ∨ ∀ j, slotAt ρ j ≠ .app i)
    (hbo : ∀ j l, slotAt ρ j = .own l → j ≠ i → ad j ≠ b) (hown : ∀ l, sl = .own l → NewOwn cx env F h' ρ ad ad' i) :
    Frm cx ε env F { s with heap := h', toks := k } (ρ.set i sl) ad' m' cm' := by
  have f := H.frm
  obtain ⟨w', keep⟩ := mutated H hb sb k
  have keepB : ∀ a o, a ≠ b → s.heap.get? a = some o → h'.get? a = some o := fun a o h e => (sb.2 a h).trans e
  have old : ∀ j ov, j ≠ i → SlotRep cx F s.heap ad j ov (slotAt ρ j) → SlotRep cx F h' ad' j ov (slotAt ρ j) := by
    intro j ov hj q
    have hbo := fun l e => hbo j l e hj
    have happ := happ.imp id fun h => h j
    generalize slotAt ρ j = x at q hbo happ
    cases q with
    | unset => exact .unset
    | val q => exact .val (q.mono (fun _ h => h) keep)
    | own nf nx g z q =>
      rw [← had j hj] at nf nx g ⊢
      exact .own nf nx (keepB _ _ (by rw [had j hj]; exact hbo _ rfl) g) z (q.mono (fun _ h => h) keep)
    | @app b' o k fb g e =>
      refine .app fb (keep _ _ fb g) ?_
      by_cases hk : k = i
      · subst hk
        rcases happ with h | h
        · rw [h]; exact e
        · exact absurd rfl h
      · rw [had k hk]; exact e
  have slots : ∀ x j, ε.vars.lookup x = some j →
    (ε.kinds.lookup x = some .local ∧ SlotRep cx F h' ad' j (m' x) (slotAt (ρ.set i sl) j)) ∨
    ((ε.kinds.lookup x = some .cell ∨ ε.kinds.lookup x = some .free) ∧ (∃ c, env.cells.lookup x = some c) ∧ SlotRep cx F h' ad' j (cm' x) (slotAt (ρ.set i sl) j)) := by
    intro x j hx
    rw [slotAt_set]
    by_cases e : j = i
    · subst e
      rw [if_pos rfl]
      have nl : ∀ {k : NameKind}, ε.kinds.lookup x = some k → k ≠ .local → ε.kinds.lookup x ≠ some .local := fun h hk e => hk (by rw [h] at e; exact Option.some.inj e)
      rcases f.en.vars x j hx with ⟨k, q⟩ | ⟨k, c, q⟩
      · left
        refine ⟨k, ?_⟩
        split
        · exact (hnew x hx).1 k
        · exact .unset
      · right
        refine ⟨k, c, ?_⟩
        split
        · refine (hnew x hx).2 fun e => ?_
          rw [e] at k; rcases k with k | k <;> cases k
        · exact .unset
    · rw [if_neg e]
      obtain ⟨e1, e2⟩ := hvars x j hx e
      rw [e1, e2]
      exact (f.en.vars x j hx).imp (fun ⟨k, q⟩ => ⟨k, old j _ e q⟩) fun ⟨k, c, q⟩ => ⟨k, c, old j _ e q⟩
  refine ⟨⟨f.en.kind, f.en.names, f.en.glob, f.en.blt, f.en.code, f.en.lx, f.en.cxx, hns, hcells, slots⟩, f.lf, f.cf, f.cinj, fun p q l1 l2 h1 h2 e => ?_, fun j l hj => ?_⟩
  · rw [slotAt_set] at h1 h2
    by_cases hp : p = i
    · by_cases hq : q = i
      · rw [hp, hq]
      · subst hp
        rw [if_pos rfl] at h1
        rw [if_neg hq] at h2
        split at h1
        · have := (hown l1 h1).oth q l2 hq h2
          rw [had q hq] at e
          exact absurd e.symm this
        · cases h1
    · by_cases hq : q = i
      · subst hq
        rw [if_neg hp] at h1
        rw [if_pos rfl] at h2
        split at h2
        · have := (hown l2 h2).oth p l1 hp h1
          rw [had p hp] at e
          exact absurd e this
        · cases h2
      · rw [if_neg hp] at h1
        rw [if_neg hq] at h2
        rw [had p hp, had q hq] at e
        exact f.oinj p q l1 l2 h1 h2 e
  · rw [slotAt_set] at hj
    by_cases e : j = i
    · subst e
      rw [if_pos rfl] at hj
      split at hj
      · have q := hown l hj
        exact ⟨q.nf, q.nx, q.is, q.nl, q.nc⟩
      · cases hj
    · rw [if_neg e] at hj
      rw [had j e]
      obtain ⟨a1, a2, ⟨vs, n, g⟩, a4, a5⟩ := f.own j l hj
      exact ⟨a1, a2, ⟨vs, n, keepB _ _ (hbo j l hj e) g⟩, a4, a5⟩
theorem store_varK (H₀ : HereS cx ε n cf A env F₀ s₀ ρ ad m cm) (st : Step cx F₀ s₀ F s) {x : Str} {i : Nat} (hx : ε.vars.lookup x = some i) (hfree : ε.kinds.lookup x ≠ some .free) {v : Value} {sl : Slot}
    (had : ∀ j, j ≠ i → ad' j = ad j) (happ : ad' i = ad i ∨ ∀ j, slotAt ρ j ≠ .app i)
    (hv : ∀ h', (∀ a o, F a ∨ ¬ Mut env ρ ad a → s.heap.get? a = some o → h'.get? a = some o) → SlotRep cx F h' ad' i (some v) sl)
    (hmu : ∀ l, sl = .own l → s₀.heap.get? (ad' i) = none ∧ ¬ F (ad' i) ∧ ¬ cx.X (ad' i) ∧ ∃ vs n, s.heap.get? (ad' i) = some (lobj vs n))
    {Q : Unit → Shared → Prop} {E : Value → Shared → Prop}
    (hQ : ∀ s' m' cm', (∀ a o, ¬ Mut env ρ ad a → s.heap.get? a = some o → s'.heap.get? a = some o) → StepS cx env F₀ s₀ ρ ad F s' (ρ.set i sl) ad' → Frm cx ε env F s' (ρ.set i sl) ad' m' cm' → Q () s') :
    wpAny (model cx.prog cx.w) A (storeName env x v) Q E s := by
  have H := H₀.step st
  have f := H.frm
  have notMut : ∀ l, sl = .own l → ¬ Mut env ρ ad (ad' i) := fun l hl hm => by
    obtain ⟨o, e⟩ := H₀.frm.isSome hm
    rw [(hmu l hl).1] at e; cases e
  have mkOwn : ∀ h', (∀ a o, ¬ Mut env ρ ad a → s.heap.get? a = some o → h'.get? a = some o) → ∀ l, sl = .own l → NewOwn cx env F h' ρ ad ad' i := by
    intro h' hk l hl
    obtain ⟨a1, a2, a3, vs, n, a4⟩ := hmu l hl
    have nm := notMut l hl
    exact ⟨a2, a3, ⟨vs, n, hk _ _ nm a4⟩, fun e => nm (.inl e), fun n e => nm (.inr (.inl ⟨n, e⟩)), fun j l' hj hs e => nm (.inr (.inr ⟨j, l', hs, e.symm⟩))⟩
  have others : ∀ y j, ε.vars.lookup y = some j → j ≠ i → y ≠ x := fun y j hy hj e => hj (by subst e; rw [hx] at hy; exact (Option.some.inj hy).symm)
  have same : ∀ y, ε.vars.lookup y = some i → y = x := fun y hy => H.sc.inj y x i hy hx
  rcases f.en.vars x i hx with ⟨hk, _⟩ | ⟨hk, ⟨c, hc⟩, _⟩
  · have hl : env.kindOf x = some .local := by unfold Env.kindOf; rw [f.en.names]; exact hk
    have hp : (env.scope.kind == .class || (env.scope.kind == .module && env.locals != env.globals)) = false := by rw [f.en.kind]; rfl
    refine wpAny_storeName_local hl f.en.ns (fun h' hn sb => ?_) hp
    have hb : Mut env ρ ad env.locals := .inl rfl
    have hk1 : ∀ a o, ¬ Mut env ρ ad a → s.heap.get? a = some o → h'.get? a = some o := fun a o nm e => (sb.2 a fun e => nm (e ▸ hb)).trans e
    have hk2 : ∀ a o, F a ∨ ¬ Mut env ρ ad a → s.heap.get? a = some o → h'.get? a = some o := fun a o nm e => nm.elim (fun h => (sb.2 a fun e => f.lf (e ▸ h)).trans e) fun h => hk1 a o h e
    refine hQ _ (fun y => if y = x then some v else m y) cm hk1 (put_steps H₀ st hb sb _ (fun l hl => .inr (hmu l hl).1) had) ?_
    refine Frm.put H hb sb _ hn (fun n c hc => ?_) (fun y j hy hj => ⟨if_neg (others y j hy hj), rfl⟩) (fun y hy => ?_) had happ (fun j l hs _ => (f.own j l hs).2.2.2.1) (mkOwn h' hk1)
    · obtain ⟨o, g, d⟩ := f.en.cells n c hc
      exact ⟨o, (sb.2 c (f.cf n c hc).2).trans g, d⟩
    · have ey := same y hy
      refine ⟨fun _ => ?_, fun h => absurd (ey ▸ hk) h⟩
      show SlotRep cx F h' ad' i (if y = x then some v else m y) sl
      rw [if_pos ey]
      exact hv h' hk2
  · have hl : env.kindOf x = some .cell := by
      unfold Env.kindOf; rw [f.en.names]
      exact hk.resolve_right hfree
    refine wpAny_storeName_cell f.en.kind hl hc (f.en.cells x c hc) (fun h' hn sb => ?_)
    have hb : Mut env ρ ad c := .inr (.inl ⟨x, hc⟩)
    have hk1 : ∀ a o, ¬ Mut env ρ ad a → s.heap.get? a = some o → h'.get? a = some o := fun a o nm e => (sb.2 a fun e => nm (e ▸ hb)).trans e
    have hk2 : ∀ a o, F a ∨ ¬ Mut env ρ ad a → s.heap.get? a = some o → h'.get? a = some o := fun a o nm e => nm.elim (fun h => (sb.2 a fun e => (f.cf x c hc).1 (e ▸ h)).trans e) fun h => hk1 a o h e
    refine hQ _ m (fun y => if y = x then some v else cm y) hk1 (put_steps H₀ st hb sb s.toks (fun l hl => .inr (hmu l hl).1) had) ?_
    refine Frm.put H hb sb _ (f.en.ns.sameBut sb (Ne.symm (f.cf x c hc).2)) (fun n c' hc' => ?_) (fun y j hy hj => ⟨rfl, if_neg (others y j hy hj)⟩) (fun y hy => ?_) had happ (fun j l hs _ e => (f.own j l hs).2.2.2.2 x (e ▸ hc)) (mkOwn h' hk1)
    · by_cases e : n = x
      · subst e
        rw [hc] at hc'; cases hc'
        rw [if_pos rfl]
        exact hn
      · rw [if_neg e]
        obtain ⟨o, g, d⟩ := f.en.cells n c' hc'
        exact ⟨o, (sb.2 c' fun e' => e (f.cinj n x c (e' ▸ hc') hc)).trans g, d⟩
    · have ey := same y hy
      refine ⟨fun h => ?_, fun _ => ?_⟩
      · rw [ey] at h; rw [h] at hk; rcases hk with hk | hk <;> cases hk
      · show SlotRep cx F h' ad' i (if y = x then some v else cm y) sl
        rw [if_pos ey]
        exact hv h' hk2
theorem store_var (H₀ : HereS cx ε n cf A env F₀ s₀ ρ ad m cm) (st : Step cx F₀ s₀ F s) {x : Str} {i : Nat} (hx : ε.vars.lookup x = some i) (hfree : ε.kinds.lookup x ≠ some .free) {v : Value} {sl : Slot}
    (had : ∀ j, j ≠ i → ad' j = ad j) (happ : ad' i = ad i ∨ ∀ j, slotAt ρ j ≠ .app i)
    (hv : ∀ h', (∀ a o, F a ∨ ¬ Mut env ρ ad a → s.heap.get? a = some o → h'.get? a = some o) → SlotRep cx F h' ad' i (some v) sl)
    (hmu : ∀ l, sl = .own l → s₀.heap.get? (ad' i) = none ∧ ¬ F (ad' i) ∧ ¬ cx.X (ad' i) ∧ ∃ vs n, s.heap.get? (ad' i) = some (lobj vs n))
    {Q : Unit → Shared → Prop} {E : Value → Shared → Prop}
    (hQ : ∀ s' m' cm', StepS cx env F₀ s₀ ρ ad F s' (ρ.set i sl) ad' → Frm cx ε env F s' (ρ.set i sl) ad' m' cm' → Q () s') :
    wpAny (model cx.prog cx.w) A (storeName env x v) Q E s := store_varK H₀ st hx hfree had happ hv hmu fun s' m' cm' _ => hQ s' m' cm'
end
end Mine
end MpMx
section MpNx
open PySem PySem.Calls PyProof.Rows PySem.Builtin.Str
namespace Mine
section
variable {cx : XCx} {ε : Sc} {n : Nat} {cf : Nat → List D → Option D} {A : Around} {env : Env} {F F₀ F' : Addr → Prop} {s s₀ s' : Shared} {ρ ρ' : List Slot} {ad ad' : Nat → Addr} {m cm m' cm' : Str → Option Value}
theorem StepS.rep (x : StepS cx env F s ρ ad F' s' ρ' ad') (H : HereS cx ε n cf A env F s ρ ad m cm) {v : Value} {d : D} (r : Rep cx.T F s.heap v d) : Rep cx.T F' s'.heap v d :=
  r.mono x.sub fun a o f e => x.keep a o e (H.wd.nx a f) fun hm => (H.frm.notF hm).1 f
theorem StepS.repL (x : StepS cx env F s ρ ad F' s' ρ' ad') (H : HereS cx ε n cf A env F s ρ ad m cm) {v : List Value} {d : List D} (r : RepL cx.T F s.heap v d) : RepL cx.T F' s'.heap v d :=
  r.mono x.sub fun a o f e => x.keep a o e (H.wd.nx a f) fun hm => (H.frm.notF hm).1 f
theorem store_val (H₀ : HereS cx ε n cf A env F₀ s₀ ρ ad m cm) (st : Step cx F₀ s₀ F s) {x : Str} {i : Nat} (hx : ε.vars.lookup x = some i) (hfree : ε.kinds.lookup x ≠ some .free) {v : Value} {d : D} (hv : Rep cx.T F s.heap v d)
    {Q : Unit → Shared → Prop} {E : Value → Shared → Prop}
    (hQ : ∀ s' m' cm', StepS cx env F₀ s₀ ρ ad F s' (ρ.set i (.val d)) ad → Frm cx ε env F s' (ρ.set i (.val d)) ad m' cm' → Q () s') :
    wpAny (model cx.prog cx.w) A (storeName env x v) Q E s :=
  store_var H₀ st hx hfree (sl := .val d) (ad' := ad) (fun _ _ => rfl) (.inl rfl) (fun h' hk => .val (hv.mono (fun _ h => h) fun a o f e => hk a o (.inl f) e)) (fun _ e => nomatch e) hQ
theorem ev1_inv {x : X} {d : D} (h : ev1 cf x ρ = some d) : ∃ r, ev cf x ρ = some [r] ∧ r.fz = some d := by
  unfold ev1 at h
  split at h
  · rename_i r e; exact ⟨r, e, h⟩
  · cases h
theorem eval_fz (H : HereS cx ε n cf A env F s ρ ad m cm) {e : Expr} {x : X} (h : Sound cx ε e x) {d : D} (hd : ev1 cf x ρ = some d) {Q : Value → Shared → Prop} {E : Value → Shared → Prop}
    (hQ : ∀ v F' s', Step cx F s F' s' → Rep cx.T F' s'.heap v d → Q v s') : wpAny (model cx.prog cx.w) A (eval e env) Q E s := by
  obtain ⟨r, e1, e2⟩ := ev1_inv hd
  refine h.ev n cf A env F s ρ ad m cm H.here r e1 _ _ fun v F' s' st q => ?_
  obtain ⟨F'', st', _, q'⟩ := st.fz H.ok H.wd q e2
  exact hQ v F'' s' st' q'
end
section
variable {cx : XCx} {ε : Sc}
theorem soundS_break {pos : Pos} : SoundS cx ε (.Break pos) .brk := by
  intro n cf A env F s ρ ad m cm H ρ' o h Q E hQ
  replace h := (exq_brk cf).symm.trans h; cases h
  exact wpAny_Break (hQ .brk F s ad m cm (StepS.refl H.wd) H.frm .brk)
theorem soundS_ret {e : Expr} {x : X} {pos : Pos} (hx : Sound cx ε e x) : SoundS cx ε (.Return (some e) pos) (.ret x) := by
  intro n cf A env F s ρ ad m cm H ρ' o h Q E hQ
  replace h := (exq_ret cf).symm.trans h
  obtain ⟨d, hd, e'⟩ := Option.map_eq_some_iff.mp h
  cases e'
  refine wpAny_Return_some (eval_fz H hx hd fun v F' s' st q => ?_)
  exact hQ _ F' s' ad m cm (.ofStep st) (H.step st).frm (.ret q)
theorem soundS_if {c : Expr} {x : X} {bs es : List Stmt} {a b : S} {pos : Pos} (hx : Sound cx ε c x) (ha : SoundSs cx ε bs a) (hb : SoundSs cx ε es b) : SoundS cx ε (.If c bs es pos) (.ite x a b) := by
  intro n cf A env F s ρ ad m cm H ρ' o h Q E hQ
  replace h := (exq_ite cf).symm.trans h
  split at h
  · rename_i e
    refine wpAny_If (hx.tr n cf A env F s ρ ad m cm H.here true e _ _ fun F' s' st => ?_)
    show wpAny _ _ _ _ _ _
    exact ha n cf A env F' s' ρ ad m cm (H.step st) ρ' o h _ _ (hQ.after (.ofStep st))
  · rename_i e
    refine wpAny_If (hx.tr n cf A env F s ρ ad m cm H.here false e _ _ fun F' s' st => ?_)
    show wpAny _ _ _ _ _ _
    exact hb n cf A env F' s' ρ ad m cm (H.step st) ρ' o h _ _ (hQ.after (.ofStep st))
  · cases h
theorem soundS_assert {c : Expr} {x : X} {msg : Option Expr} {pos : Pos} (hx : Sound cx ε c x) : SoundS cx ε (.Assert c msg pos) (.assert x) := by
  intro n cf A env F s ρ ad m cm H ρ' o h Q E hQ
  replace h := (exq_assert cf).symm.trans h
  split at h
  · rename_i e
    cases h
    refine wpAny_Assert_holds (hx.tr n cf A env F s ρ ad m cm H.here true e _ _ fun F' s' st => ?_)
    exact ⟨rfl, hQ .next F' s' ad m cm (.ofStep st) (H.step st).frm .next⟩
  · cases h
theorem soundS_assign {x : Str} {i : Nat} {e : Expr} {y : X} {pos' pos : Pos} (hx : ε.vars.lookup x = some i) (hf : ε.kinds.lookup x ≠ some .free) (h : Sound cx ε e y) (hs : ∀ env : Env, env.scope.kind = .function → env.scope.names = ε.kinds → swapsWith e (some (.Name x pos')) pos.line env = pure false) :
    SoundS cx ε (.Assign [.Name x pos'] e pos) (.assign i y) := by
  intro n cf A env F s ρ ad m cm H ρ' o he Q E hQ
  replace he := (exq_assign cf).symm.trans he
  obtain ⟨d, hd, e'⟩ := Option.map_eq_some_iff.mp he
  cases e'
  refine wpAny_Assign_Name (eval_fz H h hd fun v F' s' st q => ?_) (hs env H.frm.en.kind H.frm.en.names)
  exact store_val H st hx hf q fun s'' m' cm' x f => hQ .next F' s'' ad m' cm' x f .next
theorem noApp_ok {i : Nat} {ρ : List Slot} (h : noApp i ρ = true) : ∀ j, slotAt ρ j ≠ .app i := by
  intro j e
  unfold noApp at h
  rw [List.all_eq_true] at h
  unfold slotAt at e
  rw [List.getD_eq_getElem?_getD] at e
  cases hj : ρ[j]? with
  | none => rw [hj] at e; cases e
  | some sl =>
    rw [hj] at e
    have := h sl (List.mem_of_getElem? hj)
    have e' : sl = .app i := e
    subst e'
    simp at this
theorem soundS_assignO {x : Str} {i : Nat} {e : Expr} {y : X} {pos' pos : Pos} (hx : ε.vars.lookup x = some i) (hf : ε.kinds.lookup x ≠ some .free) (h : Sound cx ε e y) (hs : ∀ env : Env, env.scope.kind = .function → env.scope.names = ε.kinds → swapsWith e (some (.Name x pos')) pos.line env = pure false) :
    SoundS cx ε (.Assign [.Name x pos'] e pos) (.assignO i y) := by
  intro n cf A env F s ρ ad m cm H ρ' o he Q E hQ
  replace he := (exq_assignO cf).symm.trans he
  split at he
  · rename_i hna
    split at he
    · rename_i l e1
      cases he
      refine wpAny_Assign_Name (h.ev n cf A env F s ρ ad m cm H.here _ e1 _ _ fun v F' s' st q => ?_) (hs env H.frm.en.kind H.frm.en.names)
      cases q with
      | @own a vs k l lo nf nx g z q =>
        refine store_var H st hx hf (sl := .own l) (ad' := fun j => if j = i then a else ad j) (fun j hj => if_neg hj) (.inr (noApp_ok hna)) (fun h' hk => ?_) (fun l' _ => ?_) fun s'' m' cm' x f => hQ .next F' s'' _ m' cm' x f .next
        · have nm : ¬ Mut env ρ ad a := fun hm => by
            obtain ⟨o, e⟩ := H.frm.isSome hm
            rw [lo] at e; cases e
          have : SlotRep cx F' h' (fun j => if j = i then a else ad j) i (some (.ref ((fun j => if j = i then a else ad j) i))) (.own l) := by
            refine .own (vs := vs) (n := k) ?_ ?_ ?_ z (q.mono (fun _ h => h) fun b o f e => hk b o (.inl f) e) <;> simp only [if_true]
            · exact nf
            · exact nx
            · exact hk a _ (.inr nm) g
          simpa using this
        · simp only [if_true]
          exact ⟨lo, nf, nx, _, _, g⟩
    · rename_i d e1
      cases he
      refine wpAny_Assign_Name (h.ev n cf A env F s ρ ad m cm H.here _ e1 _ _ fun v F' s' st q => ?_) (hs env H.frm.en.kind H.frm.en.names)
      cases q with
      | val q => exact store_val H st hx hf q fun s'' m' cm' x f => hQ .next F' s'' ad m' cm' x f .next
    · cases he
  · cases he
end
end Mine
end MpNx
section MpOx
open PySem PySem.Calls PyProof.Rows PySem.Builtin.Str
namespace Mine
set_option genInjectivity false in
structure Iter (cx : XCx) (A : Around) (F₀ : Addr → Prop) (s₀ : Shared) (items : List D) (I : Addr) (F : Addr → Prop) (s : Shared) (fp wr : List Addr) (P : Nat → Value → Prop) (St : Nat → Heap → Prop) : Prop where
  st : Step cx F₀ s₀ F s
  W : ∀ A' : Around, A'.handled = none → Walks cx.prog cx.w A' I fp wr items.length P St
  s0 : St 0 s.heap
  new : ∀ b ∈ wr, s₀.heap.get? b = none ∧ ¬ F b
  one : ∀ b ∈ wr, b = I
  deps : ∀ b ∈ fp, b ∈ wr ∨ F b
  item : ∀ i v, P i v → ∃ d, items[i]? = some d ∧ Rep cx.T F s.heap v d
  ty : ∀ i h, St i h → ∃ o T, h.get? I = some o ∧ o.cls = .type T ∧ ["enumerate", "zip", "dict_itemiterator", "dict_reverseitemiterator", "odict_iterator", "itertools.zip_longest", "itertools.pairwise"].contains T = false
  lim : items.length ≤ lim
noncomputable def SoundI (cx : XCx) (ε : Sc) (it : Expr) (x : X) : Prop :=
  ∀ n cf A env F s ρ ad m cm, Here cx ε n cf A env F s ρ ad m cm → ∀ items, evI cf x ρ = some items → ∀ (Q : Value → Shared → Prop) (E : Value → Shared → Prop),
    (∀ I F' s' fp wr P St, Iter cx A F s items I F' s' fp wr P St → Q (.ref I) s') →
    wpAny (model cx.prog cx.w) A (eval it env) (fun v s₁ => wpAny (model cx.prog cx.w) A (pyIter v) Q E s₁) E s
noncomputable def SoundA (cx : XCx) (ε : Sc) (target : Expr) (put : D → List Slot → Option (List Slot)) : Prop :=
  ∀ n cf A env F s ρ ad m cm, HereS cx ε n cf A env F s ρ ad m cm → ∀ v d ρ', Rep cx.T F s.heap v d → put d ρ = some ρ' → ∀ (Q : Unit → Shared → Prop) (E : Value → Shared → Prop),
    (∀ F' s' m' cm', StepS cx env F s ρ ad F' s' ρ' ad → Frm cx ε env F' s' ρ' ad m' cm' → Q () s') → wpAny (model cx.prog cx.w) A (assign target env v) Q E s
section
variable {cx : XCx} {ε : Sc} {n : Nat} {cf : Nat → List D → Option D} {A : Around} {env : Env} {F F₀ F' : Addr → Prop} {s s₀ s' : Shared} {ρ ρ' : List Slot} {ad ad' : Nat → Addr} {m cm m' cm' : Str → Option Value}
theorem Frm.kept (f : Frm cx ε env F s ρ ad m cm) {h' : Heap} (k : Nat) (hk : ∀ a o, F a ∨ Mut env ρ ad a → s.heap.get? a = some o → h'.get? a = some o) :
    Frm cx ε env F { s with heap := h', toks := k } ρ ad m cm := by
  have hl : Mut env ρ ad env.locals := .inl rfl
  have slots : ∀ j ov, SlotRep cx F s.heap ad j ov (slotAt ρ j) → SlotRep cx F h' ad j ov (slotAt ρ j) := by
    intro j ov q
    have hm : ∀ l, slotAt ρ j = .own l → Mut env ρ ad (ad j) := fun l e => .inr (.inr ⟨j, l, e, rfl⟩)
    generalize slotAt ρ j = x at q hm
    cases q with
    | unset => exact .unset
    | val q => exact .val (q.mono (fun _ h => h) fun a o f e => hk a o (.inl f) e)
    | own nf nx g z q => exact .own nf nx (hk _ _ (.inr (hm _ rfl)) g) z (q.mono (fun _ h => h) fun a o f e => hk a o (.inl f) e)
    | app fb g e => exact .app fb (hk _ _ (.inl fb) g) e
  refine ⟨⟨f.en.kind, f.en.names, f.en.glob, f.en.blt, f.en.code, f.en.lx, f.en.cxx, f.en.ns.at' fun o e => hk _ o (.inr hl) e, fun n c hc => let ⟨o, g, d⟩ := f.en.cells n c hc; ⟨o, hk _ o (.inr (.inr (.inl ⟨n, hc⟩))) g, d⟩,
    fun y i hy => (f.en.vars y i hy).imp (fun ⟨k, q⟩ => ⟨k, slots i _ q⟩) fun ⟨k, c, q⟩ => ⟨k, c, slots i _ q⟩⟩, f.lf, f.cf, f.cinj, f.oinj, fun i l hi => ?_⟩
  obtain ⟨a1, a2, ⟨vs, n, g⟩, a4, a5⟩ := f.own i l hi
  exact ⟨a1, a2, ⟨vs, n, hk _ _ (.inr (.inr (.inr ⟨i, l, hi, rfl⟩))) g⟩, a4, a5⟩
theorem StepS.kept (ok : CxOk cx) (w₀ : Wd cx F₀ s₀) (x : StepS cx env F₀ s₀ ρ ad F s ρ' ad') (f : Frm cx ε env F s ρ' ad' m cm) {wr : List Addr} (hw : ∀ b ∈ wr, s₀.heap.get? b = none ∧ ¬ F b ∧ ¬ Mut env ρ' ad' b) {h' : Heap} (k : Nat)
    (hk : ∀ a o, a ∉ wr → s.heap.get? a = some o → h'.get? a = some o) : StepS cx env F₀ s₀ ρ ad F { s with heap := h', toks := k } ρ' ad' ∧ Frm cx ε env F { s with heap := h', toks := k } ρ' ad' m cm := by
  have nf : ∀ a, F a → a ∉ wr := fun a h hm => (hw a hm).2.1 h
  have nm : ∀ a, Mut env ρ' ad' a → a ∉ wr := fun a h hm => (hw a hm).2.2 h
  have nx : ∀ a, cx.X a → a ∉ wr := fun a h hm => by
    obtain ⟨o, e⟩ := w₀.xex a h
    rw [(hw a hm).1] at e; cases e
  have w := x.wd
  refine ⟨⟨x.sub, x.new, fun a o e ax am => ?_, x.os, ⟨fun a o e ax => hk a o (nf a (w.f0 a o e ax)) (w.base a o e ax), ok.xi _ _ _ _ w.xi (fun _ h => h) (fun a o h e => hk a o (h.elim (nf a) (nx a)) e), w.gens, w.f0, fun a h => let ⟨o, e⟩ := w.lt a h; ⟨o, hk a o (nf a h) e⟩, w.nx, fun a h => let ⟨o, e⟩ := w.xex a h; ⟨o, hk a o (nx a h) e⟩⟩, x.mu⟩, f.kept k fun a o h e => hk a o (h.elim (nf a) (nm a)) e⟩
  refine hk a o (fun hm => ?_) (x.keep a o e ax am)
  rw [(hw a hm).1] at e; cases e
end
section
variable {cx : XCx} {ε : Sc}
theorem soundA_name {x : Str} {i : Nat} {p : Pos} (hx : ε.vars.lookup x = some i) (hf : ε.kinds.lookup x ≠ some .free) : SoundA cx ε (.Name x p) (put1 i) := by
  intro n cf A env F s ρ ad m cm H v d ρ' hv hp Q E hQ
  cases hp
  exact wpAny_assign_Name (store_val H (Step.refl H.wd) hx hf hv fun s' m' cm' x f => hQ F s' m' cm' x f)
inductive WhI (cx : XCx) (ε : Sc) (env : Env) (F : Addr → Prop) (s : Shared) (ρ : List Slot) (ad : Nat → Addr) (go : Nat → List Slot → Option (List Slot × Out)) (res : Option (List Slot × Out)) (k : Nat) (s' : Shared) : Prop
  | mk (F' : Addr → Prop) (ρ₁ : List Slot) (ad₁ : Nat → Addr) (m₁ cm₁ : Str → Option Value) (x1 : StepS cx env F s ρ ad F' s' ρ₁ ad₁) (f1 : Frm cx ε env F' s' ρ₁ ad₁ m₁ cm₁) (hg : go k ρ₁ = res)
theorem soundS_while {c : Expr} {x : X} {bs : List Stmt} {b : S} {pos : Pos} (hx : Sound cx ε c x) (hb : SoundSs cx ε bs b) : SoundS cx ε (.While c bs [] pos) (.while x b) := by
  intro n cf A env F s ρ ad m cm H ρ' o h Q E hQ
  replace h := (exq_while cf).symm.trans h
  refine wpAny_While ?_
  refine codeAny_whileLoop (WhI cx ε env F s ρ ad (whileGo (evT cf x) (ex cf b)) (some (ρ', o))) (fun k s' hI => ?_) Mine.wf
    ⟨F, ρ, ad, m, cm, StepS.refl H.wd, H.frm, h⟩
  obtain ⟨F', ρ₁, ad₁, m₁, cm₁, x1, f1, hg⟩ := hI
  have H1 := H.stepS x1 f1
  cases k with
  | zero => cases hg
  | succ k =>
    unfold whileGo at hg
    split at hg
    · cases hg
    · rename_i e
      cases hg
      refine hx.tr n cf A env F' s' _ ad₁ m₁ cm₁ H1.here false e _ _ fun F2 s2 st => ?_
      show wpAny _ _ _ _ _ _
      exact wpAny_execs_nil (hQ .next F2 s2 ad₁ m₁ cm₁ (x1.trans (.ofStep st)) (H1.step st).frm .next)
    · rename_i e
      refine hx.tr n cf A env F' s' ρ₁ ad₁ m₁ cm₁ H1.here true e _ _ fun F2 s2 st => ?_
      show wpAny _ _ _ _ _ _
      have H2 := H1.step st
      split at hg
      · cases hg
      · rename_i ρ₂ e2
        refine hb n cf A env F2 s2 ρ₁ ad₁ m₁ cm₁ H2 ρ₂ .next e2 _ _ fun f F3 s3 ad3 m3 cm3 x3 f3 q => ?_
        cases q
        exact ⟨k, Nat.lt_succ_self k, F3, ρ₂, ad3, m3, cm3, (x1.trans (.ofStep st)).trans x3, f3, hg⟩
      · rename_i ρ₂ e2
        refine hb n cf A env F2 s2 ρ₁ ad₁ m₁ cm₁ H2 ρ₂ .cont e2 _ _ fun f F3 s3 ad3 m3 cm3 x3 f3 q => ?_
        cases q
        exact ⟨k, Nat.lt_succ_self k, F3, ρ₂, ad3, m3, cm3, (x1.trans (.ofStep st)).trans x3, f3, hg⟩
      · rename_i ρ₂ e2
        cases hg
        refine hb n cf A env F2 s2 ρ₁ ad₁ m₁ cm₁ H2 _ .brk e2 _ _ fun f F3 s3 ad3 m3 cm3 x3 f3 q => ?_
        cases q
        exact hQ .next F3 s3 ad3 m3 cm3 ((x1.trans (.ofStep st)).trans x3) f3 .next
      · rename_i ρ₂ d e2
        cases hg
        refine hb n cf A env F2 s2 ρ₁ ad₁ m₁ cm₁ H2 _ (.ret d) e2 _ _ fun f F3 s3 ad3 m3 cm3 x3 f3 q => ?_
        cases q with
        | ret r => exact hQ _ F3 s3 ad3 m3 cm3 ((x1.trans (.ofStep st)).trans x3) f3 (.ret r)
theorem letGo_ok {A : Around} {s : Shared} {E : Value → Shared → Prop} {target : Expr} {I : Addr} {v : Value} {Q : Unit → Shared → Prop} {o : Obj} {T : String} (hg : s.heap.get? I = some o) (hc : o.cls = .type T)
    (hT : ["enumerate", "zip", "dict_itemiterator", "dict_reverseitemiterator", "odict_iterator", "itertools.zip_longest", "itertools.pairwise"].contains T = false) (h : Q () s) :
    wpAny (model cx.prog cx.w) A (letOwnedTupleGo target (.ref I) v) Q E s := by
  have key : ∀ es k p, wpAny (model cx.prog cx.w) A (letOwnedTupleGo (.Tuple es k p) (.ref I) v) Q E s := by
    intro es k p
    cases v with
    | ref a =>
      show wpAny _ _ (load I >>= _) Q E s
      refine wpAny_bind (wpAny_load hg ?_)
      rw [hc]
      generalize o.data = dd
      cases dd with
      | fields vs =>
        show wpAny _ _ (if (_ && _) = true then _ else _) Q E s
        rw [hT]
        exact wpAny_pure h
      | _ => exact wpAny_pure h
    | _ => exact wpAny_pure h
  cases target with
  | Tuple es k p => exact key es k p
  | List es p => exact key [] 0 p
  | _ => exact wpAny_pure h
inductive ForI (cx : XCx) (ε : Sc) (env : Env) (F : Addr → Prop) (s : Shared) (ρ : List Slot) (ad : Nat → Addr) (F0 : Addr → Prop) (h0 : Heap) (wr : List Addr) (St : Nat → Heap → Prop) (items : List D) (go : List D → List Slot → Option (List Slot × Out)) (res : Option (List Slot × Out)) (k : Nat) (s' : Shared) : Prop
  | mk (j : Nat) (F' : Addr → Prop) (ρ₁ : List Slot) (ad₁ : Nat → Addr) (m₁ cm₁ : Str → Option Value) (hj : j ≤ items.length) (hk : k = items.length - j) (x1 : StepS cx env F s ρ ad F' s' ρ₁ ad₁) (hrep : ∀ v d, Rep cx.T F0 h0 v d → Rep cx.T F' s'.heap v d) (hF : ∀ a, F0 a → F' a) (f1 : Frm cx ε env F' s' ρ₁ ad₁ m₁ cm₁) (hst : St j s'.heap)
    (hwr : ∀ b ∈ wr, ¬ F' b ∧ ¬ Mut env ρ₁ ad₁ b) (hg : go (items.drop j) ρ₁ = res)
set_option genInjectivity false in
structure ForL (cx : XCx) (env : Env) (F0 : Addr → Prop) (h0 : Heap) (wr : List Addr) (St : Nat → Heap → Prop) (j : Nat) (F4 : Addr → Prop) (h4 : Heap) (ρ4 : List Slot) (ad4 : Nat → Addr) : Prop where
  p1 : ∀ v d, Rep cx.T F0 h0 v d → Rep cx.T F4 h4 v d
  p2 : ∀ a, F0 a → F4 a
  p3 : St j h4
  p4 : ∀ b ∈ wr, ¬ F4 b ∧ ¬ Mut env ρ4 ad4 b
theorem for_any {target : Expr} {put : D → List Slot → Option (List Slot)} {it : Expr} {x : X} {bs : List Stmt} {b : S} {pos : Pos} (ht : SoundA cx ε target put) (hi : SoundI cx ε it x) (hb : SoundSs cx ε bs b)
    (hs : ∀ env x, foldedSetIterable it env x = pure x) {n cf A env F s ρ ad m cm} (H : HereS cx ε n cf A env F s ρ ad m cm) {items : List D} (hit : evI cf x ρ = some items) {ρ' : List Slot} {o : Out}
    (h : forGo put (ex cf b) items ρ = some (ρ', o)) {Q : Flow → Shared → Prop} {E : Value → Shared → Prop} (hQ : PostS cx ε env F s ρ ad ρ' o Q) : wpAny (model cx.prog cx.w) A (exec (.For target it bs [] pos) env) Q E s := by
  refine wpAny_For (hi n cf A env F s ρ ad m cm H.here items hit _ _ fun I F0 s0 fp wr P St J => ?_) (hs env)
  have hx0 : ∀ b ∈ wr, ¬ cx.X b := fun b hb h => by
    obtain ⟨o, e⟩ := H.wd.xex b h
    rw [(J.new b hb).1] at e; cases e
  refine codeAny_forLoop_any (ForI cx ε env F s ρ ad F0 s0.heap wr St items (forGo put (ex cf b)) (some (ρ', o))) (fun k s' hI => ?_) items.length
    ⟨0, F0, ρ, ad, m, cm, Nat.zero_le _, rfl, .ofStep J.st, fun _ _ h => h, fun _ h => h, (H.step J.st).frm, J.s0, fun b hb => ⟨(J.new b hb).2, fun hm => ?_⟩, h⟩
  rotate_left
  · obtain ⟨o, e⟩ := H.frm.isSome hm
    rw [(J.new b hb).1] at e; cases e
  obtain ⟨j, F', ρ₁, ad₁, m₁, cm₁, hj, rfl, x1, hrep, hF, f1, hst, hwr, hg⟩ := hI
  have hwr' : ∀ b ∈ wr, s.heap.get? b = none ∧ ¬ F' b ∧ ¬ Mut env ρ₁ ad₁ b := fun b hb => ⟨(J.new b hb).1, (hwr b hb).1, (hwr b hb).2⟩
  rcases Nat.lt_or_ge j items.length with hlt | hge
  · refine (J.W A H.bud.hd).item j s' _ _ hlt hst fun v h' tk hP hst' hk => ?_
    obtain ⟨x2, f2⟩ := x1.kept H.ok H.wd f1 hwr' tk hk
    obtain ⟨d, hd, hr⟩ := J.item j v hP
    have hdrop : items.drop j = d :: items.drop (j + 1) := by
      have h1 : items[j]? = some items[j] := List.getElem?_eq_getElem hlt
      rw [h1] at hd
      cases hd
      exact List.drop_eq_getElem_cons hlt
    rw [hdrop] at hg
    unfold forGo at hg
    obtain ⟨ob, T, g1, g2, g3⟩ := J.ty _ _ hst'
    have keepF : ∀ a o, F' a → s'.heap.get? a = some o → h'.get? a = some o := fun a o f e => hk a o (fun hm => (hwr a hm).1 f) e
    have hr2 : ∀ v d, Rep cx.T F0 s0.heap v d → Rep cx.T F' h' v d := fun v d hr => (hrep v d hr).mono (fun _ h => h) keepF
    refine letGo_ok (s := { s' with heap := h', toks := tk }) g1 g2 g3 ?_
    split at hg
    · cases hg
    · rename_i ρ₂ e2
      have H2 := H.stepS x2 f2
      refine ht n cf A env F' _ ρ₁ ad₁ m₁ cm₁ H2 v d ρ₂ (hr2 v d hr) e2 _ _ fun F3 s3 m3 cm3 x3 f3 => ?_
      have H3 := H2.stepS x3 f3
      have later : ∀ {F4 s4 ρ4 ad4 m4 cm4}, StepS cx env F' { s' with heap := h', toks := tk } ρ₁ ad₁ F4 s4 ρ4 ad4 → Frm cx ε env F4 s4 ρ4 ad4 m4 cm4 →
          ForL cx env F0 s0.heap wr St (j + 1) F4 s4.heap ρ4 ad4 := by
        intro F4 s4 ρ4 ad4 m4 cm4 y f4
        refine ⟨fun v d q => y.rep H2 (hr2 v d q), fun a h => y.sub a (hF a h), (J.W A H.bud.hd).frame _ _ _ hst' fun b hb ob' e => ?_, fun b hb => ?_⟩
        · rcases J.deps b hb with hb | hb
          · exact y.keep b ob' e (hx0 b hb) (hwr b hb).2
          · exact y.keep b ob' e (H2.wd.nx b (hF b hb)) fun hm => (f2.notF hm).1 (hF b hb)
        · have hb0 := hb
          rw [J.one b hb] at hb0 ⊢
          refine ⟨fun h => ?_, fun h => ?_⟩
          · rcases y.new I h with q | q | q
            · exact (hwr I hb0).1 q
            · rw [show ({ s' with heap := h', toks := tk } : Shared).heap.get? I = some ob from g1] at q; cases q
            · exact (hwr I hb0).2 q
          · rcases y.mu I h with q | q
            · exact (hwr I hb0).2 q
            · rw [show ({ s' with heap := h', toks := tk } : Shared).heap.get? I = some ob from g1] at q; cases q
      split at hg
      · cases hg
      · rename_i ρ₃ e3
        refine hb n cf A env F3 s3 ρ₂ ad₁ m3 cm3 H3 _ .next e3 _ _ fun f F4 s4 ad4 m4 cm4 x4 f4 q => ?_
        cases q
        obtain ⟨p1, p2, p3, p4⟩ := later (x3.trans x4) f4
        exact ⟨items.length - (j + 1), by omega, j + 1, F4, ρ₃, ad4, m4, cm4, hlt, rfl, x2.trans (x3.trans x4), p1, p2, f4, p3, p4, hg⟩
      · rename_i ρ₃ e3
        refine hb n cf A env F3 s3 ρ₂ ad₁ m3 cm3 H3 _ .cont e3 _ _ fun f F4 s4 ad4 m4 cm4 x4 f4 q => ?_
        cases q
        obtain ⟨p1, p2, p3, p4⟩ := later (x3.trans x4) f4
        exact ⟨items.length - (j + 1), by omega, j + 1, F4, ρ₃, ad4, m4, cm4, hlt, rfl, x2.trans (x3.trans x4), p1, p2, f4, p3, p4, hg⟩
      · rename_i ρ₃ e3
        cases hg
        refine hb n cf A env F3 s3 ρ₂ ad₁ m3 cm3 H3 _ .brk e3 _ _ fun f F4 s4 ad4 m4 cm4 x4 f4 q => ?_
        cases q
        exact hQ .next F4 s4 ad4 m4 cm4 (x2.trans (x3.trans x4)) f4 .next
      · rename_i ρ₃ d' e3
        cases hg
        refine hb n cf A env F3 s3 ρ₂ ad₁ m3 cm3 H3 _ (.ret d') e3 _ _ fun f F4 s4 ad4 m4 cm4 x4 f4 q => ?_
        cases q with
        | ret r => exact hQ _ F4 s4 ad4 m4 cm4 (x2.trans (x3.trans x4)) f4 (.ret r)
  · have ej : j = items.length := by omega
    subst ej
    rw [List.drop_length] at hg
    cases hg
    refine (J.W A H.bud.hd).done s' _ _ hst fun h' tk hk => ?_
    obtain ⟨x2, f2⟩ := x1.kept H.ok H.wd f1 hwr' tk hk
    exact wpAny_execs_nil (hQ .next F' _ ad₁ m₁ cm₁ x2 f2 .next)
theorem soundS_for {x : Str} {i : Nat} {p : Pos} {it : Expr} {y : X} {bs : List Stmt} {b : S} {pos : Pos} (hx : ε.vars.lookup x = some i) (hf : ε.kinds.lookup x ≠ some .free) (hi : SoundI cx ε it y) (hb : SoundSs cx ε bs b)
    (hs : ∀ env x, foldedSetIterable it env x = pure x) : SoundS cx ε (.For (.Name x p) it bs [] pos) (.forE i y b) := by
  intro n cf A env F s ρ ad m cm H ρ' o h Q E hQ
  replace h := (exq_forE cf).symm.trans h
  split at h
  · rename_i items e
    exact for_any (soundA_name hx hf) hi hb hs H e h hQ
  · cases h
end
end Mine
end MpOx
section MpPx
open PySem PySem.Calls PyProof.Rows PySem.Builtin.Str
namespace Mine
section
variable {cx : XCx} {ε : Sc}
theorem evI_seq {cf : Nat → List D → Option D} {x : X} {ρ : List Slot} {items : List D} (h : evI cf (.seqI x) ρ = some items) : ∃ r d, ev cf x ρ = some [r] ∧ r.fz = some d ∧ itemsOf d = some items := by
  unfold evI at h
  split at h
  · rename_i l e
    cases h
    replace e := (evq_seqI _).symm.trans e
    split at e
    · rename_i r e1
      split at e
      · rename_i d e2
        obtain ⟨l', e3, e4⟩ := Option.map_eq_some_iff.mp e
        cases e4
        exact ⟨r, d, e1, e2, e3⟩
      · cases e
    · cases e
  · cases h
theorem iter_new {A : Around} {F₀ F : Addr → Prop} {s₀ s : Shared} {items : List D} {P : Nat → Value → Prop} {St : Nat → Heap → Prop} {fp : List Addr} {o : Obj} (ok : CxOk cx) (w₀ : Wd cx F₀ s₀) (st : Step cx F₀ s₀ F s)
    (W : ∀ A' : Around, A'.handled = none → Walks cx.prog cx.w A' s.heap.objs.size fp [s.heap.objs.size] items.length P St) (s0 : St 0 (s.heap.push o)) (deps : ∀ b ∈ fp, b = s.heap.objs.size ∨ F b)
    (item : ∀ i v, P i v → ∃ d, items[i]? = some d ∧ Rep cx.T F s.heap v d)
    (ty : ∀ i h, St i h → ∃ o T, h.get? s.heap.objs.size = some o ∧ o.cls = .type T ∧ ["enumerate", "zip", "dict_itemiterator", "dict_reverseitemiterator", "odict_iterator", "itertools.zip_longest", "itertools.pairwise"].contains T = false)
    (hl : items.length ≤ lim) (k : Nat) : Iter cx A F₀ s₀ items s.heap.objs.size F { s with heap := s.heap.push o, toks := k } fp [s.heap.objs.size] P St := by
  have stp := Step.push ok st.wd o k
  have fr := fresh_size s.heap
  refine ⟨st.trans stp, W, s0, fun b hb => ?_, fun b hb => by simpa using hb, fun b hb => (deps b hb).imp (fun e => by simp [e]) id, fun i v h => ?_, ty, hl⟩
  · have e : b = s.heap.objs.size := by simpa using hb
    subst e
    exact ⟨st.fresh (st.wd.newNotX fr) fr, st.wd.newNotF fr⟩
  · obtain ⟨d, e, r⟩ := item i v h
    exact ⟨d, e, stp.rep st.wd r⟩
theorem iter_seq {A : Around} (hh : A.handled = none) {F₀ F : Addr → Prop} {s₀ s : Shared} (ok : CxOk cx) (w₀ : Wd cx F₀ s₀) (st : Step cx F₀ s₀ F s) {v : Value} {d : D} (q : Rep cx.T F s.heap v d) {items : List D} (hi : itemsOf d = some items)
    {Q : Value → Shared → Prop} {E : Value → Shared → Prop} (hQ : ∀ I F' s' fp wr P St, Iter cx A F₀ s₀ items I F' s' fp wr P St → Q (.ref I) s') : wpAny (model cx.prog cx.w) A (pyIter v) Q E s := by
  cases q with
  | @list a vs n l f g z q =>
    cases hi
    have hne : a ≠ s.heap.objs.size := Nat.ne_of_lt (Heap.lt_size g)
    have el : items.length = vs.toArray.size := by rw [List.size_toArray]; exact q.length.symm
    refine wpAny_pyIter_list (isList_of g) (hQ _ F _ [s.heap.objs.size, a] [s.heap.objs.size] (fun i v => vs.toArray[i]? = some v) (fun i h => h.IsListIter s.heap.objs.size a i ∧ h.IsList a vs.toArray) ?_)
    refine iter_new (P := fun i v => vs.toArray[i]? = some v) ok w₀ st (fun A' hh => el ▸ Walks.list hh _ a hne vs.toArray) ⟨⟨_, Heap.get?_push_size _ rfl, rfl, rfl⟩, (isList_of g).push _⟩ (fun b hb => ?_) (fun i v h => ?_) (fun i h hs => ?_) (by rw [← q.length]; exact z) s.toks
    · simp only [List.mem_cons, List.not_mem_nil, or_false] at hb
      rcases hb with rfl | rfl
      · exact .inl rfl
      · exact .inr f
    · rw [List.getElem?_toArray] at h
      exact q.getV h
    · obtain ⟨⟨o, g, c, _⟩, _⟩ := hs
      exact ⟨o, _, g, c, by decide⟩
  | @tup a vs n l f g z q =>
    cases hi
    have hne : a ≠ s.heap.objs.size := Nat.ne_of_lt (Heap.lt_size g)
    have el : items.length = vs.toArray.size := by rw [List.size_toArray]; exact q.length.symm
    have ht : s.heap.IsTuple a vs.toArray := ⟨_, g, rfl, n, rfl⟩
    refine wpAny_pyIter_tuple ht (hQ _ F _ [s.heap.objs.size, a] [s.heap.objs.size] (fun i v => vs.toArray[i]? = some v) (fun i h => h.IsTupleIter s.heap.objs.size a i ∧ h.IsTuple a vs.toArray) ?_)
    refine iter_new (P := fun i v => vs.toArray[i]? = some v) ok w₀ st (fun A' hh => el ▸ Walks.tuple hh _ a hne vs.toArray) ⟨⟨_, Heap.get?_push_size _ rfl, rfl, rfl⟩, ht.push _⟩ (fun b hb => ?_) (fun i v h => ?_) (fun i h hs => ?_) (by rw [← q.length]; exact z) s.toks
    · simp only [List.mem_cons, List.not_mem_nil, or_false] at hb
      rcases hb with rfl | rfl
      · exact .inl rfl
      · exact .inr f
    · rw [List.getElem?_toArray] at h
      exact q.getV h
    · obtain ⟨⟨o, g, c, _⟩, _⟩ := hs
      exact ⟨o, _, g, c, by decide⟩
  | @str l t p z =>
    cases hi
    have el : (l.map fun c => D.str [c]).length = (PySem.Str.mk l.toArray).cps.size := by simp
    have item : ∀ i v, SignAt ⟨l.toArray⟩ i v → ∃ d, (l.map fun c => D.str [c])[i]? = some d ∧ Rep cx.T F s.heap v d := by
      rintro i v ⟨c, u, e, rfl⟩
      rw [show (PySem.Str.mk l.toArray).cps = l.toArray from rfl, List.getElem?_toArray] at e
      refine ⟨.str [c], by rw [List.getElem?_map, e]; rfl, .str (l := [c]) u (fun c' h => ?_) (by simp [lim])⟩
      simp only [List.mem_cons, List.not_mem_nil, or_false] at h
      subst h
      exact p _ (List.mem_of_getElem? e)
    have hz : (l.map fun c => D.str [c]).length ≤ lim := by simpa using z
    have deps : ∀ b ∈ [s.heap.objs.size], b = s.heap.objs.size ∨ F b := fun b hb => .inl (by simpa using hb)
    cases ha : (PySem.Str.mk l.toArray).cps.all (· < 128)
    · refine wpAny_pyIter_wide ha (hQ _ F _ _ _ _ _ (iter_new ok w₀ st (fun A' hh => el ▸ Walks.strWide hh _ ⟨l.toArray⟩ t) ⟨_, Heap.get?_push_size _ rfl, rfl, rfl⟩ deps item (fun i h hs => ?_) hz s.toks))
      obtain ⟨o, g, c, _⟩ := hs
      exact ⟨o, _, g, c, by decide⟩
    · refine wpAny_pyIter_ascii ha (hQ _ F _ _ _ _ _ (iter_new ok w₀ st (fun A' hh => el ▸ Walks.strAscii hh _ ⟨l.toArray⟩ t) ⟨_, Heap.get?_push_size _ rfl, rfl, rfl⟩ deps item (fun i h hs => ?_) hz s.toks))
      obtain ⟨o, g, c, _⟩ := hs
      exact ⟨o, _, g, c, by decide⟩
  | _ => cases hi
theorem soundI_seq {e : Expr} {x : X} (h : Sound cx ε e x) : SoundI cx ε e (.seqI x) := by
  intro n cf A env F s ρ ad m cm H items hi Q E hQ
  obtain ⟨r, d, e1, e2, e3⟩ := evI_seq hi
  refine h.ev n cf A env F s ρ ad m cm H r e1 _ _ fun v F' s' st q => ?_
  obtain ⟨F'', st', _, q'⟩ := st.fz H.ok H.wd q e2
  exact iter_seq H.bud.hd H.ok H.wd st' q' e3 hQ
theorem iter_range {A : Around} (hh : A.handled = none) {F₀ F : Addr → Prop} {s₀ s : Shared} (ok : CxOk cx) (w₀ : Wd cx F₀ s₀) (st : Step cx F₀ s₀ F s) {r : Addr} {a b c : Int} {t u v : Tok} (hr : IsRange s.heap r a b c t u v) (hs : Builtin.Range.small a b c = true)
    {k : Nat} (hk : Builtin.Range.rangeSize a b c = (k : Int)) (hl : k ≤ lim)
    {Q : Value → Shared → Prop} {E : Value → Shared → Prop} (hQ : ∀ I F' s' fp wr P St, Iter cx A F₀ s₀ ((upTo k a c).map .int) I F' s' fp wr P St → Q (.ref I) s') : wpAny (model cx.prog cx.w) A (pyIter (.ref r)) Q E s := by
  have el : ((upTo k a c).map D.int).length = k := by simp [upTo]
  let P : Nat → Value → Prop := fun i v => i < k ∧ ∃ t, v = .int (a + i * c) t
  have W : ∀ A' : Around, A'.handled = none → Walks cx.prog cx.w A' s.heap.objs.size [s.heap.objs.size] [s.heap.objs.size] k P (fun i h => IsRangeIter h s.heap.objs.size (a + (i : Nat) * c) ((k : Int) - (i : Nat)) c) := fun A' hh => (Walks.range hh _ a c k).bound
  refine wpAny_pyIter_range hr hs (hQ _ F _ _ _ _ _ (iter_new (P := P) ok w₀ st (by rw [el]; exact W) ?_ (fun b hb => .inl (by simpa using hb)) ?_ (fun i h hs => ⟨_, _, hs, rfl, by decide⟩) (by rw [el]; exact hl) s.toks))
  · have := Heap.get?_push_size s.heap (o := { cls := .type "range_iterator", data := .fields #[rawInt a, rawInt (Builtin.Range.rangeSize a b c), rawInt c] }) rfl
    show IsRangeIter _ _ _ _ _
    rw [hk] at this
    simpa [IsRangeIter, hk] using this
  · rintro i v ⟨hi, t, rfl⟩
    refine ⟨.int (a + i * c), ?_, .int _ t⟩
    rw [List.getElem?_map]
    unfold upTo
    rw [List.getElem?_map, List.getElem?_range hi]
    simp [Int.mul_comm]
theorem small_bd {i : Int} (h : small i = true) : -1000000000 ≤ i ∧ i ≤ 1000000000 := by
  unfold small at h
  simpa using h
theorem toNat_lim {z : Int} (h : z ≤ 1000000) : z.toNat ≤ lim := by unfold lim; omega
theorem rsize_up (a b : Int) : (if a < b then b - a else 0) = ((b - a).toNat : Int) := by split <;> omega
theorem rsize_down (a b : Int) : Builtin.Range.rangeSize a b (-1) = ((a - b).toNat : Int) := by
  unfold Builtin.Range.rangeSize
  simp only [show ¬ ((-1 : Int) > 0) by decide, if_false, show (- -1 : Int) = 1 by decide, Int.ediv_one]
  split <;> omega
theorem small_down {a i : Int} (h3 : -1000000000 ≤ a) (h4 : a ≤ 1000000000) (h6 : -1000000000 ≤ i) (h7 : i ≤ 1000000000) : Builtin.Range.small a i (-1) = true := by
  unfold Builtin.Range.small
  rw [rsize_down]
  unfold Builtin.Range.rangeFitsLong
  simp only [show ¬ ((-1 : Int) > 0) by decide, if_false, Bool.and_eq_true, Bool.or_eq_true, decide_eq_true_eq, beq_iff_eq, show (- -1 : Int) = 1 by decide, Int.ediv_one]
  omega
theorem lo62 {i : Int} (h : -1000000000 ≤ i) : -(2 ^ 62) ≤ i := Int.le_trans (by decide) h
theorem hi62 {i : Int} (h : i ≤ 1000000000) : i < 2 ^ 62 := Int.lt_of_le_of_lt h (by decide)
theorem call_range {A : Around} {n : Nat} (hb : BudE n A) {F₀ F : Addr → Prop} {s₀ s : Shared} (ok : CxOk cx) (w₀ : Wd cx F₀ s₀) (st : Step cx F₀ s₀ F s) {vs : List Value} {ds : List D} (q : BRepL cx F s.heap vs ds) {l : List D} (hl : opRange ds = some l)
    {Q : Value → Shared → Prop} {E : Value → Shared → Prop} (hQ : ∀ I F' s' fp wr P St, Iter cx A F₀ s₀ l I F' s' fp wr P St → Q (.ref I) s') :
    wpAny (model cx.prog cx.w) A (call (.type "range") vs) (fun v s₁ => wpAny (model cx.prog cx.w) A (pyIter v) Q E s₁) E s := by
  rcases ds with _ | ⟨a0, t⟩
  · cases hl
  cases a0 <;> try (cases hl; done)
  rename_i a
  rcases t with _ | ⟨a1, t⟩
  · rename Int => i
    replace hl : (if (small i && decide (i ≤ 1000000)) = true then some (rangeL 0 i) else none) = some l := hl
    split at hl
    · rename_i hi
      cases hl
      obtain ⟨h1, h2⟩ := Bool.and_eq_true _ _ ▸ hi
      have h2 := of_decide_eq_true h2
      obtain ⟨h3, h4⟩ := small_bd h1
      obtain ⟨v, rfl, q1⟩ := q.one
      obtain ⟨t, rfl⟩ := q1.int_inv
      refine call_range_1 ?_
      have st' := st.trans (Step.push ok st.wd ({ cls := .type "range", data := .fields #[.int 0 s.toks, .int i t, .int 1 (s.toks + 1)] } : Obj) (s.toks + 1 + 1))
      refine iter_range hb.hd ok w₀ st' (IsRange.new s.heap 0 i 1 _ _ _) (small_one (by decide) (by decide) (lo62 h3) (hi62 h4)) (k := (i - 0).toNat) (by rw [rangeSize_one, rsize_up]) (toNat_lim (by rw [Int.sub_zero]; exact h2)) hQ
    · cases hl
  cases a1 <;> try (cases hl; done)
  rename_i i
  rcases t with _ | ⟨a2, t⟩
  · replace hl : (if (small a && small i && decide (i - a ≤ 1000000)) = true then some (rangeL a i) else none) = some l := hl
    split at hl
    · rename_i hi
      cases hl
      simp only [Bool.and_eq_true, decide_eq_true_eq] at hi
      obtain ⟨⟨h1, h2⟩, h5⟩ := hi
      obtain ⟨h3, h4⟩ := small_bd h1
      obtain ⟨h6, h7⟩ := small_bd h2
      obtain ⟨v, v', rfl, q1, q2⟩ := q.two
      obtain ⟨t, rfl⟩ := q1.int_inv
      obtain ⟨u, rfl⟩ := q2.int_inv
      refine call_range_2 ?_
      have st' := st.trans (Step.push ok st.wd ({ cls := .type "range", data := .fields #[.int a t, .int i u, .int 1 s.toks] } : Obj) (s.toks + 1))
      refine iter_range hb.hd ok w₀ st' (IsRange.new s.heap a i 1 _ _ _) (small_one (lo62 h3) (hi62 h4) (lo62 h6) (hi62 h7)) (k := (i - a).toNat) (by rw [rangeSize_one, rsize_up]) (toNat_lim h5) hQ
    · cases hl
  cases a2 <;> try (cases hl; done)
  rename_i c
  rcases t with _ | ⟨a3, t⟩ <;> try (cases hl; done)
  · replace hl : (if c = -1 ∧ small a ∧ small i ∧ a - i ≤ 1000000 then some (rangeDown a i) else none) = some l := hl
    split at hl
    · rename_i hi
      cases hl
      obtain ⟨rfl, h1, h2, h5⟩ := hi
      obtain ⟨h3, h4⟩ := small_bd h1
      obtain ⟨h6, h7⟩ := small_bd h2
      cases q with
      | cons q1 q => cases q with | cons q2 q => cases q with | cons q3 q =>
      cases q
      obtain ⟨t, rfl⟩ := q1.int_inv
      obtain ⟨u, rfl⟩ := q2.int_inv
      obtain ⟨x, rfl⟩ := q3.int_inv
      refine call_range_3 (by decide) ?_ (Or.inl (PyProof.noPylong_small (by omega)))
      have st' := st.trans (Step.push ok st.wd ({ cls := .type "range", data := .fields #[.int a t, .int i u, .int (-1) x] } : Obj) s.toks)
      refine iter_range hb.hd ok w₀ st' (IsRange.new s.heap a i (-1) _ _ _) (small_down h3 h4 h6 h7) (k := (a - i).toNat) (rsize_down a i) (toNat_lim h5) hQ
    · cases hl
theorem evI_range {cf : Nat → List D → Option D} {x : X} {ρ : List Slot} {items : List D} (h : evI cf (.rangeI x) ρ = some items) : ∃ rs, ev cf x ρ = some rs ∧ opRange (rs.map R.ds) = some items := by
  unfold evI at h
  split at h
  · rename_i l e
    cases h
    replace e := (evq_rangeI _).symm.trans e
    split at e
    · rename_i rs e1
      obtain ⟨l', e3, e4⟩ := Option.map_eq_some_iff.mp e
      cases e4
      exact ⟨rs, e1, e3⟩
    · cases e
  · cases h
theorem soundI_range {p pos : Pos} {es : List Expr} {x : X} (hk : ε.kinds.lookup ("range" : Str) = some .globalImplicit) (hg : cx.mg ("range" : Str) = none) (h : SoundL cx ε es x false) : SoundI cx ε (.Call (.Name "range" p) es [] pos) (.rangeI x) := by
  intro n cf A env F s ρ ad m cm H items hi Q E hQ
  obtain ⟨rs, e1, e2⟩ := evI_range hi
  rw [call_not_method (by intro _ _ _ e; cases e)]
  refine wpAny_bind (load_builtin H hk hg (by decide) (v := .type "range") (by rfl) (by decide) ?_)
  refine PyProof.Rows.callWith_type (backTo_any h) (evalArgs_ok h H e1 fun vs F' s' st q => ?_)
  exact call_range H.bud H.ok H.wd st q.brep e2 hQ
end
end Mine
end MpPx
section MpQx
open PySem PySem.Calls PyProof.Rows PySem.Builtin.Str
namespace Mine
section
variable {cx : XCx} {ε : Sc} {n : Nat} {cf : Nat → List D → Option D} {A : Around} {env : Env} {F F₀ F' : Addr → Prop} {s s₀ s' : Shared} {ρ ρ' : List Slot} {ad ad' : Nat → Addr} {m cm m' cm' : Str → Option Value}
theorem SlotRep.own_inv {h : Heap} {i : Nat} {ov : Option Value} {l : List D} (q : SlotRep cx F h ad i ov (.own l)) : ov = some (.ref (ad i)) ∧ ∃ vs k, h.get? (ad i) = some (lobj vs.toArray k) ∧ vs.length ≤ lim ∧ RepL cx.T F h vs l := by
  cases q with
  | own _ _ g z q => exact ⟨rfl, _, _, g, z, q⟩
inductive OwnNow (cx : XCx) (F : Addr → Prop) (h : Heap) (a : Addr) (l : List D) : Prop
  | mk (vs : List Value) (k : Nat) (g : h.get? a = some (lobj vs.toArray k)) (z : vs.length ≤ lim) (q : RepL cx.T F h vs l)
theorem own_now (H : HereS cx ε n cf A env F s ρ ad m cm) {x : Str} {i : Nat} (hx : ε.vars.lookup x = some i) {l : List D} (hi : ownAt ρ i = some l) : OwnNow cx F s.heap (ad i) l := by
  have hs := (ownAt_eq hi).1
  rcases H.frm.en.vars x i hx with ⟨_, q⟩ | ⟨_, _, q⟩ <;> rw [hs] at q <;> exact (let ⟨vs, k, g, z, q⟩ := q.own_inv.2; ⟨vs, k, g, z, q⟩)
theorem load_own (H : HereS cx ε n cf A env F s ρ ad m cm) {x : Str} {i : Nat} {p : Pos} (hx : ε.vars.lookup x = some i) (hn : (x == ("__classdict__" : Str)) = false) (hd : (x == ("__debug__" : Str)) = false) {l : List D} (hi : ownAt ρ i = some l)
    {Q : Value → Shared → Prop} {E : Value → Shared → Prop} (h : Q (.ref (ad i)) s) : wpAny (model cx.prog cx.w) A (eval (.Name x p) env) Q E s := by
  have hs := (ownAt_eq hi).1
  refine wpAny_Name (load_var H.here hx hn (fun v q => ?_) (by rw [hs]; intro e; cases e)) hd
  rw [hs] at q
  cases q.own_inv.1
  exact h
theorem mutate_list (H₀ : HereS cx ε n cf A env F₀ s₀ ρ ad m cm) (st : Step cx F₀ s₀ F s) {x : Str} {i : Nat} (hx : ε.vars.lookup x = some i) {l : List D} (hi : ownAt ρ i = some l) {h' : Heap} (sb : Heap.SameBut (ad i) s.heap h') {vs' : List Value} {k' : Nat} {l' : List D}
    (hl' : h'.get? (ad i) = some (lobj vs'.toArray k')) (z : vs'.length ≤ lim) (q' : RepL cx.T F s.heap vs' l') (k : Nat) :
    StepS cx env F₀ s₀ ρ ad F { s with heap := h', toks := k } (ρ.set i (.own l')) ad ∧ Frm cx ε env F { s with heap := h', toks := k } (ρ.set i (.own l')) ad m cm := by
  have H := H₀.step st
  have f := H.frm
  have hs := (ownAt_eq hi).1
  have hb : Mut env ρ ad (ad i) := .inr (.inr ⟨i, l, hs, rfl⟩)
  obtain ⟨nf, nx, _, nl, nc⟩ := f.own i l hs
  obtain ⟨w', keep⟩ := mutated H hb sb k
  have q2 : RepL cx.T F h' vs' l' := q'.mono (fun _ h => h) keep
  refine ⟨put_steps H₀ st hb sb k (fun _ _ => .inl hb) (fun _ _ => rfl), Frm.put H hb sb k (f.en.ns.sameBut sb (Ne.symm nl)) (fun n c hc => ?_) (fun _ _ _ _ => ⟨rfl, rfl⟩) (fun y hy => ?_) (fun _ _ => rfl) (.inl rfl) (fun j l2 hj hne e => hne (f.oinj j i _ _ hj hs e)) (fun _ _ => ?_)⟩
  · obtain ⟨o, g, d⟩ := f.en.cells n c hc
    exact ⟨o, (sb.2 c fun e => nc n (e ▸ hc)).trans g, d⟩
  · have key : ∀ ov, SlotRep cx F s.heap ad i ov (slotAt ρ i) → SlotRep cx F h' ad i ov (.own l') := by
      intro ov q
      rw [hs] at q
      rw [q.own_inv.1]
      exact .own nf nx hl' z q2
    refine ⟨fun hk => ?_, fun hk => ?_⟩
    · rcases f.en.vars y i hy with ⟨_, q⟩ | ⟨e, _⟩
      · exact key _ q
      · rw [hk] at e; rcases e with e | e <;> cases e
    · rcases f.en.vars y i hy with ⟨e, _⟩ | ⟨_, _, q⟩
      · exact absurd e hk
      · exact key _ q
  · exact ⟨nf, nx, ⟨_, _, hl'⟩, nl, nc, fun j l2 hj hs2 e => hj (f.oinj j i _ _ hs2 hs e)⟩
theorem push_upd {h : Heap} {a : Addr} {vs : List Value} {k : Nat} (g : h.get? a = some (lobj vs.toArray k)) (f : Array Value → Array Value) (ws : List Value) (hf : f vs.toArray = ws.toArray) :
    ∃ k', (h.update a (Obj.mapSeq f)).get? a = some (lobj ws.toArray k') := by
  have := IsL.update (n := k) (items := vs.toArray) (show IsL h a vs.toArray k from g) f
  rw [hf] at this
  exact ⟨_, this⟩
theorem erase_arr (vs : List Value) (j : Nat) : vs.toArray.eraseIdxIfInBounds j = (vs.eraseIdx j).toArray := by
  unfold Array.eraseIdxIfInBounds
  split
  · rw [List.eraseIdx_toArray]
  · rename_i h
    rw [List.size_toArray] at h
    rw [List.eraseIdx_of_length_le (by omega)]
theorem exprS {e : Expr} {pos : Pos} {Q : Flow → Shared → Prop} {E : Value → Shared → Prop} (hi : env.scope.kind = .function) (hs : swapsWith e none pos.line env = pure false)
    (h : wpAny (model cx.prog cx.w) A (eval e env) (fun v s' => (∀ a, v ≠ .ref a) ∧ Q .next s') E s) : wpAny (model cx.prog cx.w) A (exec (.Expr e pos) env) Q E s := by
  refine wpAny_Expr (wpAny_mono h (fun v s' h' => ?_) fun _ _ e => e) ?_ hs
  · cases v <;> first | exact h'.2 | exact absurd rfl (h'.1 _)
  · unfold interactive; rw [hi]; rfl
end
section
variable {cx : XCx} {ε : Sc}
theorem ev_cons1 {cf : Nat → List D → Option D} {y : X} {ρ : List Slot} {r : R} (h : ev cf y ρ = some [r]) : ev cf (.cons y .nil) ρ = some [r] := by
  rw [evq_cons, h]; rfl
theorem arg1 {n cf A env F s ρ ad m cm} (H : Here cx ε n cf A env F s ρ ad m cm) {e : Expr} {y : X} {pos : Pos} {f : Value} (h : Sound cx ε e y) (hst : starred e = false) {d : D} (hd : ev1 cf y ρ = some d) {Q : Args → Shared → Prop} {E : Value → Shared → Prop}
    (hQ : ∀ v F' s', Step cx F s F' s' → Rep cx.T F' s'.heap v d → Q ⟨[v], []⟩ s') : wpAny (model cx.prog cx.w) A (evalArgs f true (backTo pos (starEach [e] env)) []) Q E s := by
  obtain ⟨r, e1, e2⟩ := ev1_inv hd
  refine evalArgs_ok (SoundL.cons h hst .nil) H (ev_cons1 e1) fun vs F' s' st q => ?_
  obtain ⟨F'', st', _, q'⟩ := fz_all H.ok H.wd st (fun _ h => h) q (ds := [d]) (by unfold fzAll; rw [e2]; rfl)
  cases q' with
  | cons a b => cases b; exact hQ _ F'' s' st' a
theorem soundS_append {x : Str} {i : Nat} {e : Expr} {y : X} {p apos pos pos' : Pos} (hx : ε.vars.lookup x = some i) (hn : (x == ("__classdict__" : Str)) = false) (hd : (x == ("__debug__" : Str)) = false) (hl : (apos.endLine == pos.line) = true)
    (h : Sound cx ε e y) (hst : starred e = false) : SoundS cx ε (.Expr (.Call (.Attribute (.Name x p) "append" apos) [e] [] pos) pos') (.append i y) := by
  intro n cf A env F s ρ ad m cm H ρ' o he Q E hQ
  replace he := (exq_append cf).symm.trans he
  split at he
  · rename_i d l e1 e2
    split at he
    · rename_i hz
      cases he
      refine exprS H.frm.en.kind rfl ?_
      refine meth_run rfl hl (by simp) (by rw [backTo_any (SoundL.cons h hst .nil)]) ?_
      refine load_own H hx hn hd e2 ?_
      obtain ⟨vs, k, g, _, _⟩ := own_now H hx e2
      refine Calls.getMethod_list_append g rfl rfl ?_
      refine Calls.callWith_builtin (backTo_any (SoundL.cons h hst .nil)) (arg1 H.here h hst e1 fun v F' s' st q => ?_)
      obtain ⟨vs, k, g, z, qs⟩ := own_now (H.step st) hx e2
      show wpAny _ _ (call (.builtin "list.append") [.ref (ad i), v]) _ _ s'
      have hlen : vs.length = l.length := qs.length
      refine call_meets PySem.F.slot_list_append ⟨_, g, rfl⟩ PySem.F.entry_list_append (PySem.F.args_list_append_2 _ _) (list_append (ad i) vs.toArray k v (by rw [List.size_toArray]; exact sz_line z)) ⟨g, ?_⟩
      refine ⟨(fun a e => nomatch e), ?_⟩
      obtain ⟨k', g'⟩ := push_upd g (fun x => x.push v) (vs ++ [v]) (by simp)
      obtain ⟨x1, f1⟩ := mutate_list H st hx e2 (Heap.SameBut.update ..) g' (by simp; omega) (qs.append (.cons q .nil)) s'.toks
      exact hQ .next F' _ ad m cm x1 f1 .next
    · cases he
  · cases he
theorem soundS_extend {x : Str} {i : Nat} {e : Expr} {y : X} {p apos pos pos' : Pos} (hx : ε.vars.lookup x = some i) (hn : (x == ("__classdict__" : Str)) = false) (hd : (x == ("__debug__" : Str)) = false) (hl : (apos.endLine == pos.line) = true)
    (h : Sound cx ε e y) (hst : starred e = false) : SoundS cx ε (.Expr (.Call (.Attribute (.Name x p) "extend" apos) [e] [] pos) pos') (.extend i y) := by
  intro n cf A env F s ρ ad m cm H ρ' o he Q E hQ
  replace he := (exq_extend cf).symm.trans he
  split at he
  · rename_i d l e1 e2
    split at he
    · rename_i hz
      cases he
      refine exprS H.frm.en.kind rfl ?_
      refine meth_run rfl hl (by simp) (by rw [backTo_any (SoundL.cons h hst .nil)]) ?_
      refine load_own H hx hn hd e2 ?_
      obtain ⟨vs, k, g, _, _⟩ := own_now H hx e2
      refine getMethod_builtin (T := "list") ⟨_, g, rfl⟩ PySem.F.plainAttrs_list PySem.F.slot_list_extend PySem.F.type_list_extend (fun a e => ⟨_, by cases e; exact g, rfl⟩) ?_
      refine Calls.callWith_builtin (backTo_any (SoundL.cons h hst .nil)) (arg1 H.here h hst e1 fun v F' s' st q => ?_)
      obtain ⟨vs, k, g, z, qs⟩ := own_now (H.step st) hx e2
      show wpAny _ _ (call (.builtin "list.extend") [.ref (ad i), v]) _ _ s'
      have hlen : vs.length = l.length := qs.length
      cases q with
      | @list b ws j _ fb gb zb qb =>
      have hlen2 : ws.length = d.length := qb.length
      refine call_meets PySem.F.slot_list_extend ⟨_, g, rfl⟩ PySem.F.entry_list_extend (PySem.F.args_list_extend_2 _ _) (AutoSeq1.list_extend_list_list_0 (ad i) vs.toArray k b ws.toArray j ?_ (by rw [List.size_toArray]; exact sz_line z) ?_) ⟨g, gb, ?_⟩
      · rw [List.size_toArray, List.size_toArray]
        have : vs.length + ws.length ≤ sizeLine := sz_line (by omega)
        simp [Builtin.List.listTooLong]
        try omega
      · rw [List.size_toArray, List.size_toArray]
        have : vs.length + ws.length ≤ sizeLine := sz_line (by omega)
        omega
      refine ⟨(fun a e => nomatch e), ?_⟩
      obtain ⟨k', g'⟩ := push_upd g (fun x => x ++ ws.toArray) (vs ++ ws) (by simp)
      obtain ⟨x1, f1⟩ := mutate_list H st hx e2 (Heap.SameBut.update ..) g' (by simp; omega) (qs.append qb) s'.toks
      exact hQ .next F' _ ad m cm x1 f1 .next
    · cases he
  · cases he
theorem place_seq {i : Int} {n p : Nat} (h : place i n = some p) : seqIndex? i n = some p ∧ p < n := by
  unfold place at h
  unfold seqIndex?
  split at h
  · split at h
    · cases h
      rename_i h1 h2
      have : ¬ i < 0 := by omega
      simp [this, h1, h2]
      skip
    · cases h
  · split at h
    · cases h
      rename_i h1 h2
      have : i < 0 := by omega
      simp [this, h2]
      omega
    · cases h
theorem small_fits {i : Int} (h : small i = true) : Builtin.List.listFitsIndex i = true := by
  obtain ⟨h1, h2⟩ := small_bd h
  unfold Builtin.List.listFitsIndex
  simp only [Bool.and_eq_true, decide_eq_true_eq]
  omega
theorem soundS_setItem {x : Str} {i : Nat} {ek e : Expr} {k y : X} {p pos pos' : Pos} (hx : ε.vars.lookup x = some i) (hn : (x == ("__classdict__" : Str)) = false) (hd : (x == ("__debug__" : Str)) = false)
    (hk : Sound cx ε ek k) (h : Sound cx ε e y) (hs : ∀ env, swapsWith e (some (.Subscript (.Name x p) ek pos')) pos.line env = pure false) : SoundS cx ε (.Assign [.Subscript (.Name x p) ek pos'] e pos) (.setItem i k y) := by
  intro n cf A env F s ρ ad m cm H ρ' o he Q E hQ
  replace he := (exq_setItem cf).symm.trans he
  split at he
  · rename_i d j l e1 e2 e3
    split at he
    · rename_i hsm
      split at he
      · rename_i pl hp
        cases he
        refine wpAny_Assign_Subscript (eval_fz H h e1 fun v F1 s1 st1 q => ?_) (hs env)
        have H1 := H.step st1
        refine load_own H1 hx hn hd e3 ?_
        refine eval_fz H1 hk e2 fun kv F2 s2 st2 qk => ?_
        have H2 := H1.step st2
        obtain ⟨vs, kk, g, z, qs⟩ := own_now H2 hx e3
        have q2 := st2.rep st1.wd q
        cases qk with
        | int _ t =>
        have hlen : vs.length = l.length := qs.length
        obtain ⟨h1, h2⟩ := place_seq hp
        refine setItem_own (isList_of g) g (small_fits hsm) (by rw [List.size_toArray, hlen]; exact h1) (by rw [List.size_toArray, hlen]; exact h2) ?_
        obtain ⟨k', g'⟩ := push_upd g (fun xs => xs.setIfInBounds pl v) (vs.set pl v) (by simp)
        obtain ⟨x1, f1⟩ := mutate_list H (st1.trans st2) hx e3 (Heap.SameBut.update ..) g' (by simp; omega) (qs.set pl q2) s2.toks
        exact hQ .next F2 _ ad m cm x1 f1 .next
      · cases he
    · cases he
  · cases he
theorem soundS_delItem {x : Str} {i : Nat} {ek : Expr} {k : X} {p pos pos' : Pos} (hx : ε.vars.lookup x = some i) (hn : (x == ("__classdict__" : Str)) = false) (hd : (x == ("__debug__" : Str)) = false)
    (hk : Sound cx ε ek k) : SoundS cx ε (.Delete [.Subscript (.Name x p) ek pos'] pos) (.delItem i k) := by
  intro n cf A env F s ρ ad m cm H ρ' o he Q E hQ
  replace he := (exq_delItem cf).symm.trans he
  split at he
  · rename_i j l e2 e3
    split at he
    · rename_i hp
      cases he
      refine wpAny_Delete (wpAny_deleteEach_cons ?_)
      show wpAny _ _ (do
        let ov ← eval (.Name x p) env
        let iv ← holding [ov] (eval ek env)
        standAt pos'
        holding [ov, iv] (delItem ov iv)
        release [ov, iv] []) _ _ s
      refine wpAny_bind (load_own H hx hn hd e3 ?_)
      refine wpAny_bind (wpAny_holding (eval_fz H hk e2 fun kv F2 s2 st2 qk => ?_))
      have H2 := H.step st2
      obtain ⟨vs, kk, g, z, qs⟩ := own_now H2 hx e3
      cases qk with
      | int _ t =>
      have hlen : vs.length = l.length := qs.length
      have hle : vs.length ≤ lim := z
      refine wpAny_bind (wpAny_standAt (wpAny_bind (wpAny_holding ?_)))
      refine P.delItem_list (n := kk) (k := j.toNat) g (by unfold Builtin.List.listFitsIndex; simp only [Bool.and_eq_true, decide_eq_true_eq]; unfold lim at hle; omega) (by
        rw [List.size_toArray, hlen]
        unfold seqIndex?
        have h0 : ¬ j < 0 := by omega
        simp only [if_neg h0]
        rw [if_pos (by simp only [Bool.and_eq_true, decide_eq_true_eq]; exact hp)]) ?_ (by rw [List.size_toArray]; exact sz_line z)
      obtain ⟨k', g'⟩ := push_upd g (fun xs => xs.eraseIdxIfInBounds j.toNat) (vs.eraseIdx j.toNat) (erase_arr _ _)
      obtain ⟨x1, f1⟩ := mutate_list H st2 hx e3 (Heap.SameBut.update ..) g' (Nat.le_trans (List.length_eraseIdx_le ..) z) (qs.eraseIdx j.toNat) s2.toks
      exact wpAny_release (wpAny_deleteEach_nil (hQ .next F2 _ ad m cm x1 f1 .next))
    · cases he
  · cases he
end
end Mine
end MpQx
section MpRx
open PySem PySem.Calls PyProof.Rows PySem.Builtin.Str
namespace Mine
section
variable {cx : XCx} {ε : Sc}
theorem soundS_alias {x y : Str} {i j : Nat} {p p' apos pos : Pos} (hx : ε.vars.lookup x = some i) (hf : ε.kinds.lookup x ≠ some .free) (hy : ε.vars.lookup y = some j) (hn : (y == ("__classdict__" : Str)) = false) (hd : (y == ("__debug__" : Str)) = false) :
    SoundS cx ε (.Assign [.Name x p'] (.Attribute (.Name y p) "append" apos) pos) (.alias i j) := by
  intro n cf A env F s ρ ad m cm H ρ' o he Q E hQ
  replace he := (exq_alias cf).symm.trans he
  split at he
  · rename_i l e1
    cases he
    refine wpAny_Assign_Name ?_ rfl
    rw [arm_eval_Attribute]
    show wpAny _ _ (do
      let o ← attributeBase (.Name y p) "append" env (eval (.Name y p) env)
      standAt apos.atName
      let r ← holding [o] (getAttr o "append" true)
      letTemporaryGo (.Name y p) o r
      pure r) _ _ _
    rw [plainBase_ok rfl]
    refine wpAny_bind (load_own H hy hn hd e1 ?_)
    obtain ⟨vs, k, g, z, qs⟩ := own_now H hy e1
    refine wpAny_bind (wpAny_standAt (wpAny_bind (wpAny_holding (getAttr_append g ?_))))
    refine wpAny_bind (wpAny_pure (wpAny_pure ?_))
    have st := Step.push H.ok H.wd (appObj (ad j)) (s.toks + 1)
    have g' : (s.heap.push (appObj (ad j))).get? s.heap.objs.size = some (appObj (ad j)) := Heap.get?_push_size _ rfl
    have st' := st.freeze H.ok H.wd (fresh_size _) g'
    refine store_var H st' hx hf (sl := .app j) (ad' := ad) (fun _ _ => rfl) (.inl rfl) (fun h' hk => .app (.inr rfl) (hk _ _ (.inl (.inr rfl)) g') rfl) (fun _ e => nomatch e) fun s'' m' cm' x f => hQ .next _ s'' ad m' cm' x f .next
  · cases he
theorem soundS_appendVia {x y : Str} {i j : Nat} {e : Expr} {z : X} {p pos pos' : Pos} (hx : ε.vars.lookup x = some i) (hy : ε.vars.lookup y = some j) (hn : (x == ("__classdict__" : Str)) = false) (hd : (x == ("__debug__" : Str)) = false)
    (h : Sound cx ε e z) (hst : starred e = false) : SoundS cx ε (.Expr (.Call (.Name x p) [e] [] pos) pos') (.appendVia i j z) := by
  intro n cf A env F s ρ ad m cm H ρ' o he Q E hQ
  replace he := (exq_appendVia cf).symm.trans he
  split at he
  · rename_i j' e0
    split at he
    · rename_i ej
      subst ej
      split at he
      · rename_i d l e1 e2
        split at he
        · rename_i hz
          cases he
          have hs : slotAt ρ i = .app j' := by unfold slotAt; simp [List.getD, e0]
          refine exprS H.frm.en.kind rfl ?_
          rw [call_not_method (by intro _ _ _ e; cases e)]
          refine wpAny_bind (wpAny_Name (load_var H.here hx hn (fun v q => ?_) (by rw [hs]; intro e; cases e)) hd)
          rw [hs] at q
          cases q with
          | @app b o _ fb g eo =>
          subst eo
          refine callWith_bound (l := ad j') (backTo_any (SoundL.cons h hst .nil)) (arg1 H.here h hst e1 fun v F' s' st q => ?_)
          have g' := st.keep _ _ g (H.wd.nx _ fb)
          refine ⟨g', ?_⟩
          obtain ⟨vs, k, gl, z, qs⟩ := own_now (H.step st) hy e2
          have hlen : vs.length = l.length := qs.length
          refine wpAny_call (bound_call g' gl (append_code gl (by rw [List.size_toArray]; exact sz_line z) ?_))
          refine ⟨(fun a e => nomatch e), ?_⟩
          obtain ⟨k', gk⟩ := push_upd gl (fun x => x.push v) (vs ++ [v]) (by simp)
          obtain ⟨x1, f1⟩ := mutate_list H st hy e2 (Heap.SameBut.update ..) gk (by simp; omega) (qs.append (.cons q .nil)) s'.toks
          exact hQ .next F' _ ad m cm x1 f1 .next
        · cases he
      · cases he
    · cases he
  · cases he
theorem soundS_aug {x : Str} {i : Nat} {e : Expr} {z : X} {p pos : Pos} (hx : ε.vars.lookup x = some i) (hf : ε.kinds.lookup x ≠ some .free) (hn : (x == ("__classdict__" : Str)) = false) (h : Sound cx ε e z) :
    SoundS cx ε (.AugAssign (.Name x p) .Add e pos) (.aug i z) := by
  intro n cf A env F s ρ ad m cm H ρ' o he Q E hQ
  replace he := (exq_aug cf).symm.trans he
  split at he
  · rename_i a b e0 e1
    split at he
    · rename_i hz
      cases he
      have hs : slotAt ρ i = .val (.str a) := by unfold slotAt; simp [List.getD, e0]
      refine wpAny_AugAssign_Name (load_var H.here hx hn (fun v q => ?_) (by rw [hs]; intro e; cases e))
      rw [hs] at q
      cases q with
      | val q =>
      cases q with
      | str t pa za =>
      refine eval_fz H h e1 fun v F' s' st q => ?_
      cases q with
      | str u pb zb =>
      refine PyProof.Rows.iadd_str (fun t' tk => ?_) (by
        show a.toArray.size + b.toArray.size ≤ sizeLine
        rw [List.size_toArray, List.size_toArray]; exact sz_line hz)
      have e : (PySem.Str.mk a.toArray ++ PySem.Str.mk b.toArray) = PySem.Str.mk (a ++ b).toArray := by
        show PySem.Str.mk (a.toArray ++ b.toArray) = _
        simp
      rw [e]
      have st2 := st.toks tk
      have r : Rep cx.T F' s'.heap (.str ⟨(a ++ b).toArray⟩ t') (.str (a ++ b)) := .str _ (fun c hc => (List.mem_append.mp hc).elim (pa c) (pb c)) (by rw [List.length_append]; exact hz)
      exact store_val H st2 hx hf r fun s'' m' cm' x f => hQ .next F' s'' ad m' cm' x f .next
    · cases he
  · cases he
theorem soundS_augItem {x : Str} {i : Nat} {ek e : Expr} {k y : X} {p pos pos' : Pos} (hx : ε.vars.lookup x = some i) (hn : (x == ("__classdict__" : Str)) = false) (hd : (x == ("__debug__" : Str)) = false)
    (hk : Sound cx ε ek k) (h : Sound cx ε e y) (hi : ∀ ov iv new, augStore ek ov iv new = (do holding [new, ov, iv] (setItem ov iv new); release [new, ov, iv] []; pure .next)) :
    SoundS cx ε (.AugAssign (.Subscript (.Name x p) ek pos') .Add e pos) (.augItem i k y) := by
  intro n cf A env F s ρ ad m cm H ρ' o he Q E hQ
  replace he := (exq_augItem cf).symm.trans he
  split at he
  · rename_i j b l e1 e2 e3
    split at he
    · rename_i hsm
      split at he
      · rename_i pl hp
        split at he
        · rename_i a ea
          split at he
          · rename_i hz
            cases he
            refine wpAny_AugAssign_SubscriptAny (load_own H hx hn hd e3 ?_) hi
            refine eval_fz H hk e1 fun kv F1 s1 st1 qk => ?_
            have H1 := H.step st1
            obtain ⟨vs, kk, g, z, qs⟩ := own_now H1 hx e3
            cases qk with
            | int _ t =>
            have hlen : vs.length = l.length := qs.length
            obtain ⟨h1, h2⟩ := place_seq hp
            have nx := (H1.frm.own i l (ownAt_eq e3).1).2.1
            have hopi : opF .index [.list l, .int j] = some (.val (.str a)) := by
              show opIndex [.list l, .int j] = _; unfold opIndex; simp only [hsm, if_true, hp, ea]; rfl
            refine op_index n A F1 s1 [.ref (ad i), .int j t] [.list l, .int j] (.val (.str a)) H.ok H.bud H1.wd (.cons (.own nx g z qs) (.cons (.rep (.int _ t)) .nil)) hopi _ _ fun v0 F2 s2 st2 q0 => ?_
            have H2 := H1.step st2
            refine eval_fz H2 h e2 fun v F3 s3 st3 q => ?_
            have H3 := H2.step st3
            cases q0 with
            | val q0 =>
            cases q0 with
            | str t0 pa za =>
            cases q with
            | str u pb zb =>
            refine PyProof.Rows.iadd_str (fun t' tk => ?_) (by
              show a.toArray.size + b.toArray.size ≤ sizeLine
              rw [List.size_toArray, List.size_toArray]; exact sz_line hz)
            have eab : (PySem.Str.mk a.toArray ++ PySem.Str.mk b.toArray) = PySem.Str.mk (a ++ b).toArray := by
              show PySem.Str.mk (a.toArray ++ b.toArray) = _
              simp
            rw [eab]
            have st4 := st3.toks tk
            have H4 := H2.step st4
            obtain ⟨vs', kk', g', z', qs'⟩ := own_now H4 hx e3
            have hlen' : vs'.length = l.length := qs'.length
            have r : Rep cx.T F3 s3.heap (.str ⟨(a ++ b).toArray⟩ t') (.str (a ++ b)) := .str _ (fun c hc => (List.mem_append.mp hc).elim (pa c) (pb c)) (by rw [List.length_append]; exact hz)
            refine setItem_own (isList_of g') g' (small_fits hsm) (by rw [List.size_toArray, hlen']; exact h1) (by rw [List.size_toArray, hlen']; exact h2) ?_
            obtain ⟨k', gk⟩ := push_upd g' (fun xs => xs.setIfInBounds pl (.str ⟨(a ++ b).toArray⟩ t')) (vs'.set pl (.str ⟨(a ++ b).toArray⟩ t')) (by simp)
            obtain ⟨x1, f1⟩ := mutate_list H (st1.trans (st2.trans st4)) hx e3 (Heap.SameBut.update ..) gk (by simp; omega) (qs'.set pl r) tk
            exact hQ .next F3 _ ad m cm x1 f1 .next
          · cases he
        · cases he
      · cases he
    · cases he
  · cases he
end
end Mine
end MpRx
section MpSx
open PySem PySem.Calls PyProof.Rows PySem.Builtin.Str
namespace Mine
inductive Stores (cx : XCx) (ε : Sc) (A : Around) (env : Env) : List (Value → Sem Unit) → List Nat → Prop
  | nil : Stores cx ε A env [] []
  | cons {f : Value → Sem Unit} {fs : List (Value → Sem Unit)} {x : Str} {i : Nat} {is : List Nat} : ε.vars.lookup x = some i → ε.kinds.lookup x ≠ some .free →
      (∀ (v : Value) (Q : Unit → Shared → Prop) (E : Value → Shared → Prop) (s : Shared), wpAny (model cx.prog cx.w) A (storeName env x v) Q E s → wpAny (model cx.prog cx.w) A (f v) Q E s) → Stores cx ε A env fs is → Stores cx ε A env (f :: fs) (i :: is)
section
variable {cx : XCx} {ε : Sc}
theorem Stores.run {n cf A env} {fs : List (Value → Sem Unit)} {is : List Nat} (S : Stores cx ε A env fs is) : ∀ {F s ρ ad m cm}, HereS cx ε n cf A env F s ρ ad m cm → ∀ {vs : List Value} {ds : List D}, RepL cx.T F s.heap vs ds → ds.length = is.length → ∀ {Q : Unit → Shared → Prop} {E : Value → Shared → Prop},
    (∀ F' s' m' cm', StepS cx env F s ρ ad F' s' (setAll ρ is ds) ad → Frm cx ε env F' s' (setAll ρ is ds) ad m' cm' → Q () s') → wpAny (model cx.prog cx.w) A (assignInOrder fs vs) Q E s := by
  induction S with
  | nil =>
    intro F s ρ ad m cm H vs ds q hl Q E hQ
    cases ds with
    | nil => cases q; exact wpAny_pure (hQ F s m cm (StepS.refl H.wd) H.frm)
    | cons _ _ => cases hl
  | @cons f fs x i is hx hf hs S ih =>
    intro F s ρ ad m cm H vs ds q hl Q E hQ
    cases ds with
    | nil => cases hl
    | cons d ds =>
      cases q with
      | @cons v vs _ _ a b =>
      show wpAny _ _ (do holding vs (f v); assignInOrder fs vs) Q E s
      refine wpAny_bind (wpAny_holding (hs v _ _ _ (store_val H (Step.refl H.wd) hx hf a fun s' m' cm' x1 f1 => ?_)))
      have H1 := H.stepS x1 f1
      exact ih H1 (x1.repL H b) (by simpa using hl) fun F2 s2 m2 cm2 x2 f2 => hQ F2 s2 m2 cm2 (x1.trans x2) f2
theorem unpack_run {n cf A env F s ρ ad m cm} (H : HereS cx ε n cf A env F s ρ ad m cm) {v : Value} {ds : List D} (q : Rep cx.T F s.heap v (.tup ds)) {k : Nat} (hk : ds.length = k) {Q : List Value → Shared → Prop} {E : Value → Shared → Prop}
    (hQ : ∀ vs s', Step cx F s F s' → RepL cx.T F s'.heap vs ds → Q vs s') : wpAny (model cx.prog cx.w) A (unpackItems v k none) Q E s := by
  cases q with
  | @tup a vs j _ f g z q =>
  have ht : s.heap.IsTuple a vs.toArray := ⟨_, g, rfl, j, rfl⟩
  have hk' : k = vs.toArray.size := by rw [List.size_toArray, q.length, hk]
  rw [hk']
  refine wpAny_unpackItems_tuple H.bud.hd ht fun h' he => ?_
  have st : Step cx F s F { s with heap := h' } := Step.grown H.ok H.wd s.toks fun b o e => he b o (Nat.ne_of_lt (Heap.lt_size e)) e
  refine hQ _ _ st ?_
  have := st.repL H.wd q
  simpa using this
theorem target_run {n cf A env F s ρ ad m cm} (H : HereS cx ε n cf A env F s ρ ad m cm) {elts : List Expr} {k : Nat} {pos : Pos} {v : Value} {ds : List D} (q : Rep cx.T F s.heap v (.tup ds)) {is : List Nat} (hl : ds.length = is.length)
    (hlen : (assignEach elts env).length = is.length) (hst : (assignEach elts env).findIdx? (·.1) = none) (S : Stores cx ε A env ((assignEach elts env).map (·.2)) is) {Q : Unit → Shared → Prop} {E : Value → Shared → Prop}
    (hQ : ∀ F' s' m' cm', StepS cx env F s ρ ad F' s' (setAll ρ is ds) ad → Frm cx ε env F' s' (setAll ρ is ds) ad m' cm' → Q () s') : wpAny (model cx.prog cx.w) A (assign (.Tuple elts k pos) env v) Q E s := by
  rw [arm_assign_Tuple]
  refine wpAny_bind (wpAny_standAt ?_)
  unfold unpack
  rw [hlen, hst]
  refine wpAny_bind (wpAny_holding (unpack_run H q hl fun vs s' st q' => ?_))
  have H1 := H.step st
  exact S.run H1 q' hl fun F2 s2 m2 cm2 x2 f2 => hQ F2 s2 m2 cm2 ((StepS.ofStep st).trans x2) f2
theorem storesName {A : Around} {env : Env} {x : Str} {p : Pos} : ∀ (v : Value) (Q : Unit → Shared → Prop) (E : Value → Shared → Prop) (s : Shared), wpAny (model cx.prog cx.w) A (storeName env x v) Q E s → wpAny (model cx.prog cx.w) A (assign (.Name x p) env v) Q E s :=
  fun _ _ _ _ h => wpAny_assign_Name h
theorem soundS_assign2 {x y : Str} {i j : Nat} {p p' pos' pos : Pos} {k : Nat} {e : Expr} {z : X} (hx : ε.vars.lookup x = some i) (hy : ε.vars.lookup y = some j) (hfx : ε.kinds.lookup x ≠ some .free) (hfy : ε.kinds.lookup y ≠ some .free)
    (h : Sound cx ε e z) (hs : ∀ env, swapsWith e (some (.Tuple [.Name x p, .Name y p'] k pos')) pos.line env = pure false) (hw : ∀ env, swappedStores [.Tuple [.Name x p, .Name y p'] k pos'] e env = pure none) :
    SoundS cx ε (.Assign [.Tuple [.Name x p, .Name y p'] k pos'] e pos) (.assign2 i j z) := by
  intro n cf A env F s ρ ad m cm H ρ' o he Q E hQ
  replace he := (exq_assign2 cf).symm.trans he
  split at he <;> cases he
  rename_i a b e1
  refine wpAny_Assign_stores (eval_fz H h e1 fun v F1 s1 st q => ?_) (hs env) (hw env)
  show wpAny _ _ (assign (.Tuple [.Name x p, .Name y p'] k pos') env v) _ _ _
  have H1 := H.step st
  exact target_run H1 q (is := [i, j]) rfl rfl rfl (.cons hx hfx storesName (.cons hy hfy storesName .nil)) fun F2 s2 m2 cm2 x2 f2 => hQ .next F2 s2 ad m2 cm2 ((StepS.ofStep st).trans x2) f2 .next
theorem soundS_swap2 {x y : Str} {i j : Nat} {ts : List Expr} {pos' pos : Pos} {k : Nat} {e : Expr} {z : X} (hx : ε.vars.lookup x = some i) (hy : ε.vars.lookup y = some j) (hfx : ε.kinds.lookup x ≠ some .free) (hfy : ε.kinds.lookup y ≠ some .free) (hij : i ≠ j)
    (h : Sound cx ε e z) (hs : ∀ env, swapsWith e (some (.Tuple ts k pos')) pos.line env = pure false) (hw : ∀ env : Env, env.scope.kind = .function → env.scope.names = ε.kinds → swappedStores [.Tuple ts k pos'] e env = pure (some [x, y])) :
    SoundS cx ε (.Assign [.Tuple ts k pos'] e pos) (.assign2 i j z) := by
  intro n cf A env F s ρ ad m cm H ρ' o he Q E hQ
  replace he := (exq_assign2 cf).symm.trans he
  split at he <;> cases he
  rename_i a b e1
  rw [exec_Assign_arm]
  refine wpAny_bind (wpAny_standAt ?_)
  rw [show swapsWithSole [.Tuple ts k pos'] e pos.line env = pure false from hs env]
  refine wpAny_bind (wpAny_pure ?_)
  rw [if_neg (by decide)]
  refine wpAny_bind (eval_fz H h e1 fun v F1 s1 st q => ?_)
  rw [hw env H.frm.en.kind H.frm.en.names]
  refine wpAny_bind (wpAny_pure ?_)
  have H1 := H.step st
  show wpAny _ _ (do
    rule "assign.swapped-stores"
    let items ← unpackItems v 2 none
    assignInOrder [bindName env y, bindName env x] items.reverse
    pure Flow.next) _ _ _
  refine wpAny_bind (wpAny_rule (wpAny_bind (unpack_run H1 q rfl fun vs s2 st2 q2 => ?_)))
  have H2 := H1.step st2
  have q3 := q2.reverse
  have S : Stores cx ε A env [bindName env y, bindName env x] [j, i] := .cons hy hfy (fun _ _ _ _ h => wpAny_bindName h) (.cons hx hfx (fun _ _ _ _ h => wpAny_bindName h) .nil)
  refine wpAny_bind (S.run H2 q3 rfl fun F3 s3 m3 cm3 x3 f3 => wpAny_pure ?_)
  have e : setAll ρ [j, i] [a, b].reverse = (ρ.set i (.val a)).set j (.val b) := by
    show (ρ.set j (.val b)).set i (.val a) = _
    rw [List.set_comm _ _ hij]
  rw [e] at x3 f3
  exact hQ .next F3 s3 ad m3 cm3 (((StepS.ofStep st).trans (StepS.ofStep st2)).trans x3) f3 .next
theorem soundA_tup5 {x1 x2 x3 x4 x5 : Str} {i1 i2 i3 i4 i5 : Nat} {p1 p2 p3 p4 p5 pos : Pos} {k : Nat} (h1 : ε.vars.lookup x1 = some i1) (h2 : ε.vars.lookup x2 = some i2) (h3 : ε.vars.lookup x3 = some i3) (h4 : ε.vars.lookup x4 = some i4) (h5 : ε.vars.lookup x5 = some i5)
    (f1 : ε.kinds.lookup x1 ≠ some .free) (f2 : ε.kinds.lookup x2 ≠ some .free) (f3 : ε.kinds.lookup x3 ≠ some .free) (f4 : ε.kinds.lookup x4 ≠ some .free) (f5 : ε.kinds.lookup x5 ≠ some .free) :
    SoundA cx ε (.Tuple [.Name x1 p1, .Name x2 p2, .Name x3 p3, .Name x4 p4, .Name x5 p5] k pos) (putN [i1, i2, i3, i4, i5]) := by
  intro n cf A env F s ρ ad m cm H v d ρ' hv hp Q E hQ
  unfold putN at hp
  split at hp
  · split at hp
    · rename_i hl
      cases hp
      exact target_run H hv (is := [i1, i2, i3, i4, i5]) hl rfl rfl (.cons h1 f1 storesName (.cons h2 f2 storesName (.cons h3 f3 storesName (.cons h4 f4 storesName (.cons h5 f5 storesName .nil))))) hQ
    · cases hp
  · cases hp
theorem soundS_forN {tg : Expr} {is : List Nat} {it : Expr} {z : X} {bs : List Stmt} {b : S} {pos : Pos} (ht : SoundA cx ε tg (putN is)) (hi : SoundI cx ε it z) (hb : SoundSs cx ε bs b)
    (hs : ∀ env x, foldedSetIterable it env x = pure x) : SoundS cx ε (.For tg it bs [] pos) (.forN is z b) := by
  intro n cf A env F s ρ ad m cm H ρ' o h Q E hQ
  replace h := (exq_forN cf).symm.trans h
  split at h
  · rename_i items e
    exact for_any ht hi hb hs H e h hQ
  · cases h
theorem soundS_try {body : List Stmt} {h₀ : ExceptHandler} {hs : List ExceptHandler} {b : S} {pos : Pos} (hb : SoundSs cx ε body b) : SoundS cx ε (.Try body (h₀ :: hs) [] [] pos) (.try_ b) := by
  intro n cf A env F s ρ ad m cm H ρ' o h Q E hQ
  replace h := (exq_try_ cf).symm.trans h
  refine wpAny_Try_except (hb n cf A env F s ρ ad m cm H ρ' o h _ _ fun f F' s' ad' m' cm' x fr q => ?_)
  cases q with
  | next => exact wpAny_execs_nil (hQ _ F' s' ad' m' cm' x fr .next)
  | brk => exact hQ _ F' s' ad' m' cm' x fr .brk
  | cont => exact hQ _ F' s' ad' m' cm' x fr .cont
  | ret r => exact hQ _ F' s' ad' m' cm' x fr (.ret r)
end
end Mine
end MpSx
section MpTx
open PySem PySem.Calls PyProof.Rows PySem.Builtin.Str
namespace Mine
theorem closure_aux {env : Env} : ∀ (names : List (Str × NameKind)) (cs : List (Str × Addr)), (∀ n k, (n, k) ∈ names → k = .free → ∃ c, env.cells.lookup n = some c) → (∀ n c, cs.lookup n = some c → env.cells.lookup n = some c) →
    ∃ cs', (forIn names cs fun (x : Str × NameKind) (r : List (Str × Addr)) => (if (x.2 == NameKind.free) = true then do let c ← cellOf env x.1; pure (ForInStep.yield ((x.1, c) :: r)) else pure (ForInStep.yield r) : Sem (ForInStep (List (Str × Addr))))) = (pure cs' : Sem _) ∧
      (∀ n c, cs'.lookup n = some c → env.cells.lookup n = some c) ∧ (∀ n, (cs.lookup n).isSome ∨ (n, NameKind.free) ∈ names → (cs'.lookup n).isSome)
  | [], cs, _, h2 => ⟨cs, rfl, h2, fun n h => h.elim id fun h => nomatch h⟩
  | (n, k) :: r, cs, h1, h2 => by
    rw [List.forIn_cons]
    by_cases hk : k = .free
    · subst hk
      obtain ⟨c, hc⟩ := h1 n .free List.mem_cons_self rfl
      obtain ⟨cs', e, h3, h4⟩ := closure_aux r ((n, c) :: cs) (fun n' k' h => h1 n' k' (List.mem_cons_of_mem _ h)) (fun n' c' h => by
        rw [List.lookup_cons] at h
        cases hn : n' == n with
        | true => rw [hn] at h; cases h; rw [beq_iff_eq.mp hn]; exact hc
        | false => rw [hn] at h; exact h2 n' c' h)
      refine ⟨cs', ?_, h3, fun n' h => h4 n' ?_⟩
      · have e1 : cellOf env n = pure c := by unfold cellOf; rw [hc]
        simp only [beq_self_eq_true, if_true, e1, pure_bind]
        exact e
      · rw [List.lookup_cons]
        cases hn : n' == n with
        | true => exact .inl rfl
        | false =>
          rcases h with h | h
          · exact .inl h
          · rcases List.mem_cons.mp h with h | h
            · cases h; simp at hn
            · exact .inr h
    · obtain ⟨cs', e, h3, h4⟩ := closure_aux r cs (fun n' k' h => h1 n' k' (List.mem_cons_of_mem _ h)) h2
      have hb : (k == NameKind.free) = false := by simpa using hk
      refine ⟨cs', ?_, h3, fun n' h => h4 n' (h.imp id fun h => ?_)⟩
      · simp only [hb, Bool.false_eq_true, if_false, pure_bind]
        exact e
      · rcases List.mem_cons.mp h with h | h
        · cases h; exact absurd rfl hk
        · exact h
theorem closure_ok {scope : Scope} {env : Env} (h : ∀ n k, (n, k) ∈ scope.names → k = .free → ∃ c, env.cells.lookup n = some c) :
    ∃ cl, closureFor scope env = pure cl ∧ (∀ n c, cl.lookup n = some c → env.cells.lookup n = some c) ∧ (∀ n, (n, NameKind.free) ∈ scope.names → (cl.lookup n).isSome) := by
  obtain ⟨cs', e, h3, h4⟩ := closure_aux scope.names [] h (fun _ _ h => nomatch h)
  refine ⟨cs', ?_, h3, fun n h => h4 n (.inr h)⟩
  unfold closureFor
  simp only [bind_pure]
  refine Eq.trans ?_ e
  congr 1
noncomputable def relab (ks : List (Str × NameKind)) (names : List (Str × NameKind)) : List (Str × NameKind) :=
  names.map fun (n, k) => if (k == .free && ks.lookup n == some .cell) then (n, .cell) else (n, k)
noncomputable def compSc (ε : Sc) (scope : Scope) (tv : List (Str × Nat)) : Sc :=
  ⟨relab ε.kinds scope.names, tv ++ ε.vars.filter fun y => scope.names.lookup y.1 == some .free, ε.code⟩
theorem relab_local {ks : List (Str × NameKind)} {x : Str} : ∀ {names : List (Str × NameKind)}, names.lookup x = some .local → (relab ks names).lookup x = some .local
  | [], h => nomatch h
  | (n, k) :: r, h => by
    unfold relab
    rw [List.map_cons]
    rw [List.lookup_cons] at h
    cases hx : x == n with
    | true =>
      rw [hx] at h
      cases h
      show List.lookup x ((n, NameKind.local) :: _) = _
      rw [List.lookup_cons, hx]
    | false =>
      rw [hx] at h
      by_cases hc : (k == .free && ks.lookup n == some .cell) = true
      · simp only [hc, if_true, List.lookup_cons, hx]; exact relab_local h
      · simp only [if_neg hc, List.lookup_cons, hx]; exact relab_local h
theorem relab_free {ks : List (Str × NameKind)} {x : Str} : ∀ {names : List (Str × NameKind)}, names.lookup x = some .free → (relab ks names).lookup x = some .cell ∨ (relab ks names).lookup x = some .free
  | [], h => nomatch h
  | (n, k) :: r, h => by
    unfold relab
    rw [List.map_cons]
    rw [List.lookup_cons] at h
    cases hx : x == n with
    | true =>
      rw [hx] at h
      cases h
      by_cases hc : (NameKind.free == .free && ks.lookup n == some .cell) = true
      · left; simp only [hc, if_true, List.lookup_cons, hx]
      · right; simp only [if_neg hc, List.lookup_cons, hx]
    | false =>
      rw [hx] at h
      by_cases hc : (k == .free && ks.lookup n == some .cell) = true
      · simp only [hc, if_true, List.lookup_cons, hx]; exact relab_free h
      · simp only [if_neg hc, List.lookup_cons, hx]; exact relab_free h
theorem lookup_filter_key {β : Type} {p : Str → Bool} {x : Str} {j : β} : ∀ {l : List (Str × β)}, (l.filter fun y => p y.1).lookup x = some j → l.lookup x = some j ∧ p x = true
  | [], h => nomatch h
  | (n, k) :: r, h => by
    rw [List.filter_cons] at h
    rw [List.lookup_cons]
    cases hx : x == n with
    | true =>
      have e := beq_iff_eq.mp hx
      subst e
      by_cases hp : p x = true
      · simp only [hp, if_true, List.lookup_cons, hx] at h
        exact ⟨h, hp⟩
      · rw [if_neg hp] at h
        exact absurd (lookup_filter_key h).2 hp
    | false =>
      by_cases hp : p n = true
      · simp only [hp, if_true, List.lookup_cons, hx] at h
        exact lookup_filter_key h
      · rw [if_neg hp] at h
        exact lookup_filter_key h
theorem lookup_append {β : Type} {x : Str} : ∀ {l r : List (Str × β)}, (l ++ r).lookup x = (match l.lookup x with | some b => some b | none => r.lookup x)
  | [], r => rfl
  | (n, k) :: l, r => by
    rw [List.cons_append, List.lookup_cons, List.lookup_cons]
    cases hx : x == n with
    | true => rfl
    | false => exact lookup_append
noncomputable def updL (m : Str → Option Value) : List Str → List Value → Str → Option Value
  | x :: xs, v :: vs => updL (fun y => if y = x then some v else m y) xs vs
  | _, _ => m
theorem updL_off {x : Str} : ∀ {xs : List Str} {vs : List Value} {m : Str → Option Value}, x ∉ xs → updL m xs vs x = m x
  | [], _, _, _ => rfl
  | _ :: _, [], _, _ => rfl
  | y :: xs, v :: vs, m, h => by
    show updL _ xs vs x = _
    rw [updL_off fun h' => h (List.mem_cons_of_mem _ h')]
    exact if_neg fun (e : x = y) => h (by rw [e]; exact List.mem_cons_self)
theorem setAll_off {j : Nat} : ∀ {is : List Nat} {ds : List D} {ρ : List Slot}, j ∉ is → slotAt (setAll ρ is ds) j = slotAt ρ j
  | [], _, _, _ => rfl
  | _ :: _, [], _, _ => rfl
  | i :: is, d :: ds, ρ, h => by
    show slotAt (setAll (ρ.set i (.val d)) is ds) j = _
    rw [setAll_off fun h' => h (List.mem_cons_of_mem _ h'), slotAt_set, if_neg fun (e : j = i) => h (by rw [e]; exact List.mem_cons_self)]
theorem target_slots {cx : XCx} {F : Addr → Prop} {h : Heap} {ad : Nat → Addr} {x : Str} {i : Nat} : ∀ {xs : List Str} {is : List Nat} {vs : List Value} {ds : List D} {m : Str → Option Value} {ρ : List Slot}, xs.Nodup → is.Nodup → xs.length = is.length → ds.length = is.length → RepL cx.T F h vs ds → (xs.zip is).lookup x = some i →
    SlotRep cx F h ad i (updL m xs vs x) (slotAt (setAll ρ is ds) i) := by
  intro xs
  induction xs with
  | nil => intro is vs ds m ρ _ _ _ _ _ e; cases e
  | cons y xs ih =>
    intro is vs ds m ρ h1 h2 h3 h4 q e
    cases is with
    | nil => cases h3
    | cons j is => cases q with
      | nil => cases h4
      | @cons v vs d ds a b =>
        rw [List.zip_cons_cons, List.lookup_cons] at e
        obtain ⟨n1, h1'⟩ := List.nodup_cons.mp h1
        obtain ⟨n2, h2'⟩ := List.nodup_cons.mp h2
        cases hx : x == y with
        | true =>
          rw [hx] at e
          cases e
          have ey := beq_iff_eq.mp hx
          subst ey
          show SlotRep cx F h ad i (updL _ xs vs x) (slotAt (setAll (ρ.set i (.val d)) is ds) i)
          rw [updL_off n1, setAll_off n2, slotAt_set, if_pos rfl, if_pos rfl]
          split
          · exact .val a
          · exact .unset
        | false =>
          rw [hx] at e
          show SlotRep cx F h ad i (updL _ xs vs x) (slotAt (setAll (ρ.set j (.val d)) is ds) i)
          exact ih h1' h2' (Nat.succ.inj h3) (Nat.succ.inj h4) b e
theorem mem_zip_keys {x : Str} {i : Nat} : ∀ {xs : List Str} {is : List Nat}, (xs.zip is).lookup x = some i → x ∈ xs ∧ i ∈ is
  | [], _, h => nomatch h
  | _ :: _, [], h => nomatch h
  | y :: xs, j :: is, h => by
    rw [List.zip_cons_cons, List.lookup_cons] at h
    cases hx : x == y with
    | true => rw [hx] at h; cases h; rw [beq_iff_eq.mp hx]; exact ⟨List.mem_cons_self, List.mem_cons_self⟩
    | false => rw [hx] at h; obtain ⟨a, b⟩ := mem_zip_keys h; exact ⟨List.mem_cons_of_mem _ a, List.mem_cons_of_mem _ b⟩
set_option genInjectivity false in
structure CompOK (ε : Sc) (scope : Scope) (xs : List Str) (is : List Nat) : Prop where
  kind : scope.kind = .function
  nocell : ∀ y ∈ scope.names, y.2 ≠ .cell
  names : ∀ y ∈ scope.names, y.2 = .local → scope.names.lookup y.1 = some .local
  xl : ∀ x ∈ xs, scope.names.lookup x = some .local
  free : ∀ y k, (y, k) ∈ scope.names → k = .free → (∃ j, ε.vars.lookup y = some j) ∧ ε.kinds.lookup y ≠ some .local
  apart : ∀ y j, ε.vars.lookup y = some j → j ∉ is
  xn : xs.Nodup
  isn : is.Nodup
  len : xs.length = is.length
theorem lookup_mem {β : Type} {x : Str} {b : β} : ∀ {l : List (Str × β)}, l.lookup x = some b → (x, b) ∈ l
  | [], h => nomatch h
  | (n, k) :: r, h => by
    rw [List.lookup_cons] at h
    cases hx : x == n with
    | true => rw [hx] at h; cases h; rw [beq_iff_eq.mp hx]; exact List.mem_cons_self
    | false => rw [hx] at h; exact List.mem_cons_of_mem _ (lookup_mem h)
section
variable {cx : XCx} {ε : Sc} {env : Env} {F : Addr → Prop} {h : Heap} {ρ : List Slot} {ad : Nat → Addr} {m cm : Str → Option Value}
theorem EnvOK.closure (e : EnvOK cx ε env F h ρ ad m cm) {scope : Scope} {xs : List Str} {is : List Nat} (c : CompOK ε scope xs is) :
    ∃ cl, closureFor scope env = pure cl ∧ (∀ n c, cl.lookup n = some c → env.cells.lookup n = some c) ∧ (∀ n, (n, NameKind.free) ∈ scope.names → (cl.lookup n).isSome) :=
  closure_ok fun n k hm hk => by
    obtain ⟨⟨j, hj⟩, hl⟩ := c.free n k hm hk
    rcases e.vars n j hj with ⟨h, _⟩ | ⟨_, h, _⟩
    · exact absurd h hl
    · exact h
theorem EnvOK.comp (e : EnvOK cx ε env F h ρ ad m cm) {scope : Scope} {xs : List Str} {is : List Nat} (c : CompOK ε scope xs is) {cl : List (Str × Addr)} (h1 : ∀ n c, cl.lookup n = some c → env.cells.lookup n = some c) (h2 : ∀ n, (n, NameKind.free) ∈ scope.names → (cl.lookup n).isSome)
    {C : Addr} (hC : ¬ cx.X C) {m₁ : Str → Option Value} {vs : List Value} {ds : List D} (hn : h.Ns C (updL m₁ xs vs)) (hd : ds.length = is.length) (hr : RepL cx.T F h vs ds) :
    EnvOK cx (compSc ε scope (xs.zip is)) (compEnvC scope cl C env) F h (setAll ρ is ds) ad (updL m₁ xs vs) cm := by
  refine ⟨c.kind, ?_, e.glob, e.blt, e.code, hC, fun n a ha => e.cxx n a (h1 n a ha), hn, fun n a ha => e.cells n a (h1 n a ha), fun y j hy => ?_⟩
  · show (relabel scope env).names = relab ε.kinds scope.names
    unfold relabel relab
    have ek : env.scope.kind = .function := e.kind
    have en : ∀ n, env.kindOf n = ε.kinds.lookup n := fun n => by unfold Env.kindOf; rw [e.names]
    simp only [ek, en, beq_self_eq_true, Bool.and_true]
  · have hy' : ((xs.zip is) ++ ε.vars.filter fun y => scope.names.lookup y.1 == some .free).lookup y = some j := hy
    rw [lookup_append] at hy'
    split at hy'
    · rename_i i ei
      cases hy'
      left
      exact ⟨relab_local (c.xl y (mem_zip_keys ei).1), target_slots c.xn c.isn c.len hd hr ei⟩
    · obtain ⟨hj, hp⟩ := lookup_filter_key (p := fun z => scope.names.lookup z == some .free) hy'
      have hf : scope.names.lookup y = some .free := by simpa using hp
      right
      have hm := lookup_mem hf
      have hl := (c.free y .free hm rfl).2
      rcases e.vars y j hj with ⟨h, _⟩ | ⟨_, _, q⟩
      · exact absurd h hl
      · refine ⟨relab_free hf, ?_, ?_⟩
        · exact Option.isSome_iff_exists.mp (h2 y hm)
        · rw [setAll_off (c.apart y j hj)]
          exact q
end
end Mine
end MpTx
section MpUx
open PySem PySem.Calls PyProof.Rows PySem.Builtin.Str
namespace Mine
section
variable {cx : XCx} {ε : Sc} {A : Around} {env : Env} {F F₀ : Addr → Prop} {s s₀ : Shared}
theorem Step.kept (ok : CxOk cx) (w₀ : Wd cx F₀ s₀) (x : Step cx F₀ s₀ F s) {wr : Addr → Prop} (hw : ∀ b, wr b → s₀.heap.get? b = none ∧ ¬ F b) {h' : Heap} (k : Nat)
    (hk : ∀ a o, ¬ wr a → s.heap.get? a = some o → h'.get? a = some o) : Step cx F₀ s₀ F { s with heap := h', toks := k } := by
  have nf : ∀ a, F a → ¬ wr a := fun a h hm => (hw a hm).2 h
  have nx : ∀ a, cx.X a → ¬ wr a := fun a h hm => by
    obtain ⟨o, e⟩ := w₀.xex a h
    rw [(hw a hm).1] at e; cases e
  have w := x.wd
  refine ⟨x.sub, x.new, fun a o e ax => hk a o (fun hm => ?_) (x.keep a o e ax), x.os, ⟨fun a o e ax => hk a o (nf a (w.f0 a o e ax)) (w.base a o e ax), ok.xi _ _ _ _ w.xi (fun _ h => h) (fun a o h e => hk a o (h.elim (nf a) (nx a)) e), w.gens, w.f0, fun a h => let ⟨o, e⟩ := w.lt a h; ⟨o, hk a o (nf a h) e⟩, w.nx, fun a h => let ⟨o, e⟩ := w.xex a h; ⟨o, hk a o (nx a h) e⟩⟩⟩
  rw [(hw a hm).1] at e; cases e
noncomputable def Tests (cx : XCx) (ε : Sc) (ifs : List Expr) (c : X) : Prop :=
  ∀ n cf A env F s ρ ad m cm, Here cx ε n cf A env F s ρ ad m cm → ∀ b, evT cf c ρ = some b → ∀ (Q : Bool → Shared → Prop) (E : Value → Shared → Prop), (∀ F' s', Step cx F s F' s' → Q b s') →
    wpAny (model cx.prog cx.w) A (forIn ifs true fun c r => if r = true then do let ok ← isTrue c env (eval c env); pure (ForInStep.yield ok) else pure (ForInStep.yield r)) Q E s
theorem tests_nil : Tests cx ε [] (.const (.bool true)) := by
  intro n cf A env F s ρ ad m cm H b hb Q E hQ
  have hb' : some true = some b := hb
  cases hb'
  rw [List.forIn_nil]
  exact wpAny_pure (hQ F s (Step.refl H.wd))
theorem tests_one {t : Expr} {c : X} (h : Sound cx ε t c) : Tests cx ε [t] c := by
  intro n cf A env F s ρ ad m cm H b hb Q E hQ
  rw [List.forIn_cons]
  simp only [if_true]
  refine wpAny_bind (wpAny_bind (h.tr n cf A env F s ρ ad m cm H b hb _ _ fun F' s' st => wpAny_pure ?_))
  show wpAny _ _ (forIn [] b _) _ _ _
  rw [List.forIn_nil]
  exact wpAny_pure (hQ F' s' st)
noncomputable def TargetC (cx : XCx) (tg : Expr) (xs : List Str) (bind : D → Option (List D)) : Prop :=
  ∀ (A : Around) (F : Addr → Prop) (s : Shared) (cenv : Env) (C : Addr) (m : Str → Option Value) (v : Value) (d : D) (ds : List D), CxOk cx → Wd cx F s → A.handled = none → cenv.locals = C → (∀ x ∈ xs, cenv.kindOf x = some .local) →
    (cenv.scope.kind == .class || (cenv.scope.kind == .module && cenv.locals != cenv.globals)) = false → s.heap.Ns C m → ¬ F C → Rep cx.T F s.heap v d → bind d = some ds → ∀ (Q : Unit → Shared → Prop) (E : Value → Shared → Prop),
    (∀ h' tk vs, (∀ a o, a ≠ C → s.heap.get? a = some o → h'.get? a = some o) → h'.Ns C (updL m xs vs) → RepL cx.T F h' vs ds → Q () { s with heap := h', toks := tk }) → wpAny (model cx.prog cx.w) A (assign tg cenv v) Q E s
noncomputable def one1 (d : D) : Option (List D) := some [d]
theorem targetC_name {x : Str} {p : Pos} : TargetC cx (.Name x p) [x] one1 := by
  intro A F s cenv C m v d ds ok w hh hC hk hp hn nf hv hb Q E hQ
  cases hb
  subst hC
  refine wpAny_assign_Name (wpAny_storeName_local (hk x List.mem_cons_self) hn (fun h' hn' sb => ?_) hp)
  have keep : ∀ a o, a ≠ cenv.locals → s.heap.get? a = some o → h'.get? a = some o := fun a o h e => (sb.2 a h).trans e
  exact hQ h' _ [v] keep hn' (.cons (hv.mono (fun _ h => h) fun a o f e => keep a o (fun e => nf (e ▸ f)) e) .nil)
end
end Mine
end MpUx
section MpVx
open PySem PySem.Calls PyProof.Rows PySem.Builtin.Str
namespace Mine
theorem compLoop_any {prog : Program} {w : World} {A : Around} {R : Result → Shared → Prop} {s : Shared} {elt target iter : Expr} {ifs : List Expr} {scope : Scope} {pos : Pos} {it acc : Value} {env : Env} (I : Nat → Shared → Prop)
    (turn : ∀ n s, I n s → wpAny (model prog w) A (pyNext it) (fun r s₁ => match r with
      | none => R (.ok .next) s₁
      | some v => wpAny (model prog w) A (letOwnedTupleGo target it v) (fun _ s₁' => wpAny (model prog w) A (assign target env v) (fun _ s₂ =>
          wpAny (model prog w) A (forIn ifs true fun c r => if r = true then do let ok ← isTrue c env (eval c env); pure (ForInStep.yield ok) else pure (ForInStep.yield r)) (fun ok s₃ =>
            if ok = true then wpAny (model prog w) A (eval elt env) (fun x s₄ =>
              wpAny (model prog w) A (call (.builtin "list.append") [acc, x]) (fun _ s₅ => ∃ m, m < n ∧ I m s₅) (notedBy (model prog w) A env fun e s' => R (.error e) s') s₄) (notedBy (model prog w) A env fun e s' => R (.error e) s') s₃
            else ∃ m, m < n ∧ I m s₃) (notedBy (model prog w) A env fun e s' => R (.error e) s') s₂) (notedBy (model prog w) A env fun e s' => R (.error e) s') s₁') (notedBy (model prog w) A env fun e s' => R (.error e) s') s₁) (notedBy (model prog w) A env fun e s' => R (.error e) s') s)
    (n : Nat) (h : I n s) :
    codeAny (model prog w) A (.compLoop (.ListComp elt [⟨target, iter, ifs, 0⟩] scope pos) 0 it acc env) R s := by
  refine codeAny_loop rfl I (fun n s hI => ?_) n h
  show wpAny _ A ((compTurn (.ListComp elt [⟨target, iter, ifs, 0⟩] scope pos) 0 it acc env).onRaise (fun x => do noteFrame x env; theTreesLotGoes x)) _ _ s
  refine wpAny_noted ?_
  rw [compTurn_list]
  refine wpAny_bind (wpAny_standAt (wpAny_bind (wpAny_mono (turn n s hI) (fun r s₁ h₁ => ?_) fun _ _ h' => h')))
  cases r with
  | none => exact wpAny_pure h₁
  | some v =>
    refine wpAny_bind (wpAny_mono h₁ (fun _ s₁' h₁' => ?_) fun _ _ h' => h')
    refine wpAny_bind (wpAny_mono h₁' (fun _ s₂ h₂ => wpAny_bind (wpAny_mono h₂ (fun ok s₃ h₃ => ?_) fun _ _ h' => h')) fun _ _ h' => h')
    cases ok with
    | false => exact wpAny_pure ⟨rfl, h₃⟩
    | true =>
      exact wpAny_bind (wpAny_bind (wpAny_mono h₃ (fun x s₄ h₄ => wpAny_bind (wpAny_mono h₄ (fun _ s₅ h₅ => wpAny_pure (wpAny_pure ⟨rfl, h₅⟩)) fun _ _ h' => h')) fun _ _ h' => h'))
noncomputable def turnC (cf : Nat → List D → Option D) (is : List Nat) (bind : D → Option (List D)) (c e : X) (ρ : List Slot) (d : D) : Option (Option D) :=
  match bind d with
  | some ds => turnD (ev cf c (setAll ρ is ds)) (ev cf e (setAll ρ is ds))
  | none => none
inductive CoreI (cx : XCx) (F : Addr → Prop) (s : Shared) (F1 : Addr → Prop) (h1 : Heap) (wr : List Addr) (Da C : Addr) (St : Nat → Heap → Prop) (items l : List D) (go : List D → Option (List D)) (k : Nat) (s' : Shared) : Prop
  | mk (j : Nat) (F' : Addr → Prop) (ys : List Value) (ds : List D) (kk : Nat) (m' : Str → Option Value) (hj : j ≤ items.length) (hk : k = items.length - j) (st : Step cx F s F' s') (hrep : ∀ v d, Rep cx.T F1 h1 v d → Rep cx.T F' s'.heap v d) (hF : ∀ a, F1 a → F' a) (hst : St j s'.heap)
    (hwr : ∀ b ∈ wr, ¬ F' b) (hnD : ¬ F' Da) (hnC : ¬ F' C) (hD : s'.heap.get? Da = some (lobj ys.toArray kk)) (hys : RepL cx.T F' s'.heap ys ds) (hyl : ys.length ≤ j) (hns : s'.heap.Ns C m') (rest : List D) (hgo : go (items.drop j) = some rest) (hrest : l = ds ++ rest)
set_option genInjectivity false in
structure CoreL (cx : XCx) (F1 : Addr → Prop) (h1 : Heap) (wr : List Addr) (Da C : Addr) (St : Nat → Heap → Prop) (j : Nat) (ys : List Value) (ds : List D) (kk : Nat) (m' : Str → Option Value) (F4 : Addr → Prop) (h4 : Heap) : Prop where
  p1 : ∀ v d, Rep cx.T F1 h1 v d → Rep cx.T F4 h4 v d
  p2 : ∀ a, F1 a → F4 a
  p3 : St j h4
  p4 : ∀ b ∈ wr, ¬ F4 b
  p5 : ¬ F4 Da
  p6 : ¬ F4 C
  p7 : h4.get? Da = some (lobj ys.toArray kk)
  p8 : RepL cx.T F4 h4 ys ds
  p9 : h4.Ns C m'
inductive CoreE (cf : Nat → List D → Option D) (e : X) (ρ : List Slot) (go : Option (List D)) (rest : List D) : Prop
  | mk (r : R) (y : D) (e1 : ev cf e ρ = some [r]) (e2 : r.fz = some y) (ys' : List D) (e4 : go = some ys') (e5 : rest = y :: ys')
section
variable {cx : XCx} {ε : Sc}
theorem comp_core {elt iter tg : Expr} {ifs : List Expr} {scope : Scope} {pos cpos : Pos} {xs : List Str} {is : List Nat} {bind : D → Option (List D)} {c e it : X}
    (hT : TargetC cx tg xs bind) (hb : ∀ d ds, bind d = some ds → ds.length = is.length) (hi : SoundI cx ε iter it) (ok : CompOK ε scope xs is) (hc : Tests cx (compSc ε scope (xs.zip is)) ifs c) (he : Sound cx (compSc ε scope (xs.zip is)) elt e)
    (hs : ∀ env x, foldedSetIterable iter env x = pure x)
    {n cf A env F s ρ ad m cm} (H : Here cx ε n cf A env F s ρ ad m cm) {items l : List D} (hit : evI cf it ρ = some items) (hl : compGo (turnC cf is bind c e ρ) items = some l)
    {use : Option (Value → Sem Unit)} {Q : Value → Shared → Prop} {E : Value → Shared → Prop}
    (hRR : ∀ Da C F' s' m', Step cx F s F' s' → RepR cx F' s.heap s'.heap (.ref Da) (.own l) → s'.heap.Ns C m' → s.heap.get? C = none → ¬ F' C → C ≠ Da → compPost (model cx.prog cx.w) A E use Q (.ref Da) C (.ok .next) s') :
    wpAny (model cx.prog cx.w) A (comprehension (.ListComp elt [⟨tg, iter, ifs, 0⟩] scope pos) scope env cpos (newList []) false (eval iter env) use) Q E s := by
  obtain ⟨cl, hclos, h1, h2⟩ := H.env.closure ok
  refine wpAny_comprehension_free rfl (hs env) hclos ok.kind ok.names (hi n cf A env F s ρ ad m cm H items hit _ _ fun I F1 s1 fp wr P St J => ?_)
  refine wpAny_newObj_type (wpAny_newFunctionEnv ok.nocell (by intro y hy; simp at hy) (fun h₁ hns₁ hsb₁ => ?_) ok.kind)
  dsimp only at hns₁ hsb₁ ⊢
  generalize hH2 : s1.heap.push { cls := .type "list", dict := none, data := .seq ([] : List Value).toArray } = H2 at hns₁ hsb₁ ⊢
  generalize hD : s1.heap.objs.size = Da
  generalize hCe : H2.objs.size = C at hns₁ hsb₁
  have hCD : C = Da + 1 := by rw [← hCe, ← hD, ← hH2, Heap.size_push]
  have hDC : C ≠ Da := by rw [hCD]; exact Nat.succ_ne_self Da
  have fr : ∀ a, Da ≤ a → s1.heap.get? a = none := fun a ha => by
    cases e : s1.heap.get? a with
    | none => rfl
    | some o' => exact absurd (hD ▸ Heap.lt_size e) (Nat.not_lt.mpr ha)
  have lt1 : ∀ b o, s1.heap.get? b = some o → b ≠ C ∧ b ≠ Da := fun b o e => ⟨Nat.ne_of_lt (by rw [hCD]; exact Nat.lt_succ_of_lt (hD ▸ Heap.lt_size e)), Nat.ne_of_lt (hD ▸ Heap.lt_size e)⟩
  have old : ∀ b o, s1.heap.get? b = some o → h₁.get? b = some o := fun b o e => hsb₁.extBut b o (lt1 b o e).1 (Heap.get?_push_of_some _ (hH2 ▸ Heap.get?_push_of_some _ e))
  have hacc : h₁.get? Da = some (lobj ([] : List Value).toArray 0) := hsb₁.extBut _ _ hDC.symm (Heap.get?_push_of_some _ (by rw [← hH2, ← hD]; exact Heap.get?_push_size _ rfl))
  have frD := fr Da (Nat.le_refl _)
  have frC := fr C (by rw [hCD]; exact Nat.le_succ Da)
  have xD : ¬ cx.X Da := J.st.wd.newNotX frD
  have xC : ¬ cx.X C := J.st.wd.newNotX frC
  have frD0 : s.heap.get? Da = none := J.st.fresh xD frD
  have frC0 : s.heap.get? C = none := J.st.fresh xC frC
  have st1 : Step cx F s F1 { s1 with heap := h₁, toks := s1.toks + ([] : List (Str × Value)).length } := J.st.trans (Step.grown H.ok J.st.wd _ old)
  have loop : ∀ s₃ : Shared, s₃ = { s1 with heap := h₁, toks := s1.toks + ([] : List (Str × Value)).length } →
      codeAny (model cx.prog cx.w) A (.compLoop (.ListComp elt [⟨tg, iter, ifs, 0⟩] scope pos) 0 (.ref I) (.ref Da) (compEnvC scope cl C env)) (compPost (model cx.prog cx.w) A E use Q (.ref Da) C) s₃ := by
    rintro s₃ rfl
    refine compLoop_any (CoreI cx F s F1 s1.heap wr Da C St items l (compGo (turnC cf is bind c e ρ))) (fun k s' hI => ?_) items.length
      ⟨0, F1, [], [], 0, _, Nat.zero_le _, rfl, st1, fun v d r => r.mono (fun _ h => h) fun a o _ e => old a o e, fun _ h => h, (J.W A H.bud.hd).frame _ _ _ J.s0 fun b _ o e => old b o e, fun b hb => (J.new b hb).2, J.st.wd.newNotF frD, J.st.wd.newNotF frC, hacc, .nil, Nat.le_refl _, hns₁, l, hl, rfl⟩
    obtain ⟨j, F', ys, ds, kk, m', hj, rfl, st', hrep, hF, hst, hwr, hnD, hnC, hD', hys, hyl, hns', rest, hgo, hrest⟩ := hI
    obtain ⟨o0, T0, gI, _, _⟩ := J.ty 0 _ J.s0
    have hwI : ∀ b ∈ wr, b ≠ C ∧ b ≠ Da := fun b hb => by rw [J.one b hb]; exact lt1 I _ gI
    have dC : C ∉ wr := fun h => (hwI C h).1 rfl
    have dD : Da ∉ wr := fun h => (hwI Da h).2 rfl
    have hwn : ∀ b, b ∈ wr → s.heap.get? b = none ∧ ¬ F' b := fun b hb => ⟨(J.new b hb).1, hwr b hb⟩
    have xwr : ∀ b ∈ wr, ¬ cx.X b := fun b hb h => by
      obtain ⟨o, e⟩ := H.wd.xex b h
      rw [(J.new b hb).1] at e; cases e
    rcases Nat.lt_or_ge j items.length with hlt | hge
    · refine (J.W A H.bud.hd).item j s' _ _ hlt hst fun v h' tk hP hst' hk => ?_
      have st2 := st'.kept H.ok H.wd (wr := (· ∈ wr)) hwn tk hk
      obtain ⟨d, hd, hr⟩ := J.item j v hP
      have hdrop : items.drop j = d :: items.drop (j + 1) := by
        have h1 : items[j]? = some items[j] := List.getElem?_eq_getElem hlt
        rw [h1] at hd
        cases hd
        exact List.drop_eq_getElem_cons hlt
      rw [hdrop] at hgo
      unfold compGo at hgo
      obtain ⟨ob, T, g1, g2, g3⟩ := J.ty _ _ hst'
      have keepF : ∀ a o, F' a → s'.heap.get? a = some o → h'.get? a = some o := fun a o f e => hk a o (fun hm => hwr a hm f) e
      have hr2 : ∀ v d, Rep cx.T F1 s1.heap v d → Rep cx.T F' h' v d := fun v d hr => (hrep v d hr).mono (fun _ h => h) keepF
      refine letGo_ok (s := { s' with heap := h', toks := tk }) g1 g2 g3 ?_
      have hnC' : h'.Ns C m' := hns'.at' fun o e => hk C o dC e
      have hbind : ∃ dv, bind d = some dv := by
        cases hq : bind d with
        | none => simp only [turnC, hq] at hgo; cases hgo
        | some dv => exact ⟨dv, rfl⟩
      obtain ⟨dv, hdv⟩ := hbind
      have htC : turnC cf is bind c e ρ d = turnD (ev cf c (setAll ρ is dv)) (ev cf e (setAll ρ is dv)) := by simp only [turnC, hdv]
      rw [htC] at hgo
      refine hT A F' { s' with heap := h', toks := tk } (compEnvC scope cl C env) C m' v d dv H.ok st2.wd H.bud.hd rfl (fun x hx => lookup_relabel_local (ok.xl x hx)) (by simp [compEnvC, relabel, ok.kind]) hnC' hnC (hr2 v d hr) hdv _ _ fun h3 tk3 vs3 hk3 hns3 hr3 => ?_
      have st3 : Step cx F s F' { s' with heap := h3, toks := tk3 } := st2.kept H.ok H.wd (wr := (· = C)) (fun b hb => by subst hb; exact ⟨frC0, hnC⟩) tk3 hk3
      have keep3 : ∀ a o, F' a → s'.heap.get? a = some o → h3.get? a = some o := fun a o f e => hk3 a o (fun e => hnC (e ▸ f)) (keepF a o f e)
      have H3 : Here cx (compSc ε scope (xs.zip is)) n cf A (compEnvC scope cl C env) F' { s' with heap := h3, toks := tk3 } (setAll ρ is dv) ad (updL m' xs vs3) cm :=
        ⟨H.ok, H.calls, H.bud, st3.wd, (H.step st3).env.comp ok h1 h2 xC hns3 (hb d dv hdv) hr3⟩
      have hst3 : St (j + 1) h3 := (J.W A H.bud.hd).frame _ _ _ hst' fun b hb o e => hk3 b o (by
        rcases J.deps b hb with h | h
        · exact (hwI b h).1
        · exact fun e => hnC (e ▸ hF b h)) e
      have hD3 : h3.get? Da = some (lobj ys.toArray kk) := hk3 Da _ hDC.symm (hk Da _ dD hD')
      have later : ∀ {F4 s4}, Step cx F' { s' with heap := h3, toks := tk3 } F4 s4 → CoreL cx F1 s1.heap wr Da C St (j + 1) ys ds kk (updL m' xs vs3) F4 s4.heap := by
        intro F4 s4 y
        have isC : ∃ o, h3.get? C = some o := by obtain ⟨o, _, _, e, _⟩ := hns3; exact ⟨o, e⟩
        obtain ⟨oC, eC⟩ := isC
        obtain ⟨ob3, T3, g13, _, _⟩ := J.ty _ _ hst3
        refine ⟨fun v d q => y.rep H3.wd ((hr2 v d q).mono (fun _ h => h) fun a o f e => hk3 a o (fun e => hnC (e ▸ f)) e), fun a h => y.sub a (hF a h), (J.W A H.bud.hd).frame _ _ _ hst3 fun b hb o e => ?_, fun b hb => ?_, y.notF hnD hD3, y.notF hnC eC, y.keep _ _ hD3 xD, y.repL H3.wd (hys.mono (fun _ h => h) keep3), hns3.at' fun o e => y.keep _ o e xC⟩
        · rcases J.deps b hb with h | h
          · exact y.keep b o e (xwr b h)
          · exact y.keep b o e (H3.wd.nx b (hF b h))
        · exact y.notF (hwr b hb) (by rw [J.one b hb]; exact g13)
      unfold turnD at hgo
      cases htr : truthR (ev cf c (setAll ρ is dv)) with
      | none => rw [htr] at hgo; cases hgo
      | some b =>
        rw [htr] at hgo
        refine hc n cf A _ F' _ _ ad _ cm H3 b htr _ _ fun F4 s4 st4 => ?_
        obtain ⟨p1, p2, p3, p4, p5, p6, p7, p8, p9⟩ := later st4
        cases b with
        | false =>
          rw [if_neg (by decide)]
          exact ⟨items.length - (j + 1), by omega, j + 1, F4, ys, ds, kk, _, hlt, rfl, st3.trans st4, p1, p2, p3, p4, p5, p6, p7, p8, by omega, p9, rest, hgo, hrest⟩
        | true =>
          rw [if_pos rfl]
          dsimp only at hgo
          have hev : CoreE cf e (setAll ρ is dv) (compGo (turnC cf is bind c e ρ) (items.drop (j + 1))) rest := by
            revert hgo
            split
            · intro h; cases h
            · intro h
              rename_i q
              split at q
              · rename_i r e1
                obtain ⟨y, e2, e3⟩ := Option.map_eq_some_iff.mp q
                cases e3
              · cases q
            · intro h
              rename_i y q
              split at q
              · rename_i r e1
                obtain ⟨y', e2, e3⟩ := Option.map_eq_some_iff.mp q
                cases e3
                split at h
                · rename_i ys' e4
                  cases h
                  exact ⟨r, y, e1, e2, ys', e4, rfl⟩
                · cases h
              · cases q
          obtain ⟨r, y, e1, e2, ys', e4, e5⟩ := hev
          have H4 := H3.step st4
          refine he.ev n cf A _ F4 s4 _ ad _ cm H4 r e1 _ _ fun v5 F5 s5 st5 q5 => ?_
          obtain ⟨F6, st6, _, r6⟩ := st5.fz H.ok st4.wd q5 e2
          obtain ⟨p1, p2, p3, p4, p5, p6, p7, p8, p9⟩ := later (st4.trans st6)
          have hlen : ys.length < lim := by have := J.lim; omega
          refine wpAny_list_append_plain ⟨kk, p7⟩ (fun h7 hl7 sb7 => ?_) (by rw [List.size_toArray]; exact sz_line (by omega))
          obtain ⟨k7, hl7⟩ := hl7
          have e7 : ys.toArray.push v5 = (ys ++ [v5]).toArray := by simp
          rw [e7] at hl7
          have st7 : Step cx F s F6 { s5 with heap := h7, toks := s5.toks } := (st3.trans (st4.trans st6)).kept H.ok H.wd (wr := (· = Da)) (fun b hb => by subst hb; exact ⟨frD0, p5⟩) s5.toks fun a o h e => (sb7.2 a h).trans e
          have keep7 : ∀ a o, F6 a → s5.heap.get? a = some o → h7.get? a = some o := fun a o f e => (sb7.2 a fun e => p5 (e ▸ f)).trans e
          refine ⟨items.length - (j + 1), by omega, j + 1, F6, ys ++ [v5], ds ++ [y], k7, _, hlt, rfl, st7, fun v d q => (p1 v d q).mono (fun _ h => h) keep7, p2, (J.W A H.bud.hd).frame _ _ _ p3 fun b hb o e => (sb7.2 b ?_).trans e, p4, p5, p6, hl7, (p8.append (.cons r6 .nil)).mono (fun _ h => h) keep7, by rw [List.length_append]; simp; omega, p9.sameBut sb7 hDC, ys', e4, by rw [hrest, e5]; simp⟩
          rcases J.deps b hb with h | h
          · exact (hwI b h).2
          · exact fun e => p5 (e ▸ p2 b h)
    · have ej : j = items.length := by omega
      subst ej
      rw [List.drop_length] at hgo
      cases hgo
      refine (J.W A H.bud.hd).done s' _ _ hst fun h' tk hk => ?_
      have st2 := st'.kept H.ok H.wd (wr := (· ∈ wr)) hwn tk hk
      have keepF : ∀ a o, F' a → s'.heap.get? a = some o → h'.get? a = some o := fun a o f e => hk a o (fun hm => hwr a hm f) e
      refine hRR Da C F' _ m' st2 ?_ (hns'.at' fun o e => hk C o dC e) frC0 hnC hDC
      rw [hrest, List.append_nil]
      exact .own frD0 hnD xD (hk Da _ dD hD') (by have := J.lim; omega) (hys.mono (fun _ h => h) keepF)
  exact codeAny_compStart_list (loop _ rfl) ((J.W A H.bud.hd).self 0 _ _ _ ((J.W A H.bud.hd).frame _ _ _ J.s0 fun b _ o e => old b o e) (loop _ rfl))
end
end Mine
end MpVx
section MpWx
open PySem PySem.Calls PyProof.Rows PySem.Builtin.Str
namespace Mine
section
variable {cx : XCx} {ε : Sc}
theorem comp_value {elt iter tg : Expr} {ifs : List Expr} {scope : Scope} {pos : Pos} {xs : List Str} {is : List Nat} {bind : D → Option (List D)} {c e it : X}
    (hT : TargetC cx tg xs bind) (hb : ∀ d ds, bind d = some ds → ds.length = is.length) (hi : SoundI cx ε iter it) (ok : CompOK ε scope xs is) (hc : Tests cx (compSc ε scope (xs.zip is)) ifs c) (he : Sound cx (compSc ε scope (xs.zip is)) elt e)
    (hs : ∀ env x, foldedSetIterable iter env x = pure x)
    {n cf A env F s ρ ad m cm} (H : Here cx ε n cf A env F s ρ ad m cm) {items l : List D} (hit : evI cf it ρ = some items) (hl : compGo (turnC cf is bind c e ρ) items = some l)
    {Q : Value → Shared → Prop} {E : Value → Shared → Prop} (hQ : Post cx F s (.own l) Q) :
    wpAny (model cx.prog cx.w) A (eval (.ListComp elt [⟨tg, iter, ifs, 0⟩] scope pos) env) Q E s := by
  rw [eval_ListComp]
  refine comp_core (use := none) hT hb hi ok hc he hs H hit hl fun Da C F' s' m' st q hn frC nC hne => ?_
  refine ⟨m', hn, fun h'' sb => ?_⟩
  have st2 : Step cx F s F' { s' with heap := h'' } := st.kept H.ok H.wd (wr := (· = C)) (fun b hb => by subst hb; exact ⟨frC, nC⟩) s'.toks fun a o h e => (sb.2 a h).trans e
  refine hQ _ F' _ st2 ?_
  cases q with
  | own lo nf nx g z q => exact .own lo nf nx ((sb.2 Da hne.symm).trans g) z (q.mono (fun _ h => h) fun a o f e => (sb.2 a fun e => nC (e ▸ f)).trans e)
theorem ev_comp {cf : Nat → List D → Option D} {i : Nat} {it c e : X} {ρ : List Slot} {r : R} (h : ev cf (.comp i it c e) ρ = some [r]) : ∃ items l, evI cf it ρ = some items ∧ compGo (turnC cf [i] one1 c e ρ) items = some l ∧ r = .own l := by
  replace h := (evq_comp _).symm.trans h
  split at h
  · rename_i items e1
    obtain ⟨l, e2, e3⟩ := Option.map_eq_some_iff.mp h
    cases e3
    refine ⟨items, l, by unfold evI; rw [e1], e2, rfl⟩
  · cases h
set_option genInjectivity false in
structure CompX (cx : XCx) (ε : Sc) (elt iter tg : Expr) (ifs : List Expr) (scope : Scope) (xs : List Str) (is : List Nat) (bind : D → Option (List D)) (it c e : X) : Prop where
  hT : TargetC cx tg xs bind
  hb : ∀ d ds, bind d = some ds → ds.length = is.length
  hi : SoundI cx ε iter it
  ok : CompOK ε scope xs is
  hc : Tests cx (compSc ε scope (xs.zip is)) ifs c
  he : Sound cx (compSc ε scope (xs.zip is)) elt e
  hs : ∀ env x, foldedSetIterable iter env x = pure x
theorem sound_comp {elt iter tg : Expr} {ifs : List Expr} {scope : Scope} {pos : Pos} {x : Str} {i : Nat} {it c e : X} (h : CompX cx ε elt iter tg ifs scope [x] [i] one1 it c e) :
    Sound cx ε (.ListComp elt [⟨tg, iter, ifs, 0⟩] scope pos) (.comp i it c e) := by
  refine Sound.ofE ?_ fun _ => rfl
  intro n cf A env F s ρ ad m cm H r hr Q E hQ
  obtain ⟨items, l, e1, e2, rfl⟩ := ev_comp hr
  exact comp_value h.hT h.hb h.hi h.ok h.hc h.he h.hs H e1 e2 hQ
theorem comp_used {elt iter tg : Expr} {ifs : List Expr} {scope : Scope} {pos spos py : Pos} {xs : List Str} {is : List Nat} {bind : D → Option (List D)} {c e it : X} {y : Str} {j : Nat} (h : CompX cx ε elt iter tg ifs scope xs is bind it c e)
    (hy : ε.vars.lookup y = some j) (hf : ε.kinds.lookup y ≠ some .free) (hs : ∀ env : Env, env.scope.kind = .function → env.scope.names = ε.kinds → swapsWith (.ListComp elt [⟨tg, iter, ifs, 0⟩] scope pos) (some (.Name y py)) spos.line env = pure true)
    {n cf A env F s ρ ad m cm} (H : HereS cx ε n cf A env F s ρ ad m cm) {items l : List D} (hit : evI cf it ρ = some items) (hl : compGo (turnC cf is bind c e ρ) items = some l)
    (own : Bool) (hna : own = true → noApp j ρ = true) {Q : Flow → Shared → Prop} {E : Value → Shared → Prop} (hQ : PostS cx ε env F s ρ ad (ρ.set j (if own then .own l else .val (.list l))) .next Q) :
    wpAny (model cx.prog cx.w) A (exec (.Assign [.Name y py] (.ListComp elt [⟨tg, iter, ifs, 0⟩] scope pos) spos) env) Q E s := by
  rw [exec_Assign_Name_used _ _ _ _ (hs env H.frm.en.kind H.frm.en.names)]
  refine wpAny_bind (wpAny_standAt (wpAny_bind ?_))
  show wpAny _ A (do let _ ← comprehension (.ListComp elt [⟨tg, iter, ifs, 0⟩] scope pos) scope env _ (newList []) false (eval iter env) (some (assign (.Name y py) env))) _ _ s
  refine wpAny_bind (comp_core (use := some (assign (.Name y py) env)) h.hT h.hb h.hi h.ok h.hc h.he h.hs H.here hit hl fun Da C F' s' m' st q hn frC nC hne => ?_)
  show wpAny _ A (assign (.Name y py) env (.ref Da)) _ _ _
  refine wpAny_assign_Name ?_
  have nm : ∀ {a}, s.heap.get? a = none → ¬ Mut env ρ ad a := fun e hm => by
    obtain ⟨o, e'⟩ := H.frm.isSome hm
    rw [e] at e'; cases e'
  cases q with
  | @own _ vs k _ lo nf nx g z q =>
  have fin : ∀ {F'' : Addr → Prop} {sl : Slot} {ad' : Nat → Addr} {s'' : Shared} {m'' cm'' : Str → Option Value}, sl = (if own then Slot.own l else .val (.list l)) → (∀ l', sl = .own l' → ad' j = Da) → (∀ i, i ≠ j → ad' i = ad i) → StepS cx env F s ρ ad F'' s'' (ρ.set j sl) ad' → Frm cx ε env F'' s'' (ρ.set j sl) ad' m'' cm'' → ¬ F'' C → s''.heap.Ns C m' →
      ∃ m, s''.heap.Ns C m ∧ ∀ h', Heap.SameBut C s''.heap h' → wpAny (model cx.prog cx.w) A (pure PUnit.unit) (fun _ s' => wpAny (model cx.prog cx.w) A (pure Flow.next) Q E s') E { s'' with heap := h' } := by
    intro F'' sl ad' s'' m'' cm'' hsl hDa had x f nF hn'
    refine ⟨m', hn', fun h' sb => wpAny_pure (wpAny_pure ?_)⟩
    have nM : ¬ Mut env (ρ.set j sl) ad' C := fun hm => by
      rcases hm with h | h | ⟨i, l', hi, rfl⟩
      · exact nm frC (.inl h)
      · exact nm frC (.inr (.inl h))
      · rw [slotAt_set] at hi
        by_cases e : i = j
        · subst e
          rw [if_pos rfl] at hi
          split at hi
          · exact hne (hDa l' hi)
          · cases hi
        · rw [if_neg e] at hi
          rw [had i e] at frC
          exact nm frC (.inr (.inr ⟨i, l', hi, rfl⟩))
    obtain ⟨x2, f2⟩ := x.kept H.ok H.wd f (wr := [C]) (fun b hb => by simp only [List.mem_cons, List.not_mem_nil, or_false] at hb; subst hb; exact ⟨frC, nF, nM⟩) (h' := h') s''.toks (fun a o hm e => (sb.2 a (by simpa using hm)).trans e)
    rw [hsl] at x2 f2
    exact hQ .next F'' _ ad' m'' cm'' x2 f2 .next
  cases own with
  | false =>
    have st2 := st.freeze H.ok H.wd lo g
    refine store_varK H st2 hy hf (sl := .val (.list l)) (ad' := ad) (fun _ _ => rfl) (.inl rfl) (fun h' hk => .val (.list (.inr rfl) (hk Da _ (.inl (.inr rfl)) g) z (q.mono (fun _ h => .inl h) fun a o f e => hk a o (.inl (.inl f)) e))) (fun _ e => nomatch e) fun s'' m'' cm'' hk x f => ?_
    exact fin (sl := .val (.list l)) (by rw [if_neg (by decide)]) (fun _ e => nomatch e) (fun _ _ => rfl) x f (fun h => h.elim nC hne) (hn.at' fun o e => hk C o (nm frC) e)
  | true =>
    refine store_varK H st hy hf (sl := .own l) (ad' := fun i => if i = j then Da else ad i) (fun i hi => if_neg hi) (.inr (noApp_ok (hna rfl))) (fun h' hk => ?_) (fun l' _ => ?_) fun s'' m'' cm'' hk x f => ?_
    · have : SlotRep cx F' h' (fun i => if i = j then Da else ad i) j (some (.ref ((fun i => if i = j then Da else ad i) j))) (.own l) := by
        refine .own (vs := vs) (n := k) ?_ ?_ ?_ z (q.mono (fun _ h => h) fun b o f e => hk b o (.inl f) e) <;> simp only [if_true]
        · exact nf
        · exact nx
        · exact hk Da _ (.inr (nm lo)) g
      simpa using this
    · simp only [if_true]
      exact ⟨lo, nf, nx, _, _, g⟩
    · exact fin (sl := .own l) (ad' := fun i => if i = j then Da else ad i) (by rw [if_pos rfl]) (fun _ _ => if_pos rfl) (fun i hi => if_neg hi) x f nC (hn.at' fun o e => hk C o (nm frC) e)
theorem ev1_own {cf : Nat → List D → Option D} {x : X} {ρ : List Slot} {d : D} (h : ev1 cf x ρ = some d) {P : List D → Prop} (hp : ∀ r, ev cf x ρ = some [r] → ∃ l, r = .own l ∧ P l) : ∃ l, d = .list l ∧ P l := by
  obtain ⟨r, e1, e2⟩ := ev1_inv h
  obtain ⟨l, rfl, p⟩ := hp r e1
  cases e2
  exact ⟨l, rfl, p⟩
theorem soundS_assignC {elt iter tg : Expr} {ifs : List Expr} {scope : Scope} {pos spos py : Pos} {x y : Str} {i j : Nat} {it c e : X} (h : CompX cx ε elt iter tg ifs scope [x] [i] one1 it c e)
    (hy : ε.vars.lookup y = some j) (hf : ε.kinds.lookup y ≠ some .free) (hs : ∀ env : Env, env.scope.kind = .function → env.scope.names = ε.kinds → swapsWith (.ListComp elt [⟨tg, iter, ifs, 0⟩] scope pos) (some (.Name y py)) spos.line env = pure true) :
    SoundS cx ε (.Assign [.Name y py] (.ListComp elt [⟨tg, iter, ifs, 0⟩] scope pos) spos) (.assign j (.comp i it c e)) := by
  intro n cf A env F s ρ ad m cm H ρ' o he Q E hQ
  replace he := (exq_assign cf).symm.trans he
  obtain ⟨d, hd, e'⟩ := Option.map_eq_some_iff.mp he
  cases e'
  obtain ⟨l, rfl, items, e1, e2⟩ := ev1_own (P := fun l => ∃ items, evI cf it ρ = some items ∧ compGo (turnC cf [i] one1 c e ρ) items = some l) hd fun r hr => by
    obtain ⟨items, l, e1, e2, e3⟩ := ev_comp hr
    exact ⟨l, e3, items, e1, e2⟩
  exact comp_used h hy hf hs H e1 e2 false (fun e => nomatch e) (by rw [if_neg (by decide)]; exact hQ)
end
end Mine
end MpWx
section MpXx
open PySem PySem.Calls PyProof.Rows PySem.Builtin.Str
namespace Mine
theorem bindL_off {kindOf : Str → Option NameKind} {x : Str} : ∀ {ps : List Str} {vs : List Value} {m : Str → Option Value}, x ∉ ps → bindL kindOf (ps.zip vs) m x = m x
  | [], _, _, _ => rfl
  | _ :: _, [], _, _ => rfl
  | n :: ps, v :: vs, m, h => by
    rw [List.zip_cons_cons]
    unfold bindL
    rw [bindL_off fun h' => h (List.mem_cons_of_mem _ h')]
    split
    · exact if_neg fun (e : x = n) => h (by rw [e]; exact List.mem_cons_self)
    · rfl
theorem bindL_at {kindOf : Str → Option NameKind} {x : Str} {v : Value} (hk : kindOf x = some .local) : ∀ {ps : List Str} {vs : List Value} {m : Str → Option Value} {k : Nat}, ps.Nodup → ps[k]? = some x → vs[k]? = some v → bindL kindOf (ps.zip vs) m x = some v
  | [], _, _, _, _, h, _ => nomatch h
  | _ :: _, [], _, _, _, _, h => nomatch h
  | n :: ps, v' :: vs, m, k, hn, h1, h2 => by
    obtain ⟨n1, hn'⟩ := List.nodup_cons.mp hn
    rw [List.zip_cons_cons]
    unfold bindL
    cases k with
    | zero =>
      simp only [List.getElem?_cons_zero, Option.some.injEq] at h1 h2
      subst h1; subst h2
      rw [bindL_off n1, if_pos hk]
      exact if_pos rfl
    | succ k =>
      simp only [List.getElem?_cons_succ] at h1 h2
      exact bindL_at hk hn' h1 h2
theorem bindC_off {kindOf : Str → Option NameKind} {x : Str} : ∀ {ps : List Str} {vs : List Value} {m : Str → Option Value}, x ∉ ps → bindC kindOf (ps.zip vs) m x = m x
  | [], _, _, _ => rfl
  | _ :: _, [], _, _ => rfl
  | n :: ps, v :: vs, m, h => by
    rw [List.zip_cons_cons]
    unfold bindC
    rw [bindC_off fun h' => h (List.mem_cons_of_mem _ h')]
    split
    · rfl
    · exact if_neg fun (e : x = n) => h (by rw [e]; exact List.mem_cons_self)
theorem bindC_at {kindOf : Str → Option NameKind} {x : Str} {v : Value} (hk : kindOf x ≠ some .local) : ∀ {ps : List Str} {vs : List Value} {m : Str → Option Value} {k : Nat}, ps.Nodup → ps[k]? = some x → vs[k]? = some v → bindC kindOf (ps.zip vs) m x = some v
  | [], _, _, _, _, h, _ => nomatch h
  | _ :: _, [], _, _, _, _, h => nomatch h
  | n :: ps, v' :: vs, m, k, hn, h1, h2 => by
    obtain ⟨n1, hn'⟩ := List.nodup_cons.mp hn
    rw [List.zip_cons_cons]
    unfold bindC
    cases k with
    | zero =>
      simp only [List.getElem?_cons_zero, Option.some.injEq] at h1 h2
      subst h1; subst h2
      rw [bindC_off n1, if_neg hk]
      exact if_pos rfl
    | succ k =>
      simp only [List.getElem?_cons_succ] at h1 h2
      exact bindC_at hk hn' h1 h2
theorem cellsFrom_has {x : Str} : ∀ {names : List (Str × NameKind)} {n : Nat} {acc : List (Str × Addr)}, (acc.lookup x).isSome ∨ (x, NameKind.cell) ∈ names → ((cellsFrom n names acc).lookup x).isSome
  | [], n, acc, h => by
    unfold cellsFrom
    rcases h with h | h
    · exact h
    · cases h
  | (y, k) :: r, n, acc, h => by
    unfold cellsFrom
    split
    · rename_i hk
      refine cellsFrom_has ?_
      rw [List.lookup_cons]
      cases hx : x == y with
      | true => exact .inl rfl
      | false =>
        rcases h with h | h
        · exact .inl h
        · rcases List.mem_cons.mp h with e | h
          · cases e; simp at hx
          · exact .inr h
    · rename_i hk
      refine cellsFrom_has (h.imp id fun h => ?_)
      rcases List.mem_cons.mp h with e | h
      · cases e; simp at hk
      · exact h
noncomputable def boundTo (fn : Fn) (args : List D) : Option (List D) :=
  if fn.va then (if fn.np ≤ args.length ∧ args.length ≤ lim then some (args.take fn.np ++ [.tup (args.drop fn.np)]) else none)
  else if args.length = fn.np then some args else none
noncomputable def BindOK (cx : XCx) (fd : FuncData) (fn : Fn) (ps : List Str) : Prop :=
  ∀ A F s vs args ds, CxOk cx → Wd cx F s → RepL cx.T F s.heap vs args → boundTo fn args = some ds → ∀ (Q : List (Str × Value) → Shared → Prop) (E : Value → Shared → Prop),
    (∀ F' s' vs', Step cx F s F' s' → RepL cx.T F' s'.heap vs' ds → Q (ps.zip vs') s') → wpAny (model cx.prog cx.w) A (bindArgs fd ⟨vs, []⟩) Q E s
set_option genInjectivity false in
structure FnIs (cx : XCx) (ε : Sc) (i : Nat) (fn : Fn) (fd : FuncData) (body : List Stmt) (ps : List Str) : Prop where
  obj : ∃ o, cx.h0.get? (cx.fa i) = some o ∧ o.data = .func fd
  nx : ¬ cx.X (cx.fa i)
  code : ∃ c, fd.code = .ref c ∧ ¬ cx.X c ∧ cx.h0.CodeRec (.ref c) fd.qualname
  body : fd.body = .stmts body
  codeAt : ∀ c q, ε.code = some (c, q) → fd.code = .ref c ∧ fd.qualname ++ ".<locals>." = q
  clo : fd.closure = []
  glob : fd.globals = mainGlobals
  blt : fd.builtins = builtinsNs
  co : fd.scope.isCoroutine = false
  gen : fd.scope.isGenerator = false
  kind : fd.scope.kind = .function
  names : fd.scope.names = ε.kinds
  bind : BindOK cx fd fn ps
  len : ∀ args ds, boundTo fn args = some ds → ds.length = ps.length
  nodup : ps.Nodup
  pv : ∀ (k : Nat) x, ps[k]? = some x → ε.vars.lookup x = some k
  vk : ∀ x j, ε.vars.lookup x = some j → ε.kinds.lookup x = some .local ∨ ε.kinds.lookup x = some .cell
  sc : ScOK ε
theorem bindD_bound {fn : Fn} {args : List D} {ρ : List Slot} (h : bindD fn args = some ρ) : ∃ ds k, boundTo fn args = some ds ∧ ρ = ds.map .val ++ List.replicate k .unset := by
  unfold bindD at h
  unfold boundTo
  split at h
  · split at h <;> cases h
    rename_i h1 h2
    rw [if_pos h1, if_pos h2]
    exact ⟨_, fn.ns - fn.np - 1, rfl, by simp⟩
  · split at h <;> cases h
    rename_i h1 h2
    rw [if_neg h1, if_pos h2]
    exact ⟨_, _, rfl, rfl⟩
theorem slotAt_start {ds : List D} {k j : Nat} : slotAt (ds.map .val ++ List.replicate k .unset) j = (match ds[j]? with | some d => .val d | none => .unset) := by
  unfold slotAt
  rw [List.getD_eq_getElem?_getD, List.getElem?_append]
  split
  · rename_i h
    rw [List.getElem?_map]
    rw [List.length_map] at h
    rw [List.getElem?_eq_getElem h]
    rfl
  · rename_i h
    rw [List.length_map] at h
    rw [List.getElem?_eq_none (Nat.le_of_not_lt h), List.getElem?_replicate]
    split <;> rfl
section
variable {cx : XCx}
theorem call_fn {ε : Sc} {i : Nat} {fn : Fn} {fd : FuncData} {body : List Stmt} {ps : List Str} (X : FnIs cx ε i fn fd body ps) (hs : SoundSs cx ε body fn.body) (ok : CxOk cx) {n : Nat} {cf : Nat → List D → Option D} (hc : CallOK cx n cf)
    {args : List D} {ρ ρ' : List Slot} {o : Out} {d : D} (hb : bindD fn args = some ρ) (he : ex cf fn.body ρ = some (ρ', o)) (hd : o = .ret d ∨ (o = .next ∧ d = .none))
    {A : Around} {F : Addr → Prop} {s : Shared} {vs : List Value} (bud : Bud (n + 1) A) (w : Wd cx F s) (q : RepL cx.T F s.heap vs args) {Rs : Result → Shared → Prop}
    (hR : ∀ v F' s', Step cx F s F' s' → Rep cx.T F' s'.heap v d → Rs (.ok (.ret v)) s') : codeAny (model cx.prog cx.w) A (.call (.ref (cx.fa i)) ⟨vs, []⟩) Rs s := by
  obtain ⟨ob, g, hfd⟩ := X.obj
  obtain ⟨c, hcode, ncx, hcd⟩ := X.code
  obtain ⟨ds, kk, hbd, rfl⟩ := bindD_bound hb
  have hroom : A.depth < recursionLimit := by have := bud.dp; show A.depth < 1000; omega
  refine codeAny_call_function hroom (w.base _ _ g X.nx) hfd X.co X.gen X.body (by rw [hcode]; exact hcd.at fun o e => w.base _ o e ncx) ?_
  refine X.bind A.in1 F s vs args ds ok w q hbd _ _ fun F₁ s₁ vs' st₁ q₁ => ?_
  rw [X.clo]
  have hlen : ds.length = ps.length := X.len _ _ hbd
  have hvl : vs'.length = ps.length := q₁.length.trans hlen
  have kindOf : ∀ x, (callEnvC fd s₁.heap.objs.size (cx.fa i)).kindOf x = ε.kinds.lookup x := fun x => by show fd.scope.names.lookup x = _; rw [X.names]
  have inps : ∀ x ∈ ps, ∃ k, ps[k]? = some x := fun x hx => by
    obtain ⟨k, hk, e⟩ := List.mem_iff_getElem.mp hx
    exact ⟨k, by rw [List.getElem?_eq_getElem hk, e]⟩
  have hkind : ∀ x ∈ ps.zip vs', fd.scope.names.lookup x.1 = some .local ∨ (fd.scope.names.lookup x.1 = some .cell ∧ ((cellsFrom (s₁.heap.objs.size + 1) fd.scope.names []).lookup x.1).isSome = true) := by
    intro x hx
    obtain ⟨k, hk⟩ := inps x.1 (List.of_mem_zip hx).1
    rw [X.names]
    rcases X.vk x.1 k (X.pv k x.1 hk) with h | h
    · exact .inl h
    · exact .inr ⟨h, cellsFrom_has (.inr (lookup_mem h))⟩
  refine wpAny_newFunctionEnv_cells X.kind hkind fun env hen s₂ ic => ?_
  have hen' : env = callEnvC fd s₁.heap.objs.size (cx.fa i) := hen
  subst hen'
  obtain ⟨h₂, tk₂, rfl⟩ := ic.toInCall.same
  have keep₂ := ic.toInCall.keep
  have st₂ : Step cx F₁ s₁ F₁ { s₁ with heap := h₂, toks := tk₂ } := Step.grown ok st₁.wd tk₂ keep₂
  have w₂ := st₂.wd
  refine ⟨w₂.lim ok, codeAny_func ?_⟩
  let E₀ : Env := callEnvC fd s₁.heap.objs.size (cx.fa i)
  let m₀ : Str → Option Value := bindL E₀.kindOf (ps.zip vs') fun _ => none
  let cm₀ : Str → Option Value := bindC E₀.kindOf (ps.zip vs') fun _ => none
  have frL : s₁.heap.get? s₁.heap.objs.size = none := fresh_size _
  have frC : ∀ n c, E₀.cells.lookup n = some c → s₁.heap.get? c = none ∧ c ≠ s₁.heap.objs.size := fun n c hc => by
    have hlt : s₁.heap.objs.size < c := ic.above n c (mem_of_lookup hc)
    refine ⟨?_, Nat.ne_of_gt hlt⟩
    cases e : s₁.heap.get? c with
    | none => rfl
    | some o => exact absurd (Heap.lt_size e) (Nat.not_lt.mpr (Nat.le_of_lt hlt))
  have noOwn : ∀ j l, slotAt (ds.map Slot.val ++ List.replicate kk .unset) j ≠ .own l := fun j l e => by
    rw [slotAt_start] at e
    split at e <;> cases e
  have fresh₀ : ∀ a, Mut E₀ (ds.map Slot.val ++ List.replicate kk .unset) (fun _ => 0) a → s₁.heap.get? a = none := fun a h => by
    rcases h with rfl | ⟨n, hn⟩ | ⟨j, l, hj, _⟩
    · exact frL
    · exact (frC n a hn).1
    · exact absurd hj (noOwn j l)
  have slots : ∀ x j, ε.vars.lookup x = some j → (ε.kinds.lookup x = some .local ∧ SlotRep cx F₁ h₂ (fun _ => 0) j (m₀ x) (slotAt (ds.map Slot.val ++ List.replicate kk .unset) j)) ∨
      ((ε.kinds.lookup x = some .cell ∨ ε.kinds.lookup x = some .free) ∧ (∃ c, E₀.cells.lookup x = some c) ∧ SlotRep cx F₁ h₂ (fun _ => 0) j (cm₀ x) (slotAt (ds.map Slot.val ++ List.replicate kk .unset) j)) := by
    intro x j hx
    have look : ∀ dj, ds[j]? = some dj → ps[j]? = some x ∧ ∃ v, vs'[j]? = some v ∧ Rep cx.T F₁ h₂ v dj := fun dj hj => by
      obtain ⟨v, hv, r⟩ := q₁.get hj
      have hlt : j < ps.length := by rw [← hlen]; exact (List.getElem?_eq_some_iff.mp hj).1
      have hp : ps[j]? = some ps[j] := List.getElem?_eq_getElem hlt
      have := X.sc.inj x ps[j] j hx (X.pv j _ hp)
      exact ⟨by rw [hp, this], v, hv, st₂.rep st₁.wd r⟩
    rw [slotAt_start]
    rcases X.vk x j hx with hk | hk
    · left
      refine ⟨hk, ?_⟩
      split
      · rename_i dj hj
        obtain ⟨hp, v, hv, r⟩ := look dj hj
        have : m₀ x = some v := bindL_at (by rw [kindOf]; exact hk) X.nodup hp hv
        rw [this]
        exact .val r
      · exact .unset
    · right
      refine ⟨.inl hk, ?_, ?_⟩
      · refine Option.isSome_iff_exists.mp (cellsFrom_has (.inr ?_))
        rw [X.names]
        exact lookup_mem hk
      · split
        · rename_i dj hj
          obtain ⟨hp, v, hv, r⟩ := look dj hj
          have : cm₀ x = some v := bindC_at (by rw [kindOf, hk]; intro e; cases e) X.nodup hp hv
          rw [this]
          exact .val r
        · exact .unset
  have fr : Frm cx ε E₀ F₁ { s₁ with heap := h₂, toks := tk₂ } (ds.map Slot.val ++ List.replicate kk .unset) (fun _ => 0) m₀ cm₀ := by
    refine ⟨⟨X.kind, X.names, X.glob, X.blt, X.codeAt, st₁.wd.newNotX frL, fun n c hc => st₁.wd.newNotX (frC n c hc).1, ic.toInCall.ns, ic.cell, slots⟩, st₁.wd.newNotF frL, fun n c hc => ⟨st₁.wd.newNotF (frC n c hc).1, (frC n c hc).2⟩, fun n n' c h h' => name_of_addr ic.apart (mem_of_lookup h) (mem_of_lookup h'), fun j _ l _ h => absurd h (noOwn j l), fun j l h => absurd h (noOwn j l)⟩
  have budE : BudE n (A.deeper E₀) := by
    obtain ⟨l, hl⟩ := bud.fs
    refine ⟨⟨bud.hd, by have := bud.dp; show A.depth + 1 + n < 890; omega, by have := bud.un; show A.units + 3 + 10 * n + 200 < 9900; omega, ⟨_, by show A.frames.map _ = _; rw [hl]; rfl⟩⟩, E₀, l, by show A.frames.map _ = _; rw [hl]; rfl, X.gen, X.co, X.blt, X.glob⟩
  refine hs n cf (A.deeper E₀) E₀ F₁ _ _ _ m₀ cm₀ ⟨ok, X.sc, hc, budE, w₂, fr⟩ ρ' o he _ _ fun f F' s' ad' m' cm' x fr' out => ?_
  have stF : Step cx F s F' s' := by
    refine st₁.trans ⟨fun a h => x.sub a h, fun a h => ?_, fun a o e nx => x.keep a o (keep₂ a o e) nx fun hm => ?_, x.os.trans rfl, x.wd⟩
    · rcases x.new a h with q | q | q
      · exact .inl q
      · right
        cases e : s₁.heap.get? a with
        | none => rfl
        | some o => rw [show ({ s₁ with heap := h₂, toks := tk₂ } : Shared).heap.get? a = some o from keep₂ a o e] at q; cases q
      · exact .inr (fresh₀ a q)
    · have := fresh₀ a hm
      rw [e] at this; cases this
  rcases hd with rfl | ⟨rfl, rfl⟩
  · cases out with
    | ret r => exact hR _ F' s' stF r
  · cases out
    exact hR _ F' s' stF .none
theorem calls_ok (ok : CxOk cx) {fns : Nat → Option Fn} (h : ∀ i fn, fns i = some fn → ∃ ε fd body ps, FnIs cx ε i fn fd body ps ∧ SoundSs cx ε body fn.body) : ∀ n, CallOK cx n (callF fns n)
  | 0 => fun f args d e => by unfold callF at e; cases e
  | n + 1 => fun f args d e => by
    unfold callF at e
    split at e
    · cases e
    · rename_i fn hf
      obtain ⟨ε, fd, body, ps, X, hs⟩ := h f fn hf
      obtain ⟨o, g, hfd⟩ := X.obj
      refine ⟨⟨o, fd, g, hfd, X.nx⟩, fun A F s vs bud w q Rs hR => ?_⟩
      split at e
      · cases e
      · rename_i ρ hb
        split at e
        · rename_i ρ' d' he
          cases e
          exact call_fn X hs ok (calls_ok ok h n) hb he (.inl rfl) bud w q hR
        · rename_i ρ' he
          cases e
          exact call_fn X hs ok (calls_ok ok h n) hb he (.inr ⟨rfl, rfl⟩) bud w q hR
        · cases e
end
end Mine
end MpXx
section MpYx
open PySem PySem.Calls PyProof.Rows PySem.Builtin.Str
namespace Mine
set_option genInjectivity false in
structure TabG (cx : XCx) where
  d : Addr
  f : Int → Option Value
  nx : ¬ cx.X d
  hm : cx.h0.MapOf (intKind cx.prog cx.w) d f
  sys : (d == sysModules) = false
  yes : ∀ c : Nat, c < 128 → special.contains c = true → ∃ u, f (c : Int) = some (.str ⟨#[92, c]⟩ u)
  no : ∀ c : Nat, c < 128 → special.contains c = false → f (c : Int) = none
section
variable {cx : XCx} {ε : Sc}
theorem sound_translate (G : TabG cx) {o : Expr} {y : X} {x : Str} {p apos pos : Pos} (hb : plainBase o = true) (hl : (apos.endLine == pos.line) = true) (h : Sound cx ε o y) (hk : ε.kinds.lookup x = some .globalImplicit) (hv : cx.mg x = some (.ref G.d)) (hd : (x == ("__debug__" : Str)) = false) :
    Sound cx ε (.Call (.Attribute o "translate" apos) [.Name x p] [] pos) (.op .translate (.cons y .nil)) := by
  refine Sound.ofE ?_ fun _ => rfl
  intro n cf A env F s ρ ad m cm H res he Q E hQ
  obtain ⟨rs, e1, e2⟩ := ev_op he
  obtain ⟨r0, rs', e3, e4, rfl⟩ := ev_cons e1
  cases ev_nil e4
  refine meth_run hb hl (by simp) rfl ?_
  refine h.ev n cf A env F s ρ ad m cm H r0 e3 _ _ fun v F' s' st q => ?_
  simp only [List.map_cons, List.map_nil] at e2; delta opF at e2; dsimp only at e2
  unfold opTranslate at e2
  split at e2
  · rename_i c ec
    split at e2 <;> cases e2
    rename_i hc
    have qb := q.brep
    have ec' : r0.ds = .str [c] := by
      have := ec
      simpa using this
    rw [ec'] at qb
    obtain ⟨t, rfl, pp, z⟩ := qb.str_inv
    have noref : ∀ a, Value.str ⟨[c].toArray⟩ t = .ref a → ∃ o, s'.heap.get? a = some o ∧ o.dict = none := fun _ e => nomatch e
    with_reducible refine GM.of (.str ⟨[c].toArray⟩ t) (typeIs_str _ _ _) PySem.F.slot_str_translate PySem.F.type_str_translate noref ?_
    have H1 := H.step st
    have hst : starred (.Name x p) = false := rfl
    rw [starEach_plain hst, backTo_plain]
    refine Calls.callWith_builtin rfl (Calls.evalArgs_plain (Calls.spliced_cons (load_global H1 hk hv hd (Calls.spliced_nil ?_))))
    show wpAny _ _ (call (.builtin "str.translate") [.str ⟨#[c]⟩ t, .ref G.d]) _ _ s'
    have hm : s'.heap.MapOf (intKind cx.prog cx.w) G.d G.f := let ⟨o, es, ep, g, r⟩ := G.hm; ⟨o, es, ep, st.wd.base _ _ g G.nx, r⟩
    cases hsp : special.contains c with
    | true =>
      obtain ⟨u, hu⟩ := G.yes c hc hsp
      refine call_meetsIn PySem.F.slot_str_translate (typeIs_str _ _ _) PySem.F.entry_str_translate (PySem.F.args_str_translate_2 _ _) (translate_hit (f := G.f) (x := c) (u := u) hc) ⟨⟨hm, hu⟩, fun k k' => ?_⟩
      rw [if_pos hsp] at hQ
      refine hQ _ F' _ (st.toks k') (.val (.str (l := [92, c]) k (fun c' h => ?_) (by simp [lim])))
      simp only [List.mem_cons, List.not_mem_nil, or_false] at h
      rcases h with rfl | rfl <;> omega
    | false =>
      refine call_meetsIn PySem.F.slot_str_translate (typeIs_str _ _ _) PySem.F.entry_str_translate (PySem.F.args_str_translate_2 _ _) (translate_miss (f := G.f) hc G.sys) ⟨⟨hm, G.no c hc hsp, H.bud.hd⟩, fun h' k k' hk' => ?_⟩
      rw [if_neg (by rw [hsp]; decide)] at hQ
      refine hQ _ F' _ (st.trans (Step.grown H.ok st.wd k' hk')) (.val (.str (l := [c]) k (fun c' h => ?_) (by simp [lim])))
      simp only [List.mem_cons, List.not_mem_nil, or_false] at h
      subst h; omega
  · cases e2
theorem sound_fmt {a b : PySem.Str} {e : Expr} {y : X} {k k' : Nat} {p p' p'' pos : Pos} {la lb : List Nat} (h : Sound cx ε e y) (ha : constD (.str a) = some (.str la)) (hb : constD (.str b) = some (.str lb)) :
    Sound cx ε (.JoinedStr [.Constant (.str a) k p, .FormattedValue e (-1) none p', .Constant (.str b) k' p''] pos) (.op .fmt (.cons (.const (.str la)) (.cons y (.cons (.const (.str lb)) .nil)))) := by
  refine Sound.ofE ?_ fun _ => rfl
  intro n cf A env F s ρ ad m cm H res he Q E hQ
  obtain ⟨rs, e1, e2⟩ := ev_op he
  obtain ⟨r0, rs0, e3, e4, rfl⟩ := ev_cons e1
  obtain ⟨r1, rs1, e5, e6, rfl⟩ := ev_cons e4
  obtain ⟨r2, rs2, e7, e8, rfl⟩ := ev_cons e6
  cases ev_nil e8
  have c0 : r0 = .val (.str la) := by replace e3 := (evq_const _).symm.trans e3; cases e3; rfl
  have c2 : r2 = .val (.str lb) := by replace e7 := (evq_const _).symm.trans e7; cases e7; rfl
  subst c0; subst c2
  simp only [List.map_cons, List.map_nil] at e2; delta opF at e2; dsimp only at e2
  unfold opFmt at e2
  split at e2
  · rename_i l1 l2 l3 eds
    unfold strD at e2
    split at e2 <;> cases e2
    rename_i hz
    have e1' : la = l1 ∧ r1.ds = .str l2 ∧ lb = l3 := by
      have := eds
      simp only [R.ds, List.cons.injEq, D.str.injEq, and_true] at this
      exact this
    obtain ⟨rfl, hr1, rfl⟩ := e1'
    refine wpAny_JoinedStr ?_
    show wpAny _ _ (eval (.Constant (.str a) k p) env) _ E s
    refine (sound_const ha).ev n cf A env F s ρ ad m cm H _ e3 _ _ fun v F1 s1 st1 q1 => ?_
    have q1 := q1.brep
    obtain ⟨t1, rfl, p1, z1⟩ := BRep.str_inv (l := la) q1
    have H1 := H.step st1
    refine ⟨_, _, rfl, ?_, ?_⟩
    · show (Str.empty ++ PySem.Str.mk la.toArray).length ≤ sizeLine
      have : (Str.empty ++ PySem.Str.mk la.toArray).length = la.length := by
        rw [strLen_append]; show 0 + la.toArray.size = _; simp
      rw [this]; exact sz_line z1
    show wpAny _ _ (eval (.FormattedValue e (-1) none p') env) _ E s1
    refine wpAny_FormattedValue_plain ?_
    refine h.ev n cf A env F1 s1 ρ ad m cm H1 r1 e5 _ _ fun v F2 s2 st2 q2 => ?_
    have q2 := q2.brep
    rw [hr1] at q2
    obtain ⟨t2, rfl, p2, z2⟩ := q2.str_inv
    have len1 : (Str.empty ++ PySem.Str.mk la.toArray).length = la.length := by
      rw [strLen_append]; show 0 + la.toArray.size = _; simp
    have len2 : (Str.empty ++ PySem.Str.mk la.toArray ++ PySem.Str.mk l2.toArray).length = la.length + l2.length := by
      rw [strLen_append, len1]; show _ + l2.toArray.size = _; simp
    have hz' : la.length + l2.length + lb.length ≤ lim := by rw [List.length_append, List.length_append] at hz; exact hz
    have rest : ∀ t2' k2, ∃ y t, (Value.str ⟨l2.toArray⟩ t2') = .str y t ∧ (Str.empty ++ PySem.Str.mk la.toArray ++ y).length ≤ sizeLine ∧ Joins (model cx.prog cx.w) A E (evalEach [.Constant (.str b) k' p''] env) (Str.empty ++ PySem.Str.mk la.toArray ++ y) (fun out s₁ => out.length ≤ sizeLine ∧ Q (.str out s₁.toks) { s₁ with toks := s₁.toks + 1 }) { s2 with toks := k2 } := by
      intro t2' k2
      refine ⟨_, _, rfl, by rw [len2]; exact sz_line (by omega), ?_⟩
      show wpAny _ _ (eval (.Constant (.str b) k' p'') env) _ E _
      have H2 := (H1.step st2).step ((Step.refl (H1.step st2).wd).toks k2)
      refine (sound_const hb).ev n cf A env F2 _ ρ ad m cm H2 _ e7 _ _ fun v F3 s3 st3 q3 => ?_
      have q3 := q3.brep
      obtain ⟨t3, rfl, p3, z3⟩ := BRep.str_inv (l := lb) q3
      have len3 : (Str.empty ++ PySem.Str.mk la.toArray ++ PySem.Str.mk l2.toArray ++ PySem.Str.mk lb.toArray).length = la.length + l2.length + lb.length := by
        rw [strLen_append, len2]; show _ + lb.toArray.size = _; simp
      refine ⟨_, _, rfl, by rw [len3]; exact sz_line hz', ?_⟩
      refine ⟨by rw [len3]; exact sz_line hz', ?_⟩
      have e : (Str.empty ++ PySem.Str.mk la.toArray ++ PySem.Str.mk l2.toArray ++ PySem.Str.mk lb.toArray) = PySem.Str.mk (la ++ l2 ++ lb).toArray := by
        show PySem.Str.mk (#[] ++ la.toArray ++ l2.toArray ++ lb.toArray) = _
        simp
      rw [e]
      refine hQ _ F3 _ ((st1.trans ((st2.toks k2).trans st3)).toks _) (.val (.str _ (fun c hc => ?_) (by simpa [List.length_append] using hz)))
      rcases List.mem_append.mp hc with hc | hc
      · rcases List.mem_append.mp hc with hc | hc
        · exact p1 c hc
        · exact p2 c hc
      · exact p3 c hc
    refine wpAny_formatField_str (rest t2 s2.toks) (rest s2.toks (s2.toks + 1)) ?_
    show l2.toArray.size ≤ sizeLine
    rw [List.size_toArray]; exact sz_line z2
  · cases e2
end
end Mine
end MpYx
section MpZ2x
open PySem PySem.Builtin.Str
namespace Mine
open PySem.Builtin PySem.Builtin.Re
section
variable {prog : Program} {w : World} {A A₀ : Around} {E : Value → Shared → Prop} {s : Shared} {P C : Addr} {codes : Array Value} {a : Array Nat} {u : Tok}
theorem sum_le : ∀ (ps : List (PySem.Str × Tok)), (∀ p ∈ ps, p.1.cps.size ≤ 1000) → (ps.map fun x => x.1.cps.size).sum ≤ ps.length * 1000
  | [], _ => Nat.le_refl _
  | p :: r, h => by
    have h1 := h p List.mem_cons_self
    have h2 := sum_le r fun q hq => h q (List.mem_cons_of_mem _ hq)
    simp only [List.map_cons, List.sum_cons, List.length_cons]
    omega
theorem isList_of' {h : Heap} {a : Addr} {vs : Array Value} {n : Nat} (g : h.get? a = some (lobj vs n)) : h.IsList a vs := ⟨_, g, rfl, n, rfl⟩
theorem loop_none {R : Result → Shared → Prop} (hp : PatAt s.heap P C codes) {repl : Value} {n done start : Nat} {must : Bool} {pc : Addr} {ps : List (PySem.Str × Tok)} {kk : Nat} (hl : s.heap.get? pc = some (lobj (strValues ps).toArray kk))
    (hf : ∃ k, k < 100 ∧ ((Sre.forSearch reCode a 1 start a.size must).runFor (4 * (k + 1))).outcome = some .failed) (hz : ps.length ≤ 1000) (ha : a.size ≤ 1000) (hps : ∀ p ∈ ps, p.1.cps.size ≤ 100)
    {res : PySem.Str} (hres : Txt.join Str.empty (ps.map (·.1) ++ (if done < a.size then [⟨a.extract done a.size⟩] else [])) = res)
    (h : ∀ h' tk t, Heap.SameBut pc s.heap h' → R (.ok (.ret (.str res t))) { s with heap := h', toks := tk }) :
    wpAny (model prog w) A (Builtin.«re.Pattern.sub.loop» ⟨[.ref P, .str ⟨a⟩ u, repl, rawInt 1, rawInt 0, rawInt n, rawInt done, rawInt start, .bool must, .ref pc, .bool false], []⟩) (fun fin s' => match fin with | .done f => R (.ok f) s' | .again c' => c'.quiet = true ∧ codeAny (model prog w) A₀ c' R s') E s := by
  obtain ⟨k, hk, ho⟩ := hf
  unfold Builtin.«re.Pattern.sub.loop»
  refine wpAny_bind (whole_ok hp ?_)
  show wpAny _ _ (reNextFound _ start must >>= _) _ _ _
  unfold reNextFound
  refine wpAny_bind (end_failed k hk ho ?_)
  have jn : ∀ (ps' : List (PySem.Str × Tok)) (k' : Nat) (s' : Shared), s'.heap.get? pc = some (lobj (strValues ps').toArray k') → ps'.length ≤ 1001 → (∀ p ∈ ps', p.1.cps.size ≤ 1000) → Txt.join Str.empty (ps'.map (·.1)) = res → (∀ tk t, R (.ok (.ret (.str res t))) { s' with toks := tk }) →
      wpAny (model prog w) A (do
        let joiner ← reSlice a 0 0 0
        let text ← if ((← seqItems? (.ref pc)).getD #[]).isEmpty then pure joiner
          else call (.builtin (if (0 : Nat) == 0 then "str.join" else "bytes.join")) [joiner, .ref pc]
        if false then ret (← holding [text] do newTuple [text, ← mkInt (n : Int)]) else ret text) (fun fin s' => match fin with | .done f => R (.ok f) s' | .again c' => c'.quiet = true ∧ codeAny (model prog w) A₀ c' R s') E s' := by
    intro ps' k' s' g hz' hsz' hr hR
    have e0 : (PySem.Str.mk (a.extract 0 0)) = Str.empty := by simp [Str.empty]
    unfold reSlice
    simp only [beq_self_eq_true, if_true]
    rw [e0]
    refine wpAny_bind (wpAny_mkStr ?_ (by decide))
    refine wpAny_bind (wpAny_bind (wpAny_load g (wpAny_pure ?_)))
    cases ps' with
    | nil =>
      have hr' : res = Str.empty := by rw [← hr]; rfl
      rw [hr'] at hR
      exact wpAny_pure (hR _ _)
    | cons p r =>
      rw [if_neg (by simp [strValues])]
      refine wpAny_bind (SC.join (l := p :: r) (texts := (p :: r).map (·.1)) (isList_of' g) rfl ?_ fun t' k2 => ?_)
      · unfold JoinOk tooLong
        rw [joinSize, Nat.zero_add]
        have hb := sum_le (p :: r) hsz'
        have hs : ((List.map (fun x => x.1) (p :: r)).map fun x => x.length + Str.empty.length).sum = ((p :: r).map fun x => x.1.cps.size).sum := by
          rw [List.map_map]; rfl
        rw [hs]
        simp only [Bool.not_eq_true', decide_eq_false_iff_not]
        rw [sizeLine_eq]
        have : (p :: r).length * 1000 ≤ 1001 * 1000 := Nat.mul_le_mul_right _ hz'
        omega
      · rw [hr]
        exact wpAny_pure (hR _ _)
  by_cases hd : done < a.size
  · rw [if_pos hd] at hres
    show wpAny _ _ (do
      if (done : Int).toNat < a.size then updateSeq pc (·.push (← reSlice a 0 (done : Int).toNat a.size))
      let joiner ← reSlice a 0 0 0
      let text ← if ((← seqItems? (.ref pc)).getD #[]).isEmpty then pure joiner
        else call (.builtin (if (0 : Nat) == 0 then "str.join" else "bytes.join")) [joiner, .ref pc]
      if false then ret (← holding [text] do newTuple [text, ← mkInt (n : Int)]) else ret text) _ _ _
    rw [if_pos (by simpa using hd)]
    have e1 : (done : Int).toNat = done := Int.toNat_natCast done
    rw [e1]
    unfold reSlice
    simp only [beq_self_eq_true, if_true]
    have hsz : (PySem.Str.mk (a.extract done a.size)).cps.size ≤ 1000 := by show (a.extract done a.size).size ≤ 1000; rw [Array.size_extract]; omega
    refine wpAny_bind (wpAny_mkStr ?_ (by show (a.extract done a.size).size ≤ _; have := hsz; rw [sizeLine_eq]; exact Nat.le_trans hsz (by decide)))
    have hlp : (strValues ps).toArray.size ≤ sizeLine := by rw [List.size_toArray]; unfold strValues; rw [List.length_map, sizeLine_eq]; omega
    refine wpAny_bind (wpAny_updateSeq (o := lobj (strValues ps).toArray kk) hl rfl ?_ hlp (by rw [Array.size_push]; omega))
    have e2 : (strValues ps).toArray.push (.str ⟨a.extract done a.size⟩ s.toks) = (strValues (ps ++ [(⟨a.extract done a.size⟩, s.toks)])).toArray := by
      unfold strValues; simp
    have g' := IsL.update (n := kk) (items := (strValues ps).toArray) (show IsL s.heap pc (strValues ps).toArray kk from hl) fun x => x.push (.str ⟨a.extract done a.size⟩ s.toks)
    simp only [e2] at g'
    have := jn (ps ++ [(⟨a.extract done a.size⟩, s.toks)]) _ { s with heap := s.heap.update pc (Obj.mapSeq fun x => x.push (.str ⟨a.extract done a.size⟩ s.toks)), toks := s.toks + 1 } g' (by simp; omega) (fun p hp => ?_) (by rw [List.map_append]; exact hres) (fun tk t => h _ _ _ (Heap.SameBut.update ..))
    · unfold reSlice at this
      exact this
    · rcases List.mem_append.mp hp with hp | hp
      · exact Nat.le_trans (hps p hp) (by decide)
      · simp only [List.mem_cons, List.not_mem_nil, or_false] at hp
        subst hp
        exact hsz
  · rw [if_neg hd, List.append_nil] at hres
    show wpAny _ _ (do
      if (done : Int).toNat < a.size then updateSeq pc (·.push (← reSlice a 0 (done : Int).toNat a.size))
      let joiner ← reSlice a 0 0 0
      let text ← if ((← seqItems? (.ref pc)).getD #[]).isEmpty then pure joiner
        else call (.builtin (if (0 : Nat) == 0 then "str.join" else "bytes.join")) [joiner, .ref pc]
      if false then ret (← holding [text] do newTuple [text, ← mkInt (n : Int)]) else ret text) _ _ _
    rw [if_neg (by simpa using hd)]
    exact jn ps kk s hl (by omega) (fun p hp => Nat.le_trans (hps p hp) (by decide)) hres (fun tk t => h s.heap tk t (Heap.SameBut.refl ..))
end
end Mine
end MpZ2x
section MpZ3x
open PySem PySem.Builtin.Str
namespace Mine
open PySem.Builtin PySem.Builtin.Re
noncomputable abbrev matchObj (a : Array Nat) (u : Tok) (P : Addr) (lim : Nat) (li : Int) (ta : Addr) : Obj := { cls := .type "re.Match", data := .fields #[.str ⟨a⟩ u, .ref P, rawInt 0, rawInt lim, rawInt li, .ref ta] }
section
variable {prog : Program} {w : World} {A A₀ : Around} {E : Value → Shared → Prop} {s : Shared} {P C : Addr} {codes : Array Value} {a : Array Nat} {u : Tok}
theorem newMatch_ok {m : Sre.M} {lm b e : Nat} (h3 : m.marks.getD 0 none = some b) (h4 : m.marks.getD 1 none = some e) (h5 : (1 : Int) ≤ m.lastmark) (h6 : b ≤ e) {Q : Value → Shared → Prop}
    (h : Q (.ref (s.heap.objs.size + 1)) { s with heap := (s.heap.push (tobj #[rawInt m.start, rawInt m.handed, rawInt b, rawInt e] 0)).push (matchObj a u P lm m.lastindex s.heap.objs.size) }) :
    wpAny (model prog w) A (reNewMatch (.ref P) (.str ⟨a⟩ u) 1 0 lm m) Q E s := by
  unfold reNewMatch
  have h5' : ((1 : Nat) : Int) ≤ m.lastmark := by simpa using h5
  have h6' : decide (e < b) = false := by simpa using h6
  simp only [show List.range 1 = [0] from rfl, List.flatMap_cons, List.flatMap_nil, List.append_nil, List.any_cons, List.any_nil, Bool.or_false, Nat.mul_zero, Nat.zero_add, h3, h4, if_pos h5', h6', Bool.and_false, Bool.false_eq_true, if_false]
  refine wpAny_bind (wpAny_newTuple ?_ (by rw [sizeLine_eq]; simp))
  refine wpAny_newObj_type ?_ (by size_fits)
  rw [Heap.size_push]
  exact h
theorem loop_some {R : Result → Shared → Prop} (hp : PatAt s.heap P C codes) {repl : Value} {n done start : Nat} {must : Bool} {pc : Addr} {ps : List (PySem.Str × Tok)} {kk : Nat} (hl : s.heap.get? pc = some (lobj (strValues ps).toArray kk))
    {m : Sre.M} {k : Nat} (hk : k < 100) (hm : (Sre.forSearch reCode a 1 start a.size must).runFor (4 * (k + 1)) = m) (ho : m.outcome = some .matched) (hz : ps.length ≤ 1000)
    {hd' b e : Nat} (h1 : m.start = done) (h2 : m.handed = hd') (h3 : m.marks.getD 0 none = some b) (h4 : m.marks.getD 1 none = some e) (h5 : (1 : Int) ≤ m.lastmark) (h6 : b ≤ e)
    {res : PySem.Str}
    (hcall : ∀ (s' : Shared) (fa ta : Addr) (Q : Value → Shared → Prop), (∀ b o, s.heap.get? b = some o → s'.heap.get? b = some o) → s'.heap.get? fa = some (matchObj a u P a.size m.lastindex ta) → s'.heap.get? ta = some (tobj #[rawInt m.start, rawInt hd', rawInt b, rawInt e] 0) → s'.gens = s.gens → s'.drawn = s.drawn → s'.os = s.os →
      (∀ h'' tk t, (∀ b o, s'.heap.get? b = some o → h''.get? b = some o) → Q (.str res t) { s' with heap := h'', toks := tk }) → wpAny (model prog w) A (call repl [.ref fa]) Q E s')
    (h : ∀ h' tk t, (∀ b o, b ≠ pc → s.heap.get? b = some o → h'.get? b = some o) → (∃ k', h'.get? pc = some (lobj (strValues (ps ++ [(res, t)])).toArray k')) →
      codeAny (model prog w) A₀ (.builtin "re.Pattern.sub.loop" ⟨[.ref P, .str ⟨a⟩ u, repl, rawInt 1, rawInt 0, rawInt ((n : Int) + 1), rawInt hd', rawInt hd', .bool (hd' == done), .ref pc, .bool false], []⟩) R { s with heap := h', toks := tk }) :
    wpAny (model prog w) A (Builtin.«re.Pattern.sub.loop» ⟨[.ref P, .str ⟨a⟩ u, repl, rawInt 1, rawInt 0, rawInt n, rawInt done, rawInt start, .bool must, .ref pc, .bool false], []⟩) (fun fin s' => match fin with | .done f => R (.ok f) s' | .again c' => c'.quiet = true ∧ codeAny (model prog w) A₀ c' R s') E s := by
  unfold Builtin.«re.Pattern.sub.loop»
  refine wpAny_bind (whole_ok hp ?_)
  show wpAny _ _ (reNextFound _ start must >>= _) _ _ _
  unfold reNextFound
  refine wpAny_bind (end_matched k hk (by rw [hm]; exact ho) ?_)
  rw [hm]
  dsimp only
  rw [h1]
  rw [if_neg (by rw [Int.toNat_natCast]; exact Nat.lt_irrefl _), if_neg (by decide)]
  refine wpAny_bind (newMatch_ok h3 h4 h5 h6 ?_)
  rw [if_pos (by decide)]
  let h1' : Heap := s.heap.push (tobj #[rawInt m.start, rawInt m.handed, rawInt b, rawInt e] 0)
  let h2' : Heap := h1'.push (matchObj a u P a.size m.lastindex s.heap.objs.size)
  have hs1 : h1'.objs.size = s.heap.objs.size + 1 := Heap.size_push ..
  have k1 : ∀ b o, s.heap.get? b = some o → h2'.get? b = some o := fun b o e => Heap.get?_push_of_some _ (Heap.get?_push_of_some _ e)
  have g1 : h2'.get? (s.heap.objs.size + 1) = some (matchObj a u P a.size m.lastindex s.heap.objs.size) := by
    rw [← hs1]; exact Heap.get?_push_size _ rfl
  have g2 : h2'.get? s.heap.objs.size = some (tobj #[rawInt m.start, rawInt hd', rawInt b, rawInt e] 0) := by
    rw [← h2]; exact Heap.get?_push_of_some _ (Heap.get?_push_size _ rfl)
  refine wpAny_bind (wpAny_holding (hcall { s with heap := h2' } (s.heap.objs.size + 1) s.heap.objs.size _ k1 g1 g2 rfl rfl rfl fun h'' tk t hk'' => ?_))
  rw [if_pos (by rfl)]
  have hl2 : h''.get? pc = some (lobj (strValues ps).toArray kk) := hk'' _ _ (k1 _ _ hl)
  have hlp : (strValues ps).toArray.size ≤ sizeLine := by rw [List.size_toArray]; unfold strValues; rw [List.length_map, sizeLine_eq]; omega
  refine wpAny_bind (wpAny_updateSeq (o := lobj (strValues ps).toArray kk) hl2 rfl ?_ hlp (by rw [Array.size_push]; omega))
  have e2 : (strValues ps).toArray.push (.str res t) = (strValues (ps ++ [(res, t)])).toArray := by
    unfold strValues; simp
  have g' := IsL.update (n := kk) (items := (strValues ps).toArray) (show IsL h'' pc (strValues ps).toArray kk from hl2) fun x => x.push (.str res t)
  simp only [e2] at g'
  refine wpAny_pure ⟨plainId_quiet plain_sub_loop _, ?_⟩
  rw [h2]
  refine h (h''.update pc (Obj.mapSeq fun x => x.push (.str res t))) tk t (fun b o hb e => ?_) ⟨_, g'⟩
  exact (Heap.get?_update_other _ _ (Ne.symm hb)).trans (hk'' _ _ (k1 _ _ e))
end
end Mine
end MpZ3x
section MpZ4x
open PySem PySem.Builtin.Str
namespace Mine
open PySem.Builtin PySem.Builtin.Re
theorem fn_call : ∃ v, typeLookup (.type "function") "__call__" = pure (some v) := ⟨.builtin "function.__call__", by rw [typeLookup_type, builtinLookup_eq_fast]; kernel_rfl⟩
theorem str_not_bytearray : isSubtype (.type "str") (.type "bytearray") = pure false := by rw [isSubtype_type]; kernel_rfl
section
variable {prog : Program} {w : World} {A A₀ : Around} {E : Value → Shared → Prop} {s : Shared} {P C : Addr} {codes : Array Value} {a : Array Nat} {u : Tok}
theorem sub_start {R : Result → Shared → Prop} (hp : PatAt s.heap P C codes) {lam : Addr} {ol : Obj} (hl : s.heap.get? lam = some ol) (hc : ol.cls = .type "function")
    (h : codeAny (model prog w) A₀ (.builtin "re.Pattern.sub.loop" ⟨[.ref P, .str ⟨a⟩ u, .ref lam, rawInt 1, rawInt 0, rawInt 0, rawInt 0, rawInt 0, .bool false, .ref s.heap.objs.size, .bool false], []⟩) R { s with heap := s.heap.push (lobj #[] 0) }) :
    wpAny (model prog w) A (Builtin.«re.Pattern.sub» ⟨[.ref P, .ref lam, .str ⟨a⟩ u], []⟩) (fun fin s' => match fin with | .done f => R (.ok f) s' | .again c' => c'.quiet = true ∧ codeAny (model prog w) A₀ c' R s') E s := by
  obtain ⟨hh, g, d, tk, os⟩ := s
  have hT : (⟨hh, g, d, tk, os⟩ : Shared).TypeIs (.ref lam) "function" := ⟨ol, hl, hc⟩
  obtain ⟨cv, f1⟩ := fn_call
  have f2 := str_not_bytearray
  unfold Builtin.«re.Pattern.sub» reSubstitute
  repeat (any_goals (first | assumption | ((with_reducible show wpAny _ _ (reWholeTarget _ _) _ _ _); refine whole_ok hp ?_) | wp_step))
  exact ⟨plainId_quiet plain_sub_loop _, h⟩
theorem group_ok {fa ta : Addr} {lm st hd b e : Nat} {li : Int} {t : Tok} {c : Nat} (hx : a.extract b e = #[c]) :
    Meets (Builtin.«re.Match.group» ⟨[.ref fa, .int 1 t], []⟩) (fun _ R s => (s.heap.get? fa = some (matchObj a u P lm li ta) ∧ s.heap.get? ta = some (tobj #[rawInt st, rawInt hd, rawInt b, rawInt e] 0)) ∧ ∀ k k', R (.ok (.ret (.str ⟨#[c]⟩ k))) { s with toks := k' }) :=
  .of_wp fun prog w A R s hs => by
    obtain ⟨hh, g, d, tk, os⟩ := s
    obtain ⟨⟨h1, h2⟩, h⟩ := hs
    unfold Builtin.«re.Match.group»
    repeat (any_goals (first | assumption | wp_step))
    have sp : Array.map reRawOf ((some #[rawInt (st : Int), rawInt (hd : Int), rawInt (b : Int), rawInt (e : Int)]).getD #[]) = #[(st : Int), (hd : Int), (b : Int), (e : Int)] := by
      simp [reRawOf, rawInt]
    rw [sp]
    rw [if_neg (by
      show ¬ (decide ((b : Int) < 0) || decide ((e : Int) < 0)) = true
      have h1 : ¬ (b : Int) < 0 := by omega
      have h2 : ¬ (e : Int) < 0 := by omega
      simp [h1, h2])]
    show wpAny _ _ (reTextOf (.str ⟨a⟩ u) >>= fun x => reSlice x.1 x.2 (b : Int).toNat (e : Int).toNat) _ _ _
    unfold reTextOf
    repeat (any_goals (first | assumption | wp_step))
    simp only [Int.toNat_natCast, hx]
    rw [if_neg (by show ¬ (1 > sizeLine); rw [sizeLine_eq]; decide)]
    repeat (any_goals (first | assumption | wp_step))
    exact ⟨_, rfl, h _ _⟩
end
end Mine
end MpZ4x
section MpZ5x
open PySem PySem.Builtin.Str PySem.W PySem.Calls PyProof.Rows
namespace Mine
noncomputable def TabXF (c Pt : Addr) (qs : List (Pos × PySem.Str)) (F : Addr → Prop) (h : Heap) : Prop :=
  F c ∧ CodeHd h c Pt ∧ ∃ ps, h.get? Pt = some (tabObj ps) ∧ TriplesOk ps.toList ∧ ∀ pos q, (pos, q) ∈ qs → ∀ cv, codeAmong pos ps.toList = some cv → ∃ c', cv = .ref c' ∧ F c' ∧ h.CodeRec (.ref c') q
theorem TabXF.mono {c Pt : Addr} {qs : List (Pos × PySem.Str)} {F F' : Addr → Prop} {h h' : Heap} (x : TabXF c Pt qs F h) (hF : ∀ a, F a → F' a) (hk : ∀ a o, F a ∨ a = Pt → h.get? a = some o → h'.get? a = some o) : TabXF c Pt qs F' h' := by
  obtain ⟨fc, ⟨o, vs, file, tf, flags, tg, inF, text, tt, e, r⟩, ps, g, ht, hq⟩ := x
  refine ⟨hF _ fc, ⟨o, vs, file, tf, flags, tg, inF, text, tt, hk _ _ (.inl fc) e, r⟩, ps, hk _ _ (.inr rfl) g, ht, fun pos q hm cv hc => ?_⟩
  obtain ⟨c', e', f', rec⟩ := hq pos q hm cv hc
  exact ⟨c', e', hF _ f', rec.at fun o e => hk _ o (.inl f') e⟩
theorem among_snoc_other {pos p2 : Pos} {c : Value} : ∀ {l : List Value}, TriplesOk l → (pos.line ≠ p2.line ∨ pos.col ≠ p2.col) → codeAmong pos (l ++ [rawInt p2.line, rawInt p2.col, c]) = codeAmong pos l
  | l, h, hne => by
    fun_induction TriplesOk l with
    | case1 =>
      simp only [List.nil_append, codeAmong, rawInt]
      rw [if_neg]
      intro hh
      simp only [Bool.and_eq_true, beq_iff_eq] at hh
      omega
    | case2 a t b u x rest ih =>
      simp only [List.cons_append, codeAmong]
      split
      · rfl
      · exact ih h
    | case3 l h1 h2 => exact h.elim
set_option genInjectivity false in
structure LamG (cx : XCx) where
  c : Addr
  Pt : Addr
  qs : List (Pos × PySem.Str)
  xf : cx.XF = TabXF c Pt qs
  xp : ∀ a, cx.X a ↔ a = Pt
  apart : qs.Pairwise fun a b => a.1.line ≠ b.1.line ∨ a.1.col ≠ b.1.col
  blt : cx.h0.BuiltinsAt cx.mg Pt
section
variable {cx : XCx} {ε : Sc}
theorem table_apart {qs : List (Pos × PySem.Str)} (ap : qs.Pairwise fun a b => a.1.line ≠ b.1.line ∨ a.1.col ≠ b.1.col) {p1 p2 : Pos} {q1 q2 : PySem.Str} (h1 : (p1, q1) ∈ qs) (h2 : (p2, q2) ∈ qs) : (p1 = p2 ∧ q1 = q2) ∨ p1.line ≠ p2.line ∨ p1.col ≠ p2.col := by
  induction qs with
  | nil => cases h1
  | cons x r ih =>
    obtain ⟨a1, a2⟩ := List.pairwise_cons.mp ap
    rcases List.mem_cons.mp h1 with e1 | h1
    · rcases List.mem_cons.mp h2 with e2 | h2
      · rw [← e1] at e2; cases e2; exact .inl ⟨rfl, rfl⟩
      · have := a1 _ h2; rw [← e1] at this; exact .inr this
    · rcases List.mem_cons.mp h2 with e2 | h2
      · have := a1 _ h1; rw [← e2] at this; exact .inr (this.imp Ne.symm Ne.symm)
      · exact ih a2 h1 h2
theorem lam_make (G : LamG cx) {n cf A env F s ρ ad m cm} (H : Here cx ε n cf A env F s ρ ad m cm) {qual : PySem.Str} (hcode : ε.code = some (G.c, qual)) {params : Arguments} {body : Expr} {scope : Scope} {pos : Pos} (hdef : defaultsOf params env = ([], []))
    (hq : (pos, qual ++ "<lambda>") ∈ G.qs) (hcl : closureFor scope env = pure []) {Q : Value → Shared → Prop} {E : Value → Shared → Prop}
    (hQ : ∀ F' s' lam c' ctv, Step cx F s F' s' → s.heap.get? lam = none → ¬ F' lam → s'.heap.get? lam = some (kla_obj "<lambda>" (qual ++ "<lambda>") params body scope [] ((cx.mg "__name__").getD .none) c' ctv) → F' c' → s'.heap.CodeRec (.ref c') (qual ++ "<lambda>") → Q (.ref lam) s') :
    wpAny (model cx.prog cx.w) A (eval (.Lambda params body scope pos) env) Q E s := by
  obtain ⟨hc, hqual⟩ := H.env.code _ _ hcode
  refine kla_eval hdef ?_
  rw [hqual]
  have hx : TabXF G.c G.Pt G.qs F s.heap := by have := H.wd.xi; rw [G.xf] at this; exact this
  obtain ⟨fc, hd, ps, g, ht, hqs⟩ := hx
  have hg := H.wd.glob H.ok
  have nP : ∀ {a o}, cx.h0.get? a = some o → a ≠ G.Pt → s.heap.get? a = some o := fun e h => H.wd.base _ _ e fun hx => h ((G.xp _).mp hx)
  have hgP : mainGlobals ≠ G.Pt := fun e => H.ok.gx ((G.xp _).mpr e)
  have hblt : s.heap.BuiltinsAt cx.mg G.Pt := by
    obtain ⟨bm, o, b1, b2, b3, b4, b5, r⟩ := G.blt
    exact ⟨bm, o, b1, b2, b3, b4, nP b5 b4, r⟩
  cases hca : codeAmong pos ps.toList with
  | none =>
    refine kla_makeFunction hcl H.env.glob hg hc hd g ht hca hgP hblt fun c' ctv h' tk hx hge hlt hrec htb => ?_
    have hXP : cx.X G.Pt := (G.xp _).mpr rfl
    have fP : ¬ F G.Pt := fun h => H.wd.nx _ h hXP
    have keep : ∀ a o, s.heap.get? a = some o → ¬ cx.X a → h'.get? a = some o := fun a o e nx => hx a o (fun e => nx ((G.xp _).mpr e)) e
    have frc : s.heap.get? c' = none := by
      cases e : s.heap.get? c' with
      | none => rfl
      | some o => exact absurd (Heap.lt_size e) (Nat.not_lt.mpr hge)
    have ndC : ¬ cx.X c' := H.wd.newNotX frc
    obtain ⟨c2, oc, vs, t, e2, goc, r⟩ := hrec
    cases e2
    let h3 : Heap := h'.push (kla_obj "<lambda>" (qual ++ "<lambda>") params body scope [] ((cx.mg "__name__").getD .none) c' ctv)
    have up : ∀ a o, h'.get? a = some o → h3.get? a = some o := fun a o e => Heap.get?_push_of_some _ e
    have frl : s.heap.get? h'.objs.size = none := by
      cases e : s.heap.get? h'.objs.size with
      | none => rfl
      | some o => exact absurd (Nat.lt_of_lt_of_le (Heap.lt_size e) (Nat.le_trans hge (Nat.le_of_lt hlt))) (Nat.lt_irrefl _)
    have rec3 : h3.CodeRec (.ref c') (qual ++ "<lambda>") := ⟨c', oc, vs, t, rfl, up _ _ goc, r⟩
    have st : Step cx F s (fun a => F a ∨ a = c') { s with heap := h3, toks := tk } := by
      refine ⟨fun _ h => .inl h, fun a h => h.imp (fun h => h) (fun (e : a = c') => by rw [e]; exact frc), fun a o e nx => up _ _ (keep a o e nx), rfl, ⟨fun a o e nx => up _ _ (keep a o (H.wd.base a o e nx) nx), ?_, H.wd.gens, fun a o e nx => .inl (H.wd.f0 a o e nx), fun a h => ?_, fun a h => h.elim (H.wd.nx a) (fun (e : a = c') => by rw [e]; exact ndC), fun a h => ?_⟩⟩
      · rw [G.xf]
        refine ⟨.inl fc, ?_, _, up _ _ htb, ?_, fun p q hm cv hcv => ?_⟩
        · obtain ⟨o, vs, file, tf, flags, tg, inF, text, tt, e, r⟩ := hd
          exact ⟨o, vs, file, tf, flags, tg, inF, text, tt, up _ _ (keep _ _ e (H.wd.nx _ fc)), r⟩
        · have := TriplesOk_snoc pos.line pos.col (.ref c') ps.toList ht
          simpa using this
        · have ea : (ps ++ #[rawInt pos.line, rawInt pos.col, .ref c']).toList = ps.toList ++ [rawInt pos.line, rawInt pos.col, .ref c'] := by simp
          rw [ea] at hcv
          rcases table_apart G.apart hm hq with ⟨rfl, rfl⟩ | hne
          · rw [codeAmong_snoc _ ht hca] at hcv
            cases hcv
            exact ⟨c', rfl, .inr rfl, rec3⟩
          · rw [among_snoc_other ht hne] at hcv
            obtain ⟨c4, e4, f4, r4⟩ := hqs p q hm cv hcv
            exact ⟨c4, e4, .inl f4, r4.at fun o e => up _ _ (keep _ _ e (H.wd.nx _ f4))⟩
      · rcases h with h | h
        · obtain ⟨o, e⟩ := H.wd.lt a h
          exact ⟨o, up _ _ (keep a o e (H.wd.nx a h))⟩
        · subst h; exact ⟨oc, up _ _ goc⟩
      · rw [(G.xp a).mp h]; exact ⟨_, up _ _ htb⟩
    refine hQ _ _ _ c' ctv st frl (fun h => ?_) (Heap.get?_push_size _ rfl) (.inr rfl) rec3
    rcases h with h | h
    · obtain ⟨o, e⟩ := H.wd.lt _ h
      rw [frl] at e; cases e
    · rw [← h] at hlt; exact absurd hlt (Nat.lt_irrefl _)
  | some cv =>
    obtain ⟨c', rfl, fc', rec⟩ := hqs pos _ hq cv hca
    refine kla_makeFunctionHit hcl H.env.glob hg hc hd g ht hca hblt fun ctv h' tk hk hsz => ?_
    have up : ∀ a o, s.heap.get? a = some o → (h'.push (kla_obj "<lambda>" (qual ++ "<lambda>") params body scope [] ((cx.mg "__name__").getD .none) c' ctv)).get? a = some o := fun a o e => Heap.get?_push_of_some _ (hk a o e)
    have frl : s.heap.get? h'.objs.size = none := by
      cases e : s.heap.get? h'.objs.size with
      | none => rfl
      | some o => exact absurd (Nat.lt_of_lt_of_le (Heap.lt_size e) hsz) (Nat.lt_irrefl _)
    refine hQ F _ _ c' ctv (Step.grown H.ok H.wd tk up) frl (H.wd.newNotF frl) (Heap.get?_push_size _ rfl) fc' (rec.at fun o e => up _ _ e)
end
end Mine
end MpZ5x
section MpZ6x
open PySem PySem.Builtin.Str PySem.W PySem.Calls PyProof.Rows
namespace Mine
section
variable {cx : XCx} {A : Around} {E : Value → Shared → Prop} {s : Shared} {Pa : Addr} {a : Array Nat} {u : Tok}
noncomputable def lamBody (k1 k2 k3 : Nat) (p1 p2 p3 p4 p5 p6 p7 p8 : Pos) : Expr :=
  .BinOp (.Constant (.str "\\") k1 p1) .Add (.BoolOp .Or [.Call (.Attribute (.Name "_m" p2) "group" p3) [.Constant (.int 1) k2 p4] [] p5, .Constant (.str "") k3 p6] p7) p8
theorem lam_body {env : Env} {m : Str → Option Value} {fa ta : Addr} {lm st hd b e : Nat} {li : Int} {c : Nat} (hx : a.extract b e = #[c]) (hk : env.scope.kind = .function) (hl : env.kindOf "_m" = some .local) (hn : s.heap.Ns env.locals m) (hm : m "_m" = some (.ref fa))
    (g1 : s.heap.get? fa = some (matchObj a u Pa lm li ta)) (g2 : s.heap.get? ta = some (tobj #[rawInt st, rawInt hd, rawInt b, rawInt e] 0))
    {k1 k2 k3 : Nat} {p1 p2 p3 p4 p5 p6 p7 p8 : Pos} (hp : (p3.endLine == p5.line) = true) {Q : Value → Shared → Prop} (h : ∀ t k, Q (.str ⟨#[92, c]⟩ t) { s with toks := k }) :
    wpAny (model cx.prog cx.w) A (eval (lamBody k1 k2 k3 p1 p2 p3 p4 p5 p6 p7 p8) env) Q E s := by
  unfold lamBody
  refine wpAny_BinOp ?_
  refine Calls.Constant_str ?_
  refine wpAny_Or2 (meth_run rfl hp (by simp) rfl ?_)
  refine wpAny_Name (wpAny_loadName_local hk hl hn hm ?_) (by decide)
  refine getMethod_builtin (T := "re.Match") ⟨_, g1, rfl⟩ plainAttrs_match slot_match_group type_match_group (fun a e => ⟨_, by cases e; exact g1, rfl⟩) ?_
  have hst : starred (.Constant (.int 1) k2 p4) = false := rfl
  rw [starEach_plain hst, backTo_plain]
  refine Calls.callWith_builtin rfl (Calls.evalArgs_plain (Calls.spliced_cons (wpAny_Constant_int (Calls.spliced_nil ?_))))
  show wpAny _ _ (call (.builtin "re.Match.group") [.ref fa, .int 1 _]) _ _ _
  refine call_meets slot_match_group ⟨_, g1, rfl⟩ entry_match_group (args_match_group_2 _ _) (group_ok hx) ⟨⟨g1, g2⟩, fun t k => ?_⟩
  refine P.truthy_str (by show ¬ ((1 : Nat) : Int) ≥ 2 ^ 63; decide) ?_
  rw [if_pos (by rfl)]
  refine PyProof.Rows.add_str (fun t' tk => ?_) (by show 1 + 1 ≤ sizeLine; rw [sizeLine_eq]; decide)
  exact h t' tk
end
end Mine
end MpZ6x
section MpZ7x
open PySem PySem.Builtin.Str PySem.W PySem.Calls PyProof.Rows
namespace Mine
noncomputable def lamParams (p : Pos) : Arguments := { posonlyargs := [], args := [{ arg := "_m", annotation := none, pos := p }], vararg := none, kwonlyargs := [], kw_defaults := [], kwarg := none, defaults := [] }
noncomputable def lamScope : Scope := { kind := .function, names := [("_m", .local)], isGenerator := false, isCoroutine := false }
section
variable {cx : XCx} {A : Around} {E : Value → Shared → Prop} {s : Shared} {Pa : Addr} {a : Array Nat} {u : Tok}
theorem lam_call {lam fa ta c' : Addr} {q : PySem.Str} {pm ctv : Value} {lm st hd b e : Nat} {li : Int} {c : Nat} (hx : a.extract b e = #[c]) {p0 : Pos} {k1 k2 k3 : Nat} {p1 p2 p3 p4 p5 p6 p7 p8 : Pos} (hp : (p3.endLine == p5.line) = true)
    (hroom : A.depth < recursionLimit) (hlim : s.heap.NoLimit)
    (ho : s.heap.get? lam = some (kla_obj "<lambda>" q (lamParams p0) (lamBody k1 k2 k3 p1 p2 p3 p4 p5 p6 p7 p8) lamScope [] pm c' ctv)) (hrec : s.heap.CodeRec (.ref c') q)
    (g1 : s.heap.get? fa = some (matchObj a u Pa lm li ta)) (g2 : s.heap.get? ta = some (tobj #[rawInt st, rawInt hd, rawInt b, rawInt e] 0)) {Q : Value → Shared → Prop}
    (h : ∀ h'' tk t, (∀ b o, s.heap.get? b = some o → h''.get? b = some o) → Q (.str ⟨#[92, c]⟩ t) { s with heap := h'', toks := tk }) : wpAny (model cx.prog cx.w) A (call (.ref lam) [.ref fa]) Q E s := by
  refine wpAny_call (kla_callFunE hroom ho rfl rfl rfl rfl hrec ?_)
  have hb : bindArgs (kla_fn "<lambda>" q (lamParams p0) (lamBody k1 k2 k3 p1 p2 p3 p4 p5 p6 p7 p8) lamScope [] pm (.ref c') ctv) ⟨[.ref fa], []⟩ = pure [(("_m" : PySem.Str), Value.ref fa)] := by rfl
  rw [hb]
  refine wpAny_pure (wpAny_newFunctionEnv (by intro y hy; simp [lamScope] at hy; subst hy; decide) (by intro y hy; simp at hy; subst hy; rfl) (fun h₁ hns hsb => ⟨hlim.fresh _ hsb, ?_⟩) rfl)
  have keep : ∀ b o, s.heap.get? b = some o → h₁.get? b = some o := fun b o e => hsb.extBut b o (Nat.ne_of_lt (Heap.lt_size e)) (Heap.get?_push_of_some _ e)
  refine kla_codeExpr ?_
  refine lam_body hx rfl rfl hns rfl (keep _ _ g1) (keep _ _ g2) hp fun t k => ?_
  exact h h₁ k t keep
end
end Mine
end MpZ7x
section MpZ8x
open PySem PySem.Builtin.Str PySem.W PySem.Calls PyProof.Rows
namespace Mine
open PySem.Builtin PySem.Builtin.Re
noncomputable def failedB (m : Sre.M) : Bool := match m.outcome with | some .failed => true | _ => false
theorem failedB_ok {m : Sre.M} (h : failedB m = true) : m.outcome = some .failed := by
  unfold failedB at h
  split at h
  · assumption
  · cases h
theorem noHit_ok : (noHit.all fun a => failedB ((Sre.forSearch reCode a.toArray 1 0 a.toArray.size false).runFor (4 * (0 + 1)))) = true := by decide +kernel
section
variable {prog : Program} {w : World} {A : Around} {s : Shared}
theorem loop_code {args : Args} {R : Result → Shared → Prop}
    (h : wpAny (model prog w) A.in1 (Builtin.«re.Pattern.sub.loop» args) (fun fin s' => match fin with | .done f => R (.ok f) s' | .again c' => c'.quiet = true ∧ codeAny (model prog w) A c' R s') (fun e s' => R (.error e) s') s) :
    codeAny (model prog w) A (.builtin "re.Pattern.sub.loop" args) R s :=
  codeAny_builtin entry_sub_loop (by rw [Around.under_plainId plain_sub_loop _]; exact h)
theorem meets_sub {P C : Addr} {codes : Array Value} {a : Array Nat} {u : Tok} {lam : Addr} :
    MeetsIn prog w (Builtin.«re.Pattern.sub» ⟨[.ref P, .ref lam, .str ⟨a⟩ u], []⟩) (fun A R s => (PatAt s.heap P C codes ∧ ∃ ol, s.heap.get? lam = some ol ∧ ol.cls = .type "function") ∧
      codeAny (model prog w) A (.builtin "re.Pattern.sub.loop" ⟨[.ref P, .str ⟨a⟩ u, .ref lam, rawInt 1, rawInt 0, rawInt 0, rawInt 0, rawInt 0, .bool false, .ref s.heap.objs.size, .bool false], []⟩) R { s with heap := s.heap.push (lobj #[] 0) }) :=
  fun A R s hs => by
    obtain ⟨⟨hp, ol, hl, hc⟩, h⟩ := hs
    exact sub_start (A := A.in1) (A₀ := A) hp hl hc h
theorem sub_same {P C : Addr} {codes : Array Value} {a : List Nat} {u : Tok} (ha : noHit.contains a = true) (hp : PatAt s.heap P C codes) {lam : Addr} {ol : Obj} (hl : s.heap.get? lam = some ol) (hc : ol.cls = .type "function") {Q : Value → Shared → Prop} {E : Value → Shared → Prop}
    (h : ∀ h' tk t, (∀ b o, s.heap.get? b = some o → h'.get? b = some o) → Q (.str ⟨a.toArray⟩ t) { s with heap := h', toks := tk }) :
    wpAny (model prog w) A (call (.builtin "re.Pattern.sub") [.ref P, .ref lam, .str ⟨a.toArray⟩ u]) Q E s := by
  have hT : s.TypeIs (.ref P) "re.Pattern" := by
    obtain ⟨x, t, u, v, w, y, e, _⟩ := hp.pat
    exact ⟨_, e, rfl⟩
  have hm : a ∈ noHit := by simpa using ha
  have hf := failedB_ok (List.all_eq_true.mp noHit_ok a hm)
  have hlen : a.length ≤ 10 := by
    have : (noHit.all fun a => decide (a.length ≤ 10)) = true := by decide
    simpa using List.all_eq_true.mp this a hm
  refine call_meetsIn slot_pat_sub hT entry_pat_sub (args_pat_sub_3 _ _ _) meets_sub ⟨⟨hp, ol, hl, hc⟩, loop_code ?_⟩
  have hk : ∀ b o, s.heap.get? b = some o → (s.heap.push (lobj #[] 0)).get? b = some o := fun b o e => Heap.get?_push_of_some _ e
  have hnew : (s.heap.push (lobj #[] 0)).get? s.heap.objs.size = some (lobj (strValues []).toArray 0) := Heap.get?_push_size _ rfl
  refine loop_none (n := 0) (done := 0) (start := 0) (ps := []) (kk := 0) (res := ⟨a.toArray⟩) (hp.keeps hk) hnew ⟨0, by decide, hf⟩ (by simp) (by rw [List.size_toArray]; omega) (by simp) ?_ fun h' tk t sb => ?_
  · cases a with
    | nil => rfl
    | cons c r =>
      rw [if_pos (by simp)]
      have e : (c :: r).toArray.extract 0 (c :: r).toArray.size = (c :: r).toArray := by simp
      rw [e]
      unfold Txt.join
      have := glued_join [] [c :: r]
      simpa [joinL, Str.empty] using this
  · refine h h' tk t fun b o e => (sb.2 b (Nat.ne_of_lt (Heap.lt_size e))).trans (hk b o e)
end
end Mine
end MpZ8x
section MpZ9x
open PySem PySem.Builtin.Str PySem.W PySem.Calls PyProof.Rows
namespace Mine
open PySem.Builtin PySem.Builtin.Re
noncomputable def matchedB (m : Sre.M) (k : Nat) : Bool := (match m.outcome with | some .matched => true | _ => false) && decide (m.start = k) && decide (m.handed = k + 1) && decide (m.marks.getD 0 none = some k) && decide (m.marks.getD 1 none = some (k + 1)) && decide ((1 : Int) ≤ m.lastmark)
theorem matchedB_ok {m : Sre.M} {k : Nat} (h : matchedB m k = true) : m.outcome = some .matched ∧ m.start = k ∧ m.handed = k + 1 ∧ m.marks.getD 0 none = some k ∧ m.marks.getD 1 none = some (k + 1) ∧ (1 : Int) ≤ m.lastmark := by
  unfold matchedB at h
  simp only [Bool.and_eq_true, decide_eq_true_eq] at h
  obtain ⟨⟨⟨⟨⟨h1, h2⟩, h3⟩, h4⟩, h5⟩, h6⟩ := h
  refine ⟨?_, h2, h3, h4, h5, h6⟩
  split at h1
  · assumption
  · cases h1
noncomputable def hitT : Array Nat := #[124, 38, 126]
noncomputable abbrev hitM (k : Nat) : Sre.M := (Sre.forSearch reCode hitT 1 k hitT.size false).runFor (4 * (1 + 1))
theorem hit0 : matchedB (hitM 0) 0 = true := by decide +kernel
theorem hit1 : matchedB (hitM 1) 1 = true := by decide +kernel
theorem hit2 : matchedB (hitM 2) 2 = true := by decide +kernel
theorem hit3 : failedB ((Sre.forSearch reCode hitT 1 3 hitT.size false).runFor (4 * (0 + 1))) = true := by decide +kernel
section
variable {cx : XCx} {A : Around} {s : Shared}
theorem sub_hits {P C : Addr} {codes : Array Value} {u : Tok} (hp : PatAt s.heap P C codes) {lam c' : Addr} {q : PySem.Str} {pm ctv : Value} {p0 : Pos} {k1 k2 k3 : Nat} {p1 p2 p3 p4 p5 p6 p7 p8 : Pos} (hpl : (p3.endLine == p5.line) = true)
    (hroom : A.depth < recursionLimit) (hlim : s.heap.NoLimit)
    (ho : s.heap.get? lam = some (kla_obj "<lambda>" q (lamParams p0) (lamBody k1 k2 k3 p1 p2 p3 p4 p5 p6 p7 p8) lamScope [] pm c' ctv)) (hrec : s.heap.CodeRec (.ref c') q) {Q : Value → Shared → Prop} {E : Value → Shared → Prop}
    (h : ∀ h' tk t, (∀ b o, s.heap.get? b = some o → h'.get? b = some o) → Q (.str ⟨#[92, 124, 92, 38, 92, 126]⟩ t) { s with heap := h', toks := tk }) :
    wpAny (model cx.prog cx.w) A (call (.builtin "re.Pattern.sub") [.ref P, .ref lam, .str ⟨hitT⟩ u]) Q E s := by
  have hT : s.TypeIs (.ref P) "re.Pattern" := by
    obtain ⟨x, t, u, v, w, y, e, _⟩ := hp.pat
    exact ⟨_, e, rfl⟩
  refine call_meetsIn slot_pat_sub hT entry_pat_sub (args_pat_sub_3 _ _ _) meets_sub ⟨⟨hp, _, ho, rfl⟩, ?_⟩
  have hk0 : ∀ b o, s.heap.get? b = some o → (s.heap.push (lobj #[] 0)).get? b = some o := fun b o e => Heap.get?_push_of_some _ e
  have hnew : (s.heap.push (lobj #[] 0)).get? s.heap.objs.size = some (lobj (strValues []).toArray 0) := Heap.get?_push_size _ rfl
  have nepc : ∀ {b o}, s.heap.get? b = some o → b ≠ s.heap.objs.size := fun e => Nat.ne_of_lt (Heap.lt_size e)
  have turn : ∀ (k : Nat) (c : Nat) (ps : List (PySem.Str × Tok)) (kk : Nat) (must : Bool) (h1 : Heap) (tk1 : Nat) (R : Result → Shared → Prop), must = false → matchedB (hitM k) k = true → hitT.extract k (k + 1) = #[c] → ps.length ≤ 10 → (∀ b o, s.heap.get? b = some o → h1.get? b = some o) → h1.get? s.heap.objs.size = some (lobj (strValues ps).toArray kk) →
      (∀ h2 tk2 t k', (∀ b o, s.heap.get? b = some o → h2.get? b = some o) → h2.get? s.heap.objs.size = some (lobj (strValues (ps ++ [(⟨#[92, c]⟩, t)])).toArray k') →
        codeAny (model cx.prog cx.w) A (.builtin "re.Pattern.sub.loop" ⟨[.ref P, .str ⟨hitT⟩ u, .ref lam, rawInt 1, rawInt 0, rawInt ((k : Int) + 1), rawInt ((k + 1 : Nat) : Int), rawInt ((k + 1 : Nat) : Int), .bool (k + 1 == k), .ref s.heap.objs.size, .bool false], []⟩) R { s with heap := h2, toks := tk2 }) →
      codeAny (model cx.prog cx.w) A (.builtin "re.Pattern.sub.loop" ⟨[.ref P, .str ⟨hitT⟩ u, .ref lam, rawInt 1, rawInt 0, rawInt (k : Int), rawInt (k : Int), rawInt (k : Int), .bool must, .ref s.heap.objs.size, .bool false], []⟩) R { s with heap := h1, toks := tk1 } := by
    intro k c ps kk must h1 tk1 R hmust hmb hx hpl' hk1 hl1 cont
    subst hmust
    obtain ⟨f1, f2, f3, f4, f5, f6⟩ := matchedB_ok hmb
    refine loop_code ?_
    refine loop_some (n := k) (done := k) (start := k) (must := false) (m := hitM k) (k := 1) (hp.keeps hk1) hl1 (by decide) rfl f1 (by omega) f2 f3 f4 f5 f6 (by omega) (res := ⟨#[92, c]⟩) (fun s' fa ta Q' hk' g1 g2 _ _ _ hQ' => ?_) fun h' tk t hk' hl' => ?_
    · exact lam_call (cx := cx) (A := A.in1) hx hpl (show A.depth < recursionLimit from hroom) (hlim.keeps fun b o e => hk' b o (hk1 b o e)) (hk' _ _ (hk1 _ _ ho)) (hrec.keeps fun b o e => hk' b o (hk1 b o e)) g1 g2 fun h'' tk t hk'' => hQ' h'' tk t hk''
    · obtain ⟨k', g'⟩ := hl'
      exact cont h' tk t k' (fun b o e => hk' b o (nepc e) (hk1 b o e)) g'
  refine turn 0 124 [] 0 false _ s.toks _ rfl hit0 (by decide) (by simp) hk0 hnew fun h1 tk1 t1 kk1 hk1 hl1 => ?_
  refine turn 1 38 _ kk1 _ h1 tk1 _ rfl hit1 (by decide) (by simp) hk1 hl1 fun h2 tk2 t2 kk2 hk2 hl2 => ?_
  refine turn 2 126 _ kk2 _ h2 tk2 _ rfl hit2 (by decide) (by simp) hk2 hl2 fun h3 tk3 t3 kk3 hk3 hl3 => ?_
  refine loop_code ?_
  refine loop_none (n := 3) (done := 3) (start := 3) (must := false) (kk := kk3) (res := ⟨#[92, 124, 92, 38, 92, 126]⟩) (hp.keeps hk3) hl3 ⟨0, by decide, failedB_ok hit3⟩ (by simp) (by decide) (by simp) ?_ fun h' tk t sb => ?_
  · rfl
  · exact h h' tk t fun b o e => (sb.2 b (nepc e)).trans (hk3 b o e)
end
end Mine
end MpZ9x
section MpZax
open PySem PySem.Builtin.Str PySem.W PySem.Calls PyProof.Rows
namespace Mine
set_option genInjectivity false in
structure PatG (cx : XCx) where
  P : Addr
  C : Addr
  codes : Array Value
  nP : ¬ cx.X P
  nC : ¬ cx.X C
  at0 : PatAt cx.h0 P C codes
theorem PatG.at {cx : XCx} (G : PatG cx) {F : Addr → Prop} {s : Shared} (w : Wd cx F s) : PatAt s.heap G.P G.C G.codes := by
  obtain ⟨⟨a, t, u, v, w', y, e, r⟩, ⟨n, ec⟩, is⟩ := G.at0
  exact ⟨⟨a, t, u, v, w', y, w.base _ _ e G.nP, r⟩, ⟨n, w.base _ _ ec G.nC⟩, is⟩
section
variable {cx : XCx} {ε : Sc}
theorem sound_resub (G : LamG cx) (PG : PatG cx) {x : PySem.Str} {p apos pos lp p0 : Pos} {e : Expr} {y : X} {qual : PySem.Str} {k1 k2 k3 : Nat} {p1 p2 p3 p4 p5 p6 p7 p8 : Pos} (hk : ε.kinds.lookup x = some .globalImplicit) (hv : cx.mg x = some (.ref PG.P)) (hd : (x == ("__debug__" : PySem.Str)) = false)
    (hcode : ε.code = some (G.c, qual)) (hq : (lp, qual ++ "<lambda>") ∈ G.qs) (hl : (apos.endLine == pos.line) = true) (hpl : (p3.endLine == p5.line) = true) (hst : starred e = false) (h : Sound cx ε e y) :
    Sound cx ε (.Call (.Attribute (.Name x p) "sub" apos) [.Lambda (lamParams p0) (lamBody k1 k2 k3 p1 p2 p3 p4 p5 p6 p7 p8) lamScope lp, e] [] pos) (.op .resub (.cons y .nil)) := by
  refine Sound.ofE ?_ fun _ => rfl
  intro n cf A env F s ρ ad m cm H res he Q E hQ
  obtain ⟨rs, e1, e2⟩ := ev_op he
  obtain ⟨r0, rs', e3, e4, rfl⟩ := ev_cons e1
  cases ev_nil e4
  have hstL : starred (.Lambda (lamParams p0) (lamBody k1 k2 k3 p1 p2 p3 p4 p5 p6 p7 p8) lamScope lp) = false := rfl
  have hany : (backTo pos (starEach [.Lambda (lamParams p0) (lamBody k1 k2 k3 p1 p2 p3 p4 p5 p6 p7 p8) lamScope lp, e] env)).any (·.1) = false := by
    rw [starEach_plain hstL, backTo_plain, List.any_cons, starEach_plain hst, backTo_plain, List.any_cons]; rfl
  refine meth_run rfl hl (by simp) hany ?_
  refine load_global H hk hv hd ?_
  obtain ⟨px, pt, pu, pv, pw, py, pe, _⟩ := (PG.at H.wd).pat
  refine getMethod_builtin (T := "re.Pattern") ⟨_, pe, rfl⟩ plainAttrs_pat slot_pat_sub type_pat_sub (fun a e => ⟨_, by cases e; exact pe, rfl⟩) ?_
  refine Calls.callWith_builtin hany ?_
  rw [starEach_plain hstL, backTo_plain, starEach_plain hst, backTo_plain]
  have hcl : closureFor lamScope env = pure [] := closureFor_none (by intro y hy; simp [lamScope] at hy; subst hy; decide)
  refine Calls.evalArgs_plain (Calls.spliced_cons (lam_make G H hcode rfl hq hcl fun F1 s1 lam c' ctv st1 fr1 nf1 g1 fc1 rec1 => ?_))
  have H1 := H.step st1
  refine Calls.spliced_cons (h.ev n cf A env F1 s1 ρ ad m cm H1 r0 e3 _ _ fun v F2 s2 st2 q2 => Calls.spliced_nil ?_)
  show wpAny _ _ (call (.builtin "re.Pattern.sub") [.ref PG.P, .ref lam, v]) _ _ s2
  have nxl : ¬ cx.X lam := H.wd.newNotX fr1
  have g2 := st2.keep _ _ g1 nxl
  have rec2 := rec1.at fun o e => st2.keep _ o e (st1.wd.nx _ fc1)
  simp only [List.map_cons, List.map_nil] at e2; delta opF at e2; dsimp only at e2
  unfold opResub at e2
  split at e2
  · rename_i a ea
    have qb := q2.brep
    have ea' : r0.ds = .str a := by simpa using ea
    rw [ea'] at qb
    obtain ⟨t, rfl, pp, z⟩ := qb.str_inv
    have stt := st1.trans st2
    split at e2
    · rename_i hno
      cases e2
      refine sub_same hno (PG.at st2.wd) g2 rfl fun h' tk t' hk' => ?_
      exact hQ _ F2 _ (stt.trans (Step.grown H.ok st2.wd tk hk')) (.val (.str t' pp z))
    · split at e2 <;> cases e2
      rename_i ha
      subst ha
      refine sub_hits (cx := cx) (PG.at st2.wd) hpl (show A.depth < 1000 by have := H.bud.dp; omega) (st2.wd.lim H.ok) g2 rec2 fun h' tk t' hk' => ?_
      refine hQ _ F2 _ (stt.trans (Step.grown H.ok st2.wd tk hk')) (.val (.str (l := [92, 124, 92, 38, 92, 126]) t' (fun c hc => ?_) (by decide)))
      revert c
      decide
  · cases e2
end
end Mine
end MpZax
section MpZbx
open PySem PySem.Builtin.Str PySem.W PySem.Calls PyProof.Rows
namespace Mine
section
variable {M : Model} {A : Around} {E : Value → Shared → Prop} {s : Shared}
theorem gen_code {env : Env} {c P : Addr} {ps : Array Value} {pos : Pos} {qual : PySem.Str} {scope : Scope} {Q : Value → Shared → Prop} (hc : env.code = .ref c) (C : CodeHd s.heap c P) (hP : s.heap.get? P = some (tabObj ps)) (ht : TriplesOk ps.toList)
    (hQ : ∀ code h' tk, Heap.ExtBut P s.heap h' → (h'.get? P = some (tabObj ps) ∨ (codeAmong pos ps.toList = none ∧ ∃ c', code = .ref c' ∧ s.heap.objs.size ≤ c' ∧ h'.CodeRec (.ref c') qual ∧ h'.get? P = some (tabObj (ps ++ #[rawInt pos.line, rawInt pos.col, .ref c'])))) → Q code { s with heap := h', toks := tk }) :
    wpAny M A (genexprCode env pos qual scope) Q E s := by
  cases hca : codeAmong pos ps.toList with
  | some cv =>
    obtain ⟨o, vs, file, tf, flags, tg, inF, text, tt, op, ho, hd, h11, h2, h7, h9, h10, hop, hpd, htr, hne⟩ := id (C.code hP ht)
    unfold genexprCode codeAt
    rw [hc, if_neg (show ¬ ((Value.ref c == Value.none) = true) from Bool.false_ne_true)]
    refine wpAny_bind (wpAny_fieldsOf ho hd ?_)
    rw [h11]
    refine wpAny_bind (wpAny_fieldsOf hop hpd ?_)
    rw [hca]
    exact wpAny_pure (hQ cv s.heap s.toks (Heap.ExtBut.refl _ _) (.inl hP))
  | none =>
    obtain ⟨o, vs, file, tf, flags, tg, inF, text, tt, op, ho, hd, h11, h2, h7, h9, h10, hop, hpd, htr, hne⟩ := id (C.code hP ht)
    unfold genexprCode codeAt
    rw [hc, if_neg (show ¬ ((Value.ref c == Value.none) = true) from Bool.false_ne_true)]
    refine wpAny_bind (wpAny_fieldsOf ho hd ?_)
    rw [h11]
    refine wpAny_bind (wpAny_fieldsOf hop hpd ?_)
    rw [hca, h2, h7, h9, h10]
    refine wpAny_bind (wpAny_newCode fun c' P' h' tk hk hc' hP' hcode' hrec' => ?_)
    have hop' := hk _ _ hP
    refine wpAny_bind (wpAny_updateFieldsOfTheText hop' rfl ?_)
    have hnew : (Obj.mapFields (fun vs => if (codeAmong pos vs.toList).isSome = true then vs else vs ++ #[rawInt pos.line, rawInt pos.col, .ref c']) (tabObj ps)) = tabObj (ps ++ #[rawInt pos.line, rawInt pos.col, .ref c']) := by
      simp [Obj.mapFields, hca]
    have hget := Heap.get?_update_self (h := h') (fun o => Obj.mapFields (fun vs => if (codeAmong pos vs.toList).isSome = true then vs else
      vs ++ #[rawInt pos.line, rawInt pos.col, .ref c']) o) hop' (by rw [hnew]; rfl)
    rw [hnew] at hget
    refine wpAny_bind (wpAny_fieldsOf hget rfl ?_)
    have hl : (ps ++ #[rawInt pos.line, rawInt pos.col, Value.ref c']).toList = ps.toList ++ [rawInt pos.line, rawInt pos.col, .ref c'] := by simp
    rw [hl, codeAmong_snoc _ ht hca]
    refine wpAny_pure (hQ _ _ _ (fun b o' hb e => ((Heap.SameBut.update ..).extBut b o' hb (hk b o' e))) (.inr ⟨hca, c', rfl, hc', ?_, hget⟩))
    obtain ⟨c2, oc, vs2, t2, e2, goc, r2⟩ := hrec'
    cases e2
    have hcP : c' ≠ P := fun e => by
      have := Heap.lt_size hP
      rw [← e] at this
      exact absurd this (Nat.not_lt.mpr hc')
    exact ⟨c', oc, vs2, t2, rfl, (Heap.SameBut.update ..).extBut _ _ hcP goc, r2⟩
end
end Mine
end MpZbx
section MpZcx
open PySem PySem.Builtin.Str PySem.W PySem.Calls PyProof.Rows
namespace Mine
section
variable {cx : XCx} {A : Around} {E : Value → Shared → Prop} {s : Shared}
theorem replace_same {a b c : PySem.Str} {t u v : Tok} (hocc : (occurrences a b 0 a.length (a.length + 1)).isEmpty = true) {mc : PySem.Str → Option Value} (n1 : s.heap.Ns cStatics mc) (n2 : mc sharingNotToldKey = none) {Q : Value → Shared → Prop} (h : Q (.str a t) s) :
    wpAny (model cx.prog cx.w) A (call (.builtin "str.replace") [.str a t, .str b u, .str c v]) Q E s := by
  have e : ((occurrences a b 0 a.length (a.length + 1)).isEmpty || (b.length == 0 && c.length == 0)) = true := by rw [hocc]; rfl
  refine call_givesAt PySem.F.slot_str_replace (typeIs_str _ _ _) PySem.F.entry_str_replace (PySem.F.args_str_replace_3 _ _ _) (gives_str_replace2 _ _ _ t u v fun h => by rw [e] at h; cases h) ⟨mc, n1, n2⟩ ?_
  rw [if_pos e]
  exact h
noncomputable def repElt (x : PySem.Str) (b1 c1 b2 c2 : PySem.Str) (k1 k2 k3 k4 : Nat) (p1 p2 p3 p4 p5 p6 p7 p8 p9 : Pos) : Expr :=
  .Call (.Attribute (.Call (.Attribute (.Name x p1) "replace" p2) [.Constant (.str b1) k1 p3, .Constant (.str c1) k2 p4] [] p5) "replace" p6) [.Constant (.str b2) k3 p7, .Constant (.str c2) k4 p8] [] p9
theorem rep_one {o : Expr} {env : Env} {b c a : PySem.Str} {t : Tok} {k1 k2 : Nat} {p2 p3 p4 p5 : Pos} (hb : plainBase o = true) (hl : (p2.endLine == p5.line) = true) (hocc : (occurrences a b 0 a.length (a.length + 1)).isEmpty = true) {mc : PySem.Str → Option Value} (n2 : mc sharingNotToldKey = none) {Q : Value → Shared → Prop}
    (h : wpAny (model cx.prog cx.w) A (eval o env) (fun v s₁ => v = .str a t ∧ s₁.heap.Ns cStatics mc ∧ ∀ k, Q (.str a t) { s₁ with toks := k }) E s) (hz : b.length ≤ 10 ∧ c.length ≤ 10) :
    wpAny (model cx.prog cx.w) A (eval (.Call (.Attribute o "replace" p2) [.Constant (.str b) k1 p3, .Constant (.str c) k2 p4] [] p5) env) Q E s := by
  refine meth_run hb hl (by simp) rfl (wpAny_mono h (fun v s₁ h₁ => ?_) fun _ _ e => e)
  obtain ⟨rfl, n1, hQ⟩ := h₁
  refine GM.replace ?_
  refine Calls.callWith_builtin rfl (Calls.evalArgs_plain (Calls.spliced_cons (Calls.Constant_str (k := k1) (pos := p3) (Calls.spliced_cons (Calls.Constant_str (k := k2) (pos := p4) (Calls.spliced_nil ?_))))))
  show wpAny _ _ (call (.builtin "str.replace") [.str a t, .str b _, .str c _]) Q E { s₁ with toks := s₁.toks + 1 + 1 }
  exact replace_same (cx := cx) (s := { s₁ with toks := s₁.toks + 1 + 1 }) hocc n1 n2 (hQ _)
end
end Mine
end MpZcx
section MpZdx
open PySem PySem.Builtin.Str PySem.W PySem.Calls PyProof.Rows
namespace Mine
section
variable {cx : XCx} {A : Around} {E : Value → Shared → Prop} {s : Shared}
theorem rep_elt {env : Env} {x b1 c1 b2 c2 a : PySem.Str} {t : Tok} {k1 k2 k3 k4 : Nat} {p1 p2 p3 p4 p5 p6 p7 p8 p9 : Pos} (hl1 : (p2.endLine == p5.line) = true) (hl2 : (p6.endLine == p9.line) = true) (ho1 : (occurrences a b1 0 a.length (a.length + 1)).isEmpty = true) (ho2 : (occurrences a b2 0 a.length (a.length + 1)).isEmpty = true)
    {mc : PySem.Str → Option Value} (n1 : s.heap.Ns cStatics mc) (n2 : mc sharingNotToldKey = none) (hk : env.scope.kind = .function) (hl : env.kindOf x = some .local) {m : PySem.Str → Option Value} (hn : s.heap.Ns env.locals m) (hm : m x = some (.str a t)) (hd : (x == ("__debug__" : PySem.Str)) = false)
    (hz : b1.length ≤ 10 ∧ c1.length ≤ 10) (hz2 : b2.length ≤ 10 ∧ c2.length ≤ 10) {Q : Value → Shared → Prop} (h : ∀ k, Q (.str a t) { s with toks := k }) :
    wpAny (model cx.prog cx.w) A (eval (repElt x b1 c1 b2 c2 k1 k2 k3 k4 p1 p2 p3 p4 p5 p6 p7 p8 p9) env) Q E s := by
  unfold repElt
  refine rep_one rfl hl2 ho2 n2 (t := t) ?_ hz2
  refine rep_one rfl hl1 ho1 n2 (t := t) ?_ hz
  refine wpAny_Name (wpAny_loadName_local hk hl hn hm ?_) hd
  exact ⟨rfl, n1, fun k => ⟨rfl, n1, fun k' => h k'⟩⟩
end
end Mine
end MpZdx
section MpZex
open PySem PySem.Builtin.Str PySem.W PySem.Calls PyProof.Rows
namespace Mine
noncomputable def repX (i : Nat) (b1 c1 b2 c2 : List Nat) : X :=
  .op .replace (.cons (.op .replace (.cons (.var i) (.cons (.const (.str b1)) (.cons (.const (.str c1)) .nil)))) (.cons (.const (.str b2)) (.cons (.const (.str c2)) .nil)))
noncomputable def noOcc (a b : List Nat) : Bool := (occurrences ⟨a.toArray⟩ ⟨b.toArray⟩ 0 a.length (a.length + 1)).isEmpty
theorem opReplace_inv {d : D} {b c : List Nat} {r : R} (h : opF .replace [d, .str b, .str c] = some r) : ∃ a, d = .str a ∧ noOcc a b = true ∧ r = .val (.str a) := by
  delta opF at h; dsimp only at h
  unfold opReplace at h
  split at h
  · rename_i a b' c' e
    split at h <;> cases h
    rename_i ho
    cases e
    exact ⟨a, rfl, ho, rfl⟩
  · cases h
theorem repX_inv {cf : Nat → List D → Option D} {i : Nat} {b1 c1 b2 c2 : List Nat} {ρ : List Slot} {d : D} {r : R} (h : ev cf (repX i b1 c1 b2 c2) (ρ.set i (.val d)) = some [r]) : ∃ a, d = .str a ∧ noOcc a b1 = true ∧ noOcc a b2 = true ∧ r = .val (.str a) := by
  unfold repX at h
  obtain ⟨rs, e1, e2⟩ := ev_op h
  obtain ⟨r0, rs0, e3, e4, rfl⟩ := ev_cons e1
  obtain ⟨r1, rs1, e5, e6, rfl⟩ := ev_cons e4
  obtain ⟨r2, rs2, e7, e8, rfl⟩ := ev_cons e6
  cases ev_nil e8
  obtain ⟨rt, f1, f2⟩ := ev_op e3
  obtain ⟨q0, qs0, g3, g4, rfl⟩ := ev_cons f1
  obtain ⟨q1, qs1, g5, g6, rfl⟩ := ev_cons g4
  obtain ⟨q2, qs2, g7, g8, rfl⟩ := ev_cons g6
  cases ev_nil g8
  have cst : ∀ {l : List Nat} {ρ : List Slot} {r : R}, ev cf (.const (.str l)) ρ = some [r] → r = .val (.str l) := fun h => by replace h := (evq_const _).symm.trans h; cases h; rfl
  rw [cst e5, cst e7] at e2
  rw [cst g5, cst g7] at f2
  obtain ⟨a, ha, ho1, hr0⟩ := opReplace_inv (d := q0.ds) f2
  subst hr0
  obtain ⟨a2, ha2, ho2, hr⟩ := opReplace_inv (d := .str a) e2
  have : a = a2 := by simpa [R.ds] using ha2
  subst this
  refine ⟨a, ?_, ho1, ho2, hr⟩
  replace g3 := (evq_var _).symm.trans g3
  rw [List.getElem?_set] at g3
  simp only [if_true] at g3
  split at g3
  · rename_i d' e
    split at e <;> cases e
    cases g3
    exact ha
  · rename_i l e
    split at e <;> cases e
  · cases g3
end Mine
end MpZex
section MpZfx
open PySem PySem.Builtin.Str PySem.W PySem.Calls PyProof.Rows
namespace Mine
section
variable {cx : XCx} {ε : Sc}
theorem table_step (G : LamG cx) {F : Addr → Prop} {s : Shared} (ok : CxOk cx) (w : Wd cx F s) {ps : Array Value} {gpos : Pos} {code : Value} {qual : PySem.Str} {h' : Heap} (tk : Nat) (g : s.heap.get? G.Pt = some (tabObj ps)) (hap : ∀ p q, (p, q) ∈ G.qs → p.line ≠ gpos.line ∨ p.col ≠ gpos.col)
    (hx : Heap.ExtBut G.Pt s.heap h') (alt : h'.get? G.Pt = some (tabObj ps) ∨ (codeAmong gpos ps.toList = none ∧ ∃ c', code = .ref c' ∧ s.heap.objs.size ≤ c' ∧ h'.CodeRec (.ref c') qual ∧ h'.get? G.Pt = some (tabObj (ps ++ #[rawInt gpos.line, rawInt gpos.col, .ref c'])))) :
    Step cx F s F { s with heap := h', toks := tk } := by
  have hX := w.xi
  rw [G.xf] at hX
  obtain ⟨fc, hd, ps0, g0, ht, hqs⟩ := hX
  rw [g] at g0
  have e0 : ps = ps0 := by cases g0; rfl
  subst e0
  have keep : ∀ a o, s.heap.get? a = some o → ¬ cx.X a → h'.get? a = some o := fun a o e nx => hx a o (fun e => nx ((G.xp _).mpr e)) e
  have hxi : TabXF G.c G.Pt G.qs F h' := by
    have hd' : CodeHd h' G.c G.Pt := by
      obtain ⟨o, vs, file, tf, flags, tg, inF, text, tt, e, r⟩ := hd
      exact ⟨o, vs, file, tf, flags, tg, inF, text, tt, keep _ _ e (w.nx _ fc), r⟩
    rcases alt with h | ⟨hn, c', rfl, hc', hrec, h⟩
    · exact ⟨fc, hd', ps, h, ht, fun p q hm cv hcv => let ⟨c4, e4, f4, r4⟩ := hqs p q hm cv hcv; ⟨c4, e4, f4, r4.at fun o e => keep _ _ e (w.nx _ f4)⟩⟩
    · have ea : (ps ++ #[rawInt gpos.line, rawInt gpos.col, .ref c']).toList = ps.toList ++ [rawInt gpos.line, rawInt gpos.col, .ref c'] := by simp
      refine ⟨fc, hd', _, h, by rw [ea]; exact TriplesOk_snoc _ _ _ _ ht, fun p q hm cv hcv => ?_⟩
      rw [ea, among_snoc_other ht (hap p q hm)] at hcv
      obtain ⟨c4, e4, f4, r4⟩ := hqs p q hm cv hcv
      exact ⟨c4, e4, f4, r4.at fun o e => keep _ _ e (w.nx _ f4)⟩
  refine ⟨fun _ h => h, fun _ h => .inl h, keep, rfl, ⟨fun a o e nx => keep a o (w.base a o e nx) nx, by rw [G.xf]; exact hxi, w.gens, w.f0, fun a h => ?_, w.nx, fun a h => ?_⟩⟩
  · obtain ⟨o, e⟩ := w.lt a h
    exact ⟨o, keep a o e (w.nx a h)⟩
  · rw [(G.xp a).mp h]
    rcases alt with h | ⟨_, _, _, _, _, h⟩ <;> exact ⟨_, h⟩
end
end Mine
end MpZfx
section Elx
namespace Mine
theorem e1_2 {α0 : Sort _} {P0 P1 : α0 → Prop} {C : Prop} (h : ∃ x0, P0 x0 ∧ P1 x0) (k : ∀ x0, P0 x0 → P1 x0 → C) : C := by
  obtain ⟨x0, p0, p1⟩ := h
  exact k x0 p0 p1
theorem e2_3 {α0 : Sort _} {α1 : Sort _} {P0 P1 P2 : α0 → α1 → Prop} {C : Prop} (h : ∃ x0 x1, P0 x0 x1 ∧ P1 x0 x1 ∧ P2 x0 x1) (k : ∀ x0 x1, P0 x0 x1 → P1 x0 x1 → P2 x0 x1 → C) : C := by
  obtain ⟨x0, x1, p0, p1, p2⟩ := h
  exact k x0 x1 p0 p1 p2
theorem i8_8 {α0 : Sort _} {α1 : Sort _} {α2 : Sort _} {α3 : Sort _} {α4 : Sort _} {α5 : Sort _} {α6 : Sort _} {α7 : Sort _} {P0 P1 P2 P3 P4 P5 P6 P7 : α0 → α1 → α2 → α3 → α4 → α5 → α6 → α7 → Prop} (x0 : α0) (x1 : α1) (x2 : α2) (x3 : α3) (x4 : α4) (x5 : α5) (x6 : α6) (x7 : α7) (p0 : P0 x0 x1 x2 x3 x4 x5 x6 x7) (p1 : P1 x0 x1 x2 x3 x4 x5 x6 x7) (p2 : P2 x0 x1 x2 x3 x4 x5 x6 x7) (p3 : P3 x0 x1 x2 x3 x4 x5 x6 x7) (p4 : P4 x0 x1 x2 x3 x4 x5 x6 x7) (p5 : P5 x0 x1 x2 x3 x4 x5 x6 x7) (p6 : P6 x0 x1 x2 x3 x4 x5 x6 x7) (p7 : P7 x0 x1 x2 x3 x4 x5 x6 x7) : ∃ x0 x1 x2 x3 x4 x5 x6 x7, P0 x0 x1 x2 x3 x4 x5 x6 x7 ∧ P1 x0 x1 x2 x3 x4 x5 x6 x7 ∧ P2 x0 x1 x2 x3 x4 x5 x6 x7 ∧ P3 x0 x1 x2 x3 x4 x5 x6 x7 ∧ P4 x0 x1 x2 x3 x4 x5 x6 x7 ∧ P5 x0 x1 x2 x3 x4 x5 x6 x7 ∧ P6 x0 x1 x2 x3 x4 x5 x6 x7 ∧ P7 x0 x1 x2 x3 x4 x5 x6 x7 := ⟨x0, x1, x2, x3, x4, x5, x6, x7, p0, p1, p2, p3, p4, p5, p6, p7⟩
end Mine
end Elx
section MpZgx
open PySem PySem.Builtin.Str PySem.W PySem.Calls PyProof.Rows
namespace Mine
theorem passing_all (n : Nat) : passing (fun _ => true) n 0 = List.range n := by
  unfold passing; simp
theorem compGo_same {f : D → Option (Option D)} (hf : ∀ d y, f d = some y → ∃ a, d = .str a ∧ y = some (.str a)) : ∀ {items l : List D}, compGo f items = some l → l = items ∧ ∀ d ∈ items, f d = some (some d)
  | [], l, h => by cases h; exact ⟨rfl, fun _ h => nomatch h⟩
  | d :: r, l, h => by
    unfold compGo at h
    split at h
    · cases h
    · rename_i e
      obtain ⟨a, _, e2⟩ := hf d _ e
      cases e2
    · rename_i y e
      obtain ⟨a, rfl, e2⟩ := hf d _ e
      cases e2
      split at h
      · rename_i ys e3
        cases h
        obtain ⟨rfl, h2⟩ := compGo_same hf e3
        refine ⟨rfl, fun d' hd => ?_⟩
        rcases List.mem_cons.mp hd with rfl | hd
        · exact e
        · exact h2 d' hd
      · cases h
theorem toStrs_eq : ∀ {l : List D} {ls : List (List Nat)}, toStrs l = some ls → l = ls.map .str
  | [], ls, e => by cases e; rfl
  | d :: r, ls, e => by
    cases d <;> simp only [toStrs] at e <;> try cases e
    obtain ⟨ls', e', rfl⟩ := Option.map_eq_some_iff.mp e
    rw [List.map_cons, ← toStrs_eq e']
theorem joinOk_of {a : List Nat} {ls : List (List Nat)} (z : a.length ≤ lim) (hz : (joinL a ls).length ≤ lim) : JoinOk ⟨a.toArray⟩ (ls.map fun x => PySem.Str.mk x.toArray) = true := by
  unfold JoinOk tooLong
  rw [joinSize, Nat.zero_add, List.map_map]
  simp only [Bool.not_eq_true', decide_eq_false_iff_not]
  rw [sizeLine_eq]
  unfold lim at hz z
  cases ls with
  | nil => simp
  | cons b r =>
    rw [joinL_length] at hz
    simp only [List.map_cons, List.sum_cons, Function.comp, mk_length]
    have e : (List.map ((fun x => x.length + a.length) ∘ fun x => PySem.Str.mk x.toArray) r).sum = (r.map fun x => a.length + x.length).sum := by
      congr 1
      apply List.map_congr_left
      intro x _
      show (PySem.Str.mk x.toArray).length + a.length = _
      rw [mk_length, Nat.add_comm]
    rw [e]
    omega
section
variable {cx : XCx} {ε : Sc}
set_option maxHeartbeats 1000000 in
theorem sound_joinGen (G : LamG cx) {sep x b1 c1 b2 c2 : PySem.Str} {lsep lb1 lc1 lb2 lc2 : List Nat} {k1 k2 k3 k4 k5 : Nat} {p1 p2 p3 p4 p5 p6 p7 p8 p9 ps px gpos apos pos : Pos} {scope : Scope} {iter : Expr} {it : X} {i : Nat} {qual : PySem.Str}
    (hsep : constD (.str sep) = some (.str lsep)) (hb1 : b1 = ⟨lb1.toArray⟩) (hb2 : b2 = ⟨lb2.toArray⟩) (hl : (apos.endLine == pos.line) = true) (hl1 : (p2.endLine == p5.line) = true) (hl2 : (p6.endLine == p9.line) = true)
    (hz : b1.length ≤ 10 ∧ c1.length ≤ 10) (hz2 : b2.length ≤ 10 ∧ c2.length ≤ 10) (hcode : ε.code = some (G.c, qual)) (hap : ∀ p q, (p, q) ∈ G.qs → p.line ≠ gpos.line ∨ p.col ≠ gpos.col)
    (hi : SoundI cx ε iter it) (hs : ∀ env x, genFold iter env x = pure x) (hco : scope.isCoroutine = false) (hcell : ∀ y ∈ scope.names, y.2 ≠ .cell) (hfree : ∀ y ∈ scope.names, y.2 ≠ .free) (h0 : scope.names.lookup (".0" : PySem.Str) = some NameKind.local)
    (hx : scope.names.lookup x = some .local) (hkind : scope.kind = .function) (hd : (x == ("__debug__" : PySem.Str)) = false) :
    Sound cx ε (.Call (.Attribute (.Constant (.str sep) k5 ps) "join" apos) [.GeneratorExp (repElt x b1 c1 b2 c2 k1 k2 k3 k4 p1 p2 p3 p4 p5 p6 p7 p8 p9) [⟨.Name x px, iter, [], 0⟩] scope gpos] [] pos)
      (.op .join (.cons (.const (.str lsep)) (.cons (.comp i it (.const (.bool true)) (repX i lb1 lc1 lb2 lc2)) .nil))) := by
  refine Sound.ofE ?_ fun _ => rfl
  intro n cf A env F s ρ ad m cm H res he Q E hQ
  obtain ⟨rs, e1, e2⟩ := ev_op he
  obtain ⟨r0, rs0, e3, e4, rfl⟩ := ev_cons e1
  obtain ⟨r1, rs1, e5, e6, rfl⟩ := ev_cons e4
  cases ev_nil e6
  refine e2_3 (ev_comp e5) fun items l f1 f2 q1 => ?_
  subst q1
  have hr0 : r0 = .val (.str lsep) := by replace e3 := (evq_const _).symm.trans e3; cases e3; rfl
  subst hr0
  have turn : ∀ d y, turnC cf [i] one1 (.const (.bool true)) (repX i lb1 lc1 lb2 lc2) ρ d = some y → ∃ a, d = .str a ∧ y = some (.str a) ∧ noOcc a lb1 = true ∧ noOcc a lb2 = true := by
    intro d y h
    have h' : turnD (some [.val (.bool true)]) (ev cf (repX i lb1 lc1 lb2 lc2) (ρ.set i (.val d))) = some y := h
    unfold turnD truthR at h'
    simp only [R.ds, D.truth] at h'
    split at h'
    · rename_i r er
      obtain ⟨a, h1, h2, h3, h4⟩ := repX_inv er
      subst h4
      cases h'
      exact ⟨a, h1, rfl, h2, h3⟩
    · cases h'
  have cgs := compGo_same (fun d y h => let ⟨a, h1, h2, _⟩ := turn d y h; ⟨a, h1, h2⟩) f2
  have hall := cgs.2
  have cg1 := cgs.1
  subst cg1
  have itemStr : ∀ j d, l[j]? = some d → ∃ a, d = D.str a ∧ noOcc a lb1 = true ∧ noOcc a lb2 = true := fun j d hj => by
    obtain ⟨a, h1, _, h3, h4⟩ := turn d _ (hall d (List.mem_of_getElem? hj))
    exact ⟨a, h1, h3, h4⟩
  have hc := (H.env.code _ _ hcode).1
  have hqual := (H.env.code _ _ hcode).2
  have hstG : starred (.GeneratorExp (repElt x b1 c1 b2 c2 k1 k2 k3 k4 p1 p2 p3 p4 p5 p6 p7 p8 p9) [⟨.Name x px, iter, [], 0⟩] scope gpos) = false := rfl
  have hany : (backTo pos (starEach [.GeneratorExp (repElt x b1 c1 b2 c2 k1 k2 k3 k4 p1 p2 p3 p4 p5 p6 p7 p8 p9) [⟨.Name x px, iter, [], 0⟩] scope gpos] env)).any (·.1) = false := by
    rw [starEach_plain hstG, backTo_plain, List.any_cons]; rfl
  refine meth_run rfl hl (by simp) hany ?_
  refine (sound_const hsep).ev n cf A env F s ρ ad m cm H _ e3 _ _ fun v F0 s0 st0 q0 => ?_
  have q0 := q0.brep
  obtain ⟨t0, rfl, p0', z0⟩ := BRep.str_inv (l := lsep) q0
  have H0 := H.step st0
  refine GM.join ?_
  refine Calls.callWith_builtin hany ?_
  rw [starEach_plain hstG, backTo_plain]
  refine Calls.evalArgs_plain (Calls.spliced_cons ?_)
  have hclos : closureFor scope env = pure [] := closureFor_none hfree
  have hroom : A.depth < recursionLimit := by have := H.bud.dp; show A.depth < 1000; omega
  refine wpAny_GeneratorExp_walksQD H.bud.hd hco hclos hcell h0 hx hkind hroom ?_ (hs env)
  refine hi n cf A env F0 s0 ρ ad m cm H0 l f1 _ _ fun I F1 s1 fp wr P St J => ?_
  have ok := H.ok
  have w1 := J.st.wd
  refine ⟨w1.lim ok, ?_⟩
  have hX := w1.xi
  rw [G.xf] at hX
  obtain ⟨fc, hhd, tps, gP, htr, _⟩ := hX
  rw [hqual]
  refine gen_code hc hhd gP htr fun code h2 tk2 hx2 alt => ?_
  have st2 := table_step G ok w1 tk2 gP hap hx2 alt
  have w2 := st2.wd
  have nP : ∀ {a o}, cx.h0.get? a = some o → a ≠ G.Pt → h2.get? a = some o := fun e h => w2.base _ _ e fun hx => h ((G.xp _).mp hx)
  obtain ⟨bm, ob, b1', b2', b3', b4', b5', b6', b7', b8'⟩ := G.blt
  rw [H.env.glob]
  refine wpAny_builtinsFor (s := { s1 with heap := h2, toks := tk2 }) (w2.glob ok) b1' b2' (nP b5' b4') b6' b7' b8' ?_
  have szX : ∀ {b : Addr}, b ∈ wr → b ≠ G.Pt := fun hb e => by
    obtain ⟨o, eo⟩ := st0.wd.xex G.Pt ((G.xp _).mpr rfl)
    rw [← e, (J.new _ hb).1] at eo; cases eo
  have fpX : ∀ {b : Addr}, b ∈ fp → b ≠ G.Pt := fun hb e => by
    rcases J.deps _ hb with hb | hb
    · exact szX hb e
    · exact w1.nx _ hb ((G.xp _).mpr e)
  have hst2 : St 0 h2 := (J.W A H.bud.hd).frame _ _ _ J.s0 fun b hb o e => hx2 b o (fpX hb) e
  have hfp : ∀ b ∈ fp, b < h2.objs.size := fun b hb => by
    rcases J.deps _ hb with hb' | hb'
    · have := J.one _ hb'
      subst this
      obtain ⟨o, T, e, _⟩ := J.ty 0 _ hst2
      exact Heap.lt_size e
    · obtain ⟨o, e⟩ := w2.lt _ hb'
      exact Heap.lt_size e
  have hcs0 : ∀ {s : Shared} {F : Addr → Prop}, Wd cx F s → ∃ o, s.heap.get? cStatics = some o := fun w => by
    obtain ⟨_, ⟨o, _, _, e, _⟩, _⟩ := w.lim ok
    exact ⟨o, e⟩
  have hcw : cStatics ∉ wr := fun hm => by
    obtain ⟨o, e⟩ := hcs0 st0.wd
    rw [(J.new _ hm).1] at e; cases e
  have item : ∀ i v, P i v → ∃ a t, l[i]? = some (.str a) ∧ v = .str ⟨a.toArray⟩ t ∧ noOcc a lb1 = true ∧ noOcc a lb2 = true ∧ ∀ c ∈ a, c < 0x110000 := fun j v hv => by
    obtain ⟨d, hd1, hd2⟩ := J.item j v hv
    obtain ⟨a, rfl, ho1, ho2⟩ := itemStr j d hd1
    cases hd2 with
    | str t p z => exact ⟨a, t, hd1, rfl, ho1, ho2, p⟩
  refine e1_2 ok.nb fun mc nmc nmk => ?_
  refine i8_8 I fp wr l.length P St (fun _ => true) (fun i y => ∃ a t, l[i]? = some (.str a) ∧ y = .str ⟨a.toArray⟩ t ∧ ∀ c ∈ a, c < 0x110000) rfl J.W hst2 hfp (w2.lim ok) hcw (fun href hhref => ⟨?_, ?_⟩) ?_
  · intro A' E' i v s₂ m₂ hA hD hU hP hn hm hk
    exact wpAny_pure ⟨rfl, ⟨s₂.heap, s₂.toks, rfl, fun _ _ e => e⟩⟩
  · intro A' E' i v s₂ m₂ hA hD hU hP _ hn hm hk
    obtain ⟨a, t, hi, rfl, ho1, ho2, hcs⟩ := item i v hP
    have n1 : s₂.heap.Ns cStatics mc := nmc.at' fun o e => by
      have e2 := w2.base _ o e ok.limx
      exact hk _ (List.mem_range.mpr (Heap.lt_size e2)) hcw o (hhref _ _ e2)
    subst hb1; subst hb2
    refine rep_elt (t := t) (m := m₂) hl1 hl2 ho1 ho2 n1 nmk ?ka ?kb hn hm hd hz hz2 fun k => ?_
    case ka => exact hkind
    case kb => exact hx
    exact ⟨⟨a, t, hi, rfl, hcs⟩, ⟨s₂.heap, k, rfl, fun _ _ e => e⟩⟩
  · intro a h₅ tk gs hgb hag hsz₅ hk₅ W hat
    refine Calls.spliced_nil ?_
    show wpAny _ _ (call (.builtin "str.join") [.str ⟨lsep.toArray⟩ t0, .ref a]) _ _ _
    have e2' : opJoin [.str lsep, .list l] = some res := e2
    unfold opJoin at e2'
    split at e2'
    · rename_i s' l' ee
      cases ee
      split at e2'
      · rename_i ls els
        split at e2' <;> cases e2'
        rename_i hz3
        have hll := toStrs_eq els
        have hn : (passing (fun _ => true) l.length 0) = List.range l.length := passing_all _
        refine SC.joinGen W.in4_2 (fun i s' st => st.1.typeIs) hat ?_ List.mem_cons_self (fun j v hv => ?_) (fun s' lt hm hacc => ?_) ?_
        · intro b hb
          show b < h₅.objs.size
          rw [hsz₅]
          have hag' : h2.objs.size < a := hag
          rcases List.mem_cons.mp hb with rfl | hb
          · exact Nat.lt_succ_self _
          · rcases List.mem_cons.mp hb with rfl | hb
            · exact Nat.lt_succ_of_lt hag'
            · exact Nat.lt_succ_of_lt (Nat.lt_trans (List.mem_range.mp hb) hag')
        · obtain ⟨i, _, a, t, _, rfl, _⟩ := hv
          exact ⟨_, _, rfl⟩
        · have hlen : lt.length = l.length := by
            have := hacc.1
            rw [hn, List.length_range] at this
            simpa [strValues] using this
          have at1 : ∀ j (hj : j < lt.length), ∃ a, ls[j]? = some a ∧ lt[j].1 = ⟨a.toArray⟩ ∧ ∀ c ∈ a, c < 0x110000 := fun j hj => by
            obtain ⟨i, hi, a, t, h1, h2, h3⟩ := hacc.2 j (.str lt[j].1 lt[j].2) (by simp [strValues, List.getElem?_eq_getElem hj])
            rw [hn, List.getElem?_range (hlen ▸ hj)] at hi
            cases hi
            injection h2 with h21 _
            rw [hll, List.getElem?_map] at h1
            obtain ⟨a', ha', e'⟩ := Option.map_eq_some_iff.mp h1
            cases e'
            exact ⟨a, ha', h21, h3⟩
          have hlsl : ls.length = l.length := by rw [hll, List.length_map]
          have hlt : lt.map (·.1) = ls.map fun x => PySem.Str.mk x.toArray := by
            apply List.ext_getElem?
            intro j
            by_cases hj : j < lt.length
            · obtain ⟨a, h1, h2, _⟩ := at1 j hj
              rw [List.getElem?_map, List.getElem?_map, h1, List.getElem?_eq_getElem hj]
              simp [h2]
            · rw [List.getElem?_eq_none (by simpa using hj), List.getElem?_eq_none (by rw [List.length_map, hlsl, ← hlen]; exact Nat.le_of_not_lt hj)]
          have chars : ∀ x ∈ ls, ∀ c ∈ x, c < 0x110000 := fun x hx => by
            obtain ⟨j, hj, e⟩ := List.mem_iff_getElem.mp hx
            obtain ⟨a, h1, _, h3⟩ := at1 j (by rw [hlen, ← hlsl]; exact hj)
            rw [List.getElem?_eq_getElem hj] at h1
            cases h1
            rw [← e]; exact h3
          rw [hlt]
          refine ⟨joinOk_of z0 hz3, fun t' k => ?_⟩
          have keep2 : ∀ b o, b ∉ wr → h2.get? b = some o → s'.heap.get? b = some o := fun b o hb e => by
            refine hm.heap b o (fun hmem => ?_) (hk₅ b o e)
            rcases List.mem_cons.mp hmem with rfl | hmem
            · exact absurd (Heap.lt_size e) (Nat.lt_irrefl _)
            · exact hb hmem
          have nF : ∀ b, F1 b → b ∉ wr := fun b h hm => (J.new b hm).2 h
          have nXw : ∀ b, cx.X b → b ∉ wr := fun b h hm => szX hm ((G.xp b).mp h)
          have wd' : Wd cx F1 s' := by
            refine ⟨fun a o e nx => keep2 a o (nF a (w2.f0 a o e nx)) (w2.base a o e nx), ok.xi _ _ _ _ w2.xi (fun _ h => h) (fun a o h e => keep2 a o (h.elim (nF a) (nXw a)) e), ?_, w2.f0, fun a h => let ⟨o, e⟩ := w2.lt a h; ⟨o, keep2 a o (nF a h) e⟩, w2.nx, fun a h => let ⟨o, e⟩ := w2.xex a h; ⟨o, keep2 a o (nXw a h) e⟩⟩
            have g1 : GenOnlyQ s1.gens.size (s1.gens.push gs) s'.gens := hm.gens
            exact g1.bare (PyProof.Rows.AllBare.push (show PyProof.Rows.AllBare s1.gens from w1.gens) hgb)
          have stf : Step cx F0 s0 F1 s' := by
            refine ⟨J.st.sub, J.st.new, fun a o e nx => keep2 a o (fun hm => by rw [(J.new a hm).1] at e; cases e) (hx2 a o (fun e' => nx ((G.xp a).mpr e')) (J.st.keep a o e nx)), ?_, wd'⟩
            have o1 : s'.os = s1.os := hm.os
            exact o1.trans J.st.os
          unfold Txt.join
          rw [glued_join]
          refine hQ _ F1 _ ((st0.trans stf).toks k) (.val (.str t' (fun c hc => ?_) hz3))
          rcases joinL_mem hc with hc | ⟨x, hx, hc⟩
          · exact p0' c hc
          · exact chars x hx c hc
        · rw [hn, List.length_range]
          have := J.lim
          rw [sizeLine_eq]
          unfold lim at this
          omega
      · cases e2'
    · rename_i hne
      exact (hne _ _ rfl).elim
end
end Mine
end MpZgx
section MpZhx
open PySem PySem.Calls PyProof.Rows PySem.Builtin.Str
namespace Mine
section
variable {cx : XCx} {ε : Sc}
theorem sound_tyname {x : Str} {T : String} {pos : Pos} (hk : ε.kinds.lookup x = some .globalImplicit) (hg : cx.mg x = none) (hn : x ≠ "__name__") (hv : bootBuiltins x = some (.type T)) (hd : (x == ("__debug__" : Str)) = false) : Sound cx ε (.Name x pos) (.const (.ty T)) := by
  refine Sound.ofE ?_ fun _ => rfl
  intro n cf A env F s ρ ad m cm H r hr Q E hQ
  replace hr := (evq_const _).symm.trans hr
  cases hr
  exact load_builtin H hk hg hn hv hd (hQ _ F s (Step.refl H.wd) (.val (.ty T)))
noncomputable abbrev dead : S := .assert (.const (.bool false))
theorem ex_dead {cf : Nat → List D → Option D} {ρ : List Slot} : ex cf dead ρ = none := rfl
theorem soundSs_dead {sts : List Stmt} : SoundSs cx ε sts dead := by
  intro n cf A env F s ρ ad m cm H ρ' o h
  rw [ex_dead] at h; cases h
theorem str2_inv {f : PySem.Str → PySem.Str → R} : ∀ d ds r, opStr2 f (d :: ds) = some r → ∃ l, d = .str l := by
  intro d ds r h
  unfold opStr2 at h
  split at h
  · rename_i a b e; cases e; exact ⟨a, rfl⟩
  · cases h
section
variable {o : Expr} {apos pos : Pos} {es : List Expr} {xo x : X}
theorem m_rfind (hl : (apos.endLine == pos.line) = true) (hb : plainBase o = true) (hn : es.length < 30) (h0 : Sound cx ε o xo) (h : SoundL cx ε es x false) : Sound cx ε (.Call (.Attribute o "rfind" apos) es [] pos) (.op .rfind (.cons xo x)) :=
  sound_strMeth hb hl hn PySem.F.slot_str_rfind rfl h0 h (by intro d ds r h; delta opF at h; dsimp only at h; exact str2_inv d ds r h) op_rfind
theorem m_startswith (hl : (apos.endLine == pos.line) = true) (hb : plainBase o = true) (hn : es.length < 30) (h0 : Sound cx ε o xo) (h : SoundL cx ε es x false) : Sound cx ε (.Call (.Attribute o "startswith" apos) es [] pos) (.op .startswith (.cons xo x)) :=
  sound_strMeth hb hl hn PySem.F.slot_str_startswith rfl h0 h (by intro d ds r h; delta opF at h; dsimp only at h; exact str2_inv d ds r h) op_startswith
theorem m_endswith (hl : (apos.endLine == pos.line) = true) (hb : plainBase o = true) (hn : es.length < 30) (h0 : Sound cx ε o xo) (h : SoundL cx ε es x false) : Sound cx ε (.Call (.Attribute o "endswith" apos) es [] pos) (.op .endswith (.cons xo x)) :=
  sound_strMeth hb hl hn PySem.F.slot_str_endswith rfl h0 h (by intro d ds r h; delta opF at h; dsimp only at h; exact str2_inv d ds r h) op_endswith
theorem m_rstrip (hl : (apos.endLine == pos.line) = true) (hb : plainBase o = true) (hn : es.length < 30) (h0 : Sound cx ε o xo) (h : SoundL cx ε es x false) : Sound cx ε (.Call (.Attribute o "rstrip" apos) es [] pos) (.op .rstrip (.cons xo x)) :=
  sound_strMeth hb hl hn PySem.F.slot_str_rstrip rfl h0 h (by intro d ds r h; delta opF at h; dsimp only at h; exact str2_inv d ds r h) op_rstrip
theorem m_find (hl : (apos.endLine == pos.line) = true) (hb : plainBase o = true) (hn : es.length < 30) (h0 : Sound cx ε o xo) (h : SoundL cx ε es x false) : Sound cx ε (.Call (.Attribute o "find" apos) es [] pos) (.op .find4 (.cons xo x)) :=
  sound_strMeth hb hl hn PySem.F.slot_str_find rfl h0 h (by
    intro d ds r h
    delta opF at h; dsimp only at h
    unfold opFind4 at h
    split at h
    · rename_i e; cases e; exact ⟨_, rfl⟩
    · cases h) op_find4
theorem m_replace (hl : (apos.endLine == pos.line) = true) (hb : plainBase o = true) (hn : es.length < 30) (h0 : Sound cx ε o xo) (h : SoundL cx ε es x false) : Sound cx ε (.Call (.Attribute o "replace" apos) es [] pos) (.op .replace (.cons xo x)) :=
  sound_strMeth hb hl hn PySem.F.slot_str_replace rfl h0 h (by
    intro d ds r h
    delta opF at h; dsimp only at h
    unfold opReplace at h
    split at h
    · rename_i e; cases e; exact ⟨_, rfl⟩
    · cases h) op_replace
end
end
noncomputable def nthBody (p : Program) (n : Nat) : List Stmt := match p.main.body[n]? with
  | some (.FunctionDef _ _ b _ _ _ _ _ _ _) => b
  | _ => []
end Mine
end MpZhx
section MpZix
open PySem PySem.Calls PyProof.Rows PySem.Builtin.Str
namespace Mine
set_option genInjectivity false in
structure GN (cx : XCx) (fs : List (Str × Nat)) (bs : List Str) : Prop where
  f : ∀ x i, (x, i) ∈ fs → cx.mg x = some (.ref (cx.fa i))
  b : ∀ x, x ∈ bs → cx.mg x = none
theorem nfree {ks : List (Str × NameKind)} {x : Str} {k : NameKind} (h : ks.lookup x = some k) (hk : k ≠ .free := by decide) : ks.lookup x ≠ some .free := by
  rw [h]; intro e; cases e; exact hk rfl
theorem one_len {is : List Nat} (h : is.length = 1 := by rfl) : ∀ d ds, one1 d = some ds → ds.length = is.length := by
  intro d ds e; cases e; exact h.symm
noncomputable def compOKb (ε : Sc) (scope : Scope) (xs : List Str) (is : List Nat) : Bool :=
  (scope.kind == .function) && scope.names.all (fun y => y.2 != .cell) && scope.names.all (fun y => y.2 != .local || scope.names.lookup y.1 == some .local) && xs.all (fun x => scope.names.lookup x == some .local)
    && scope.names.all (fun y => y.2 != .free || ((ε.vars.lookup y.1).isSome && ε.kinds.lookup y.1 != some .local)) && ε.vars.all (fun y => !is.contains y.2) && decide xs.Nodup && decide is.Nodup && decide (xs.length = is.length)
theorem compOK_of {ε : Sc} {scope : Scope} {xs : List Str} {is : List Nat} (h : compOKb ε scope xs is = true) : CompOK ε scope xs is := by
  unfold compOKb at h
  simp only [Bool.and_eq_true, decide_eq_true_eq, List.all_eq_true, Bool.or_eq_true, bne_iff_ne, beq_iff_eq, Bool.not_eq_true', ne_eq] at h
  obtain ⟨⟨⟨⟨⟨⟨⟨⟨h1, h2⟩, h3⟩, h4⟩, h5⟩, h6⟩, h7⟩, h8⟩, h9⟩ := h
  refine ⟨h1, h2, fun y hy e => (h3 y hy).elim (fun q => absurd e q) id, h4, fun y k hy e => ?_, fun y j hj hm => ?_, h7, h8, h9⟩
  · rcases h5 (y, k) hy with q | ⟨q1, q2⟩
    · exact absurd e q
    · exact ⟨Option.isSome_iff_exists.mp q1, q2⟩
  · have := h6 (y, j) (lookup_mem hj)
    rw [List.contains_iff_mem.mpr hm] at this
    cases this
theorem pos_nm {x : Str} {p : Pos} : (Expr.Name x p).pos = p := rfl
theorem pos_lc {e : Expr} {g : List Comprehension} {c : Scope} {p : Pos} : (Expr.ListComp e g c p).pos = p := rfl
theorem pos_tu {l : List Expr} {k : Nat} {p : Pos} : (Expr.Tuple l k p).pos = p := rfl
theorem kindOf_ε {env : Env} {ks : List (Str × NameKind)} (h : env.scope.names = ks) (x : Str) : env.kindOf x = ks.lookup x := by unfold Env.kindOf; rw [h]
theorem swapC {ks : List (Str × NameKind)} {elt : Expr} {gens : List Comprehension} {scope : Scope} {pos py : Pos} {y : Str} {line : Nat} (hk : ks.lookup y = some .local) (hp : (py.line == pos.line) = true) (ha : (scope.names.any fun (n, k) => n == y && (k == .local || k == .cell)) = false) :
    ∀ env : Env, env.scope.kind = .function → env.scope.names = ks → swapsWith (.ListComp elt gens scope pos) (some (.Name y py)) line env = pure true := by
  intro env h1 h2
  unfold swapsWith
  have hb : (env.blockKind == .function) = true := by unfold Env.blockKind; rw [h1]; rfl
  simp only [kindOf_ε h2, hk, hb, pos_nm, pos_lc, hp, ha]
  rfl
theorem swapped2 {ks : List (Str × NameKind)} {x y : Str} {p p' pos' posv : Pos} {k kv : Nat} {v1 v2 : Expr} (hx : ks.lookup x = some .local) (hy : ks.lookup y = some .local) (hp : (p'.line == p.line) = true)
    (hs1 : starred v1 = false) (hs2 : starred v2 = false) (hd : ([x, y].eraseDups.length != 2) = false) (hf : [v1, v2].all (foldedForSure 8) = false) (hc : [v1, v2].all (constantsAlone 8) = false) :
    ∀ env : Env, env.scope.kind = .function → env.scope.names = ks → swappedStores [.Tuple [.Name x p, .Name y p'] k pos'] (.Tuple [v1, v2] kv posv) env = pure (some [x, y]) := by
  intro env h1 h2
  have hb : (env.blockKind != .function) = false := by unfold Env.blockKind; rw [h1]; rfl
  unfold swappedStores
  have hp0 : (p.line == p.line) = true := beq_self_eq_true _
  have el : ((some NameKind.local : Option NameKind) == some NameKind.local) = true := rfl
  have hst : ∀ v : Expr, starred v = false → (match v with | .Starred .. => true | _ => false) = false := fun v h => by
    cases v <;> first | rfl | cases h
  simp only [List.length_cons, List.length_nil, List.head?_cons, Option.map_some, Option.getD_some, pos_nm, pos_tu, List.filterMap_cons, List.filterMap_nil, kindOf_ε h2, hx, hy, hp, hp0, el, Bool.and_self, if_true, hb, hf, hc, Bool.or_false]
  simp only [Nat.zero_add, Nat.reduceAdd, hd]
  have h3 : ([v1, v2].any fun x => match x with | .Starred .. => true | _ => false) = false := by
    simp only [List.any_cons, List.any_nil, Bool.or_false, hst v1 hs1, hst v2 hs2]
  exact (if_neg Bool.false_ne_true).trans ((if_neg fun q => Bool.false_ne_true (h3.symm.trans q)).trans rfl)
theorem apart1 {cx : XCx} {G : LamG cx} {p0 : Pos} {q0 : PySem.Str} {g : Pos} (h : G.qs = [(p0, q0)]) (ha : (p0.line != g.line || p0.col != g.col) = true) : ∀ p q, (p, q) ∈ G.qs → p.line ≠ g.line ∨ p.col ≠ g.col := by
  intro p q hm
  rw [h] at hm
  cases List.mem_singleton.mp hm
  simpa using ha
end Mine
end MpZix
section MpZkx
open PySem PySem.Calls PyProof.Rows PySem.Builtin.Str PySem.W
namespace Mine
section
variable {cx : XCx}
theorem len1 {P : List Value → Prop} (h : ∀ a, P [a]) (vs : List Value) (e : vs.length = 1) : P vs := by
  obtain ⟨a, rfl⟩ := List.length_eq_one_iff.mp e
  exact h a
theorem len2 {P : List Value → Prop} (h : ∀ a b, P [a, b]) (vs : List Value) (e : vs.length = 2) : P vs := by
  cases vs with
  | nil => cases e
  | cons a t => exact len1 (P := fun t => P (a :: t)) (h a) t (Nat.succ.inj e)
theorem len3 {P : List Value → Prop} (h : ∀ a b c, P [a, b, c]) (vs : List Value) (e : vs.length = 3) : P vs := by
  cases vs with
  | nil => cases e
  | cons a t => exact len2 (P := fun t => P (a :: t)) (h a) t (Nat.succ.inj e)
theorem bindOK_plain {fd : FuncData} {fn : Fn} {ps : List Str} (hva : fn.va = false) (h : ∀ vs : List Value, vs.length = fn.np → bindArgs fd ⟨vs, []⟩ = pure (ps.zip vs)) : BindOK cx fd fn ps := by
  intro A F s vs args ds ok w q hb Q E hQ
  unfold boundTo at hb
  rw [hva] at hb
  simp only [Bool.false_eq_true, if_false] at hb
  split at hb <;> cases hb
  rename_i hl
  rw [h vs (q.length.trans hl)]
  exact wpAny_pure (hQ F s vs (Step.refl w) q)
theorem bindOK_va {fd : FuncData} {fn : Fn} {x y : Str} (hva : fn.va = true) (hnp : fn.np = 1) (hbd : ∀ v r, bindArgs fd ⟨v :: r, []⟩ = (do let t ← newTuple r; pure [(x, v), (y, t)])) : BindOK cx fd fn [x, y] := by
  intro A F s vs args ds ok w q hb Q E hQ
  unfold boundTo at hb
  rw [hva, hnp] at hb
  simp only [if_true] at hb
  split at hb <;> cases hb
  rename_i hl
  cases q with
  | nil => simp at hl
  | @cons v vs d ds hv hvs =>
    rw [hbd]
    have hz : vs.length ≤ lim := by
      rw [hvs.length]
      have := hl.2
      rw [List.length_cons] at this
      omega
    refine wpAny_bind (wpAny_newTuple ?_ (sz_line hz))
    refine wpAny_pure ?_
    obtain ⟨F3, st3, r⟩ := push_tup ok w s.toks hz hvs
    exact hQ F3 _ [v, _] st3 (.cons (st3.rep w hv) (.cons r .nil))
end
noncomputable def fnOKb (ε : Sc) (fn : Fn) (ps : List Str) : Bool :=
  decide (ps.length = fn.np + (if fn.va then 1 else 0)) && decide ps.Nodup && (ps.zipIdx.all fun y => ε.vars.lookup y.1 == some y.2) && (ε.vars.all fun y => ε.kinds.lookup y.1 == some .local || ε.kinds.lookup y.1 == some .cell) && decide (ε.vars.map (·.2)).Nodup
theorem nodup_snd {l : List (Str × Nat)} (h : (l.map (·.2)).Nodup) {x y : Str} {i : Nat} (h1 : (x, i) ∈ l) (h2 : (y, i) ∈ l) : x = y := by
  induction l with
  | nil => cases h1
  | cons z r ih =>
    rw [List.map_cons] at h
    obtain ⟨n1, n2⟩ := List.nodup_cons.mp h
    rcases List.mem_cons.mp h1 with e1 | h1
    · rcases List.mem_cons.mp h2 with e2 | h2
      · rw [← e2] at e1; exact congrArg Prod.fst e1
      · exact (n1 (List.mem_map.mpr ⟨_, h2, by rw [← e1]⟩)).elim
    · rcases List.mem_cons.mp h2 with e2 | h2
      · exact (n1 (List.mem_map.mpr ⟨_, h1, by rw [← e2]⟩)).elim
      · exact ih n2 h1 h2
theorem FnIs.ofK {cx : XCx} {K : Frag} (X : K.In cx.h0) {ε : Sc} {i : Nat} {a : Addr} {fn : Fn} {body : List Stmt} {ps : List Str} {oc : Value} {od : Option Addr} {osl : Array (Option Value)} {name : Str} {params : Arguments} {scope : Scope} {dV kV doc pm ct : Value} {c : Addr} {an : Option Addr}
    (ha : cx.fa i = a) (nx : ¬ cx.X a) (ho : K.lookup a = some ⟨oc, od, .func (fnOf name name params body scope dV kV doc pm an (.ref c) ct), osl⟩) (hcd : codeIn K (.ref c) name = true) (ncx : ¬ cx.X c) (hc : ∀ c' q, ε.code = some (c', q) → (.ref c : Value) = .ref c' ∧ name ++ ".<locals>." = q)
    (hb : BindOK cx (fnOf name name params body scope dV kV doc pm an (.ref c) ct) fn ps) (names : scope.names = ε.kinds) (co : scope.isCoroutine = false) (gen : scope.isGenerator = false) (kind : scope.kind = .function) (h : fnOKb ε fn ps = true) :
    FnIs cx ε i fn (fnOf name name params body scope dV kV doc pm an (.ref c) ct) body ps := by
  unfold fnOKb at h
  simp only [Bool.and_eq_true, decide_eq_true_eq, List.all_eq_true, Bool.or_eq_true, beq_iff_eq] at h
  obtain ⟨⟨⟨⟨h1, h2⟩, h3⟩, h4⟩, h5⟩ := h
  refine ⟨⟨_, by rw [ha]; exact X _ _ ho, rfl⟩, by rw [ha]; exact nx, ⟨c, rfl, ncx, codeRec_of X hcd⟩, rfl, hc, rfl, rfl, rfl, co, gen, kind, names, hb, fun args ds e => ?_, h2, fun k x e => ?_, fun x j e => h4 (x, j) (lookup_mem e), ⟨fun x y i ex ey => nodup_snd h5 (lookup_mem ex) (lookup_mem ey)⟩⟩
  · unfold boundTo at e
    split at e
    · rename_i hva
      split at e <;> cases e
      rename_i hl
      rw [h1, if_pos hva, List.length_append, List.length_take, List.length_singleton, Nat.min_eq_left hl.1]
    · rename_i hva
      split at e <;> cases e
      rename_i hl
      rw [h1, if_neg hva, hl]; rfl
  · have : (x, k) ∈ ps.zipIdx := List.mem_zipIdx_iff_getElem?.mpr (by simpa using e)
    exact h3 _ this
noncomputable abbrev mkCx (prog : Program) (w : World) (h₁ : Heap) (c P : Addr) (qs : List (Pos × PySem.Str)) (mg mb : Str → Option Value) (fa : Nat → Addr) (T : Nat → Addr) : XCx :=
  { prog := prog, w := w, h0 := ghostOf h₁ [(c, P)], X := fun a => a = P, XI := fun _ => True, T := T, mg := mg, mb := mb, fa := fa, XF := TabXF c P qs }
section
variable {prog : Program} {w : World} {h₁ : Heap} {c P : Addr} {qs : List (Pos × PySem.Str)} {mg mb : Str → Option Value} {fa : Nat → Addr} {p : Program} {loose : List Str} {mean : ExcName → Option Value} {K : Frag}
theorem ghost_none (c : Addr) : (ghostOf h₁ [(c, P)]).get? P = none := hideAll_none _ (by simp)
theorem ghost_nP {a : Addr} {o : Obj} (e : (ghostOf h₁ [(c, P)]).get? a = some o) : a ≠ P := fun q => by rw [q, ghost_none c] at e; cases e
theorem ghost_of {a : Addr} {o : Obj} (e : (ghostOf h₁ [(c, P)]).get? a = some o) : h₁.get? a = some o := of_hideAll _ e
theorem ns_at {h : Heap} {a : Addr} {m : Str → Option Value} (x : h.Ns a m) : ∃ o, h.get? a = some o := let ⟨o, _, _, e, _⟩ := x; ⟨o, e⟩
theorem ghost_seer (hT : TabsAt [(c, P)] h₁) (N : h₁.NoSeer) : (ghostOf h₁ [(c, P)]).NoSeer where
  statics := let ⟨mc, a, b⟩ := N.statics; ⟨mc, ghost_ns hT a, b⟩
  mods := let ⟨mc, a, b⟩ := N.mods; ⟨mc, ghost_ns hT a, b⟩
  imp := let ⟨mc, a, b⟩ := N.imp; ⟨mc, ghost_ns hT a, b⟩
  main := let ⟨mg, bm, ob, a, b, c, d, e⟩ := N.main; ⟨mg, bm, ob, ghost_ns hT a, b, ghost_get hT c (fun q => by rw [q] at d; cases d), d, e⟩
theorem ns_none {K : Frag} {h : Heap} {a : Addr} {m : Str → Option Value} {n : Str} (X : K.In h) (G : h.Ns a m) (e : nsIn K a n = some none) : m n = none := by
  obtain ⟨o, es, ep, ho, hd, _, hf⟩ := G
  unfold nsIn at e
  split at e
  · rename_i c d es' n' sl q
    have := X _ _ q
    rw [ho] at this
    cases this
    cases hd
    split at e
    · cases e
    · rename_i he
      rw [← hf]
      unfold nsFind findBy
      rw [← Array.find?_toList, he]
      rfl
  · cases e
theorem cxOk_of (hT : TabsAt [(c, P)] h₁) (X : K.In (ghostOf h₁ [(c, P)])) (T1 : Top p loose mean mg mb h₁) (hi : importsNone p = true) (htree : prog.given.tree = none) (hnb : nsIn K cStatics sharingNotToldKey = some none) {T : Nat → Addr} (tinj : ∀ i j, T i = T j → i = j) :
    CxOk (mkCx prog w h₁ c P qs mg mb fa T) := by
  have nP : ∀ {a : Addr} {m : Str → Option Value}, (ghostOf h₁ [(c, P)]).Ns a m → ¬ a = P := fun x => let ⟨_, e⟩ := ns_at x; ghost_nP e
  have g := ghost_ns hT T1.g
  have b := ghost_ns hT T1.b
  obtain ⟨mc, s1, s2⟩ := T1.nolimit
  have s := ghost_ns hT s1
  exact ⟨fun F F' h h' x hF hk => x.mono hF hk, g, nP g, b, nP b, T1.builtins, ⟨mc, s, s2⟩, nP s, fun h hk => (ghost_seer hT (T1.seer hi)).keeps fun a o e => hk a o e (ghost_nP e), htree, ⟨mc, s, ns_none X s hnb⟩, tinj⟩
theorem wd_of (hT : TabsAt [(c, P)] h₁) {s : Shared} (hs : s.heap = h₁) (hg : s.gens = #[]) {T : Nat → Addr} : Wd (mkCx prog w h₁ c P qs mg mb fa T) (fun a => ∃ o, (ghostOf h₁ [(c, P)]).get? a = some o) s := by
  subst hs
  obtain ⟨hc, ht⟩ := hT _ List.mem_cons_self
  have C := (ghost_code hT).1
  refine ⟨fun a o e _ => ghost_of e, ⟨?_, hc, #[], ht, trivial, fun pos q _ cv e => by cases e⟩, by rw [hg]; intro g h; simp at h, fun a o e _ => ⟨o, e⟩, fun a ⟨o, e⟩ => ⟨o, ghost_of e⟩, fun a ⟨o, e⟩ => ghost_nP e, fun a e => by subst e; exact ⟨_, ht⟩⟩
  obtain ⟨o, _, _, _, _, _, _, _, _, e, _⟩ := C
  exact ⟨o, e⟩
noncomputable def lamG_of (hT : TabsAt [(c, P)] h₁) (T1 : Top p loose mean mg mb h₁) {T : Nat → Addr} (hq : qs.Pairwise fun a b => a.1.line ≠ b.1.line ∨ a.1.col ≠ b.1.col) : LamG (mkCx prog w h₁ c P qs mg mb fa T) :=
  { c := c, Pt := P, qs := qs, xf := rfl, xp := fun _ => Iff.rfl, apart := hq, blt := by
      obtain ⟨bm, ob, b1, b2, b3, b4, b5, b6⟩ := T1.bmain
      have gb : (ghostOf h₁ [(c, P)]).get? bm = some ob := ghost_get hT b3 fun q => by rw [q] at b4; cases b4
      refine ⟨bm, ob, b1, b2, fun e => ?_, ghost_nP gb, gb, b4, b5, b6⟩
      obtain ⟨o, es, ep, ho, hd, _⟩ := T1.g
      rw [e, ho] at b3
      cases b3
      rw [hd] at b6; cases b6 }
noncomputable def tabKeys (es : Array DictEntry) : Bool := es.toList.all fun e => match e.key with | .int k _ => e.hash == hashInt k | _ => false
noncomputable def tabVals (es : Array DictEntry) : Bool := (List.range 128).all fun c => match findBy Value.isInt es (c : Int) with
  | some (.str x _) => special.contains c && x == ⟨#[92, c]⟩
  | none => !special.contains c
  | _ => false
theorem tabG_of {cx : XCx} (X : K.In cx.h0) {d : Addr} {es : Array DictEntry} {n : Nat} (nx : ¬ cx.X d) (hl : K.lookup d = some ⟨.type "dict", none, .dict es n, #[]⟩) (sys : (d == sysModules) = false) (hk : tabKeys es = true) (hv : tabVals es = true) : ∃ G : TabG cx, G.d = d := by
  unfold tabKeys at hk
  rw [List.all_eq_true] at hk
  unfold tabVals at hv
  rw [List.all_eq_true] at hv
  refine ⟨{ d := d, f := fun k => findBy Value.isInt es k, nx := nx, hm := ⟨_, es, n, X _ _ hl, ⟨rfl, rfl, rfl⟩, rfl, fun e he => ?_, fun _ => rfl⟩, sys := sys, yes := fun c hc hs => ?_, no := fun c hc hs => ?_ }, rfl⟩
  · have := hk e (Array.mem_toList_iff.mpr he)
    split at this
    · rename_i k t e1
      exact ⟨k, by rw [e1]; simp [intKind, Value.isInt], (by simpa using this : e.hash = hashInt k)⟩
    · cases this
  · have := hv c (List.mem_range.mpr hc)
    split at this
    · rename_i x t e1
      simp only [Bool.and_eq_true, beq_iff_eq] at this
      exact ⟨t, by rw [e1, this.2]⟩
    · rw [hs] at this; cases this
    · cases this
  · have := hv c (List.mem_range.mpr hc)
    split at this
    · rw [hs] at this; cases this
    · assumption
    · cases this
end
end Mine
end MpZkx
section MpZlx
open PySem PySem.Calls PyProof.Rows PySem.Builtin.Str PySem.W
namespace Mine
section
variable {cx : XCx}
theorem call_open {ε : Sc} {i : Nat} {fn : Fn} {fd : FuncData} {body : List Stmt} {ps : List Str} (X : FnIs cx ε i fn fd body ps) (ok : CxOk cx) {n : Nat}
    {args : List D} {ρ : List Slot} (hb : bindD fn args = some ρ)
    {A : Around} {F : Addr → Prop} {s : Shared} {vs : List Value} (bud : Bud (n + 1) A) (w : Wd cx F s) (q : RepL cx.T F s.heap vs args) {Rs : Result → Shared → Prop}
    (k : ∀ (A' : Around) (env : Env) (F₁ : Addr → Prop) (s₂ : Shared) (m cm : Str → Option Value) (Q : Flow → Shared → Prop) (E : Value → Shared → Prop), BudE n A' → Wd cx F₁ s₂ → s₂.os = s.os → Frm cx ε env F₁ s₂ ρ (fun _ => 0) m cm → (∀ v s', Rs (.ok (.ret v)) s' → Q (.ret v) s') →
      wpAny (model cx.prog cx.w) A' (execs body env) Q E s₂) : codeAny (model cx.prog cx.w) A (.call (.ref (cx.fa i)) ⟨vs, []⟩) Rs s := by
  obtain ⟨ob, g, hfd⟩ := X.obj
  obtain ⟨c, hcode, ncx, hcd⟩ := X.code
  obtain ⟨ds, kk, hbd, rfl⟩ := bindD_bound hb
  have hroom : A.depth < recursionLimit := by have := bud.dp; show A.depth < 1000; omega
  refine codeAny_call_function hroom (w.base _ _ g X.nx) hfd X.co X.gen X.body (by rw [hcode]; exact hcd.at fun o e => w.base _ o e ncx) ?_
  refine X.bind A.in1 F s vs args ds ok w q hbd _ _ fun F₁ s₁ vs' st₁ q₁ => ?_
  rw [X.clo]
  have hlen : ds.length = ps.length := X.len _ _ hbd
  have hvl : vs'.length = ps.length := q₁.length.trans hlen
  have kindOf : ∀ x, (callEnvC fd s₁.heap.objs.size (cx.fa i)).kindOf x = ε.kinds.lookup x := fun x => by show fd.scope.names.lookup x = _; rw [X.names]
  have inps : ∀ x ∈ ps, ∃ k, ps[k]? = some x := fun x hx => by
    obtain ⟨k, hk, e⟩ := List.mem_iff_getElem.mp hx
    exact ⟨k, by rw [List.getElem?_eq_getElem hk, e]⟩
  have hkind : ∀ x ∈ ps.zip vs', fd.scope.names.lookup x.1 = some .local ∨ (fd.scope.names.lookup x.1 = some .cell ∧ ((cellsFrom (s₁.heap.objs.size + 1) fd.scope.names []).lookup x.1).isSome = true) := by
    intro x hx
    obtain ⟨k, hk⟩ := inps x.1 (List.of_mem_zip hx).1
    rw [X.names]
    rcases X.vk x.1 k (X.pv k x.1 hk) with h | h
    · exact .inl h
    · exact .inr ⟨h, cellsFrom_has (.inr (lookup_mem h))⟩
  refine wpAny_newFunctionEnv_cells X.kind hkind fun env hen s₂ ic => ?_
  have hen' : env = callEnvC fd s₁.heap.objs.size (cx.fa i) := hen
  subst hen'
  obtain ⟨h₂, tk₂, rfl⟩ := ic.toInCall.same
  have keep₂ := ic.toInCall.keep
  have st₂ : Step cx F₁ s₁ F₁ { s₁ with heap := h₂, toks := tk₂ } := Step.grown ok st₁.wd tk₂ keep₂
  have w₂ := st₂.wd
  refine ⟨w₂.lim ok, codeAny_func ?_⟩
  let E₀ : Env := callEnvC fd s₁.heap.objs.size (cx.fa i)
  let m₀ : Str → Option Value := bindL E₀.kindOf (ps.zip vs') fun _ => none
  let cm₀ : Str → Option Value := bindC E₀.kindOf (ps.zip vs') fun _ => none
  have frL : s₁.heap.get? s₁.heap.objs.size = none := fresh_size _
  have frC : ∀ n c, E₀.cells.lookup n = some c → s₁.heap.get? c = none ∧ c ≠ s₁.heap.objs.size := fun n c hc => by
    have hlt : s₁.heap.objs.size < c := ic.above n c (mem_of_lookup hc)
    refine ⟨?_, Nat.ne_of_gt hlt⟩
    cases e : s₁.heap.get? c with
    | none => rfl
    | some o => exact absurd (Heap.lt_size e) (Nat.not_lt.mpr (Nat.le_of_lt hlt))
  have noOwn : ∀ j l, slotAt (ds.map Slot.val ++ List.replicate kk .unset) j ≠ .own l := fun j l e => by
    rw [slotAt_start] at e
    split at e <;> cases e
  have fresh₀ : ∀ a, Mut E₀ (ds.map Slot.val ++ List.replicate kk .unset) (fun _ => 0) a → s₁.heap.get? a = none := fun a h => by
    rcases h with rfl | ⟨n, hn⟩ | ⟨j, l, hj, _⟩
    · exact frL
    · exact (frC n a hn).1
    · exact absurd hj (noOwn j l)
  have slots : ∀ x j, ε.vars.lookup x = some j → (ε.kinds.lookup x = some .local ∧ SlotRep cx F₁ h₂ (fun _ => 0) j (m₀ x) (slotAt (ds.map Slot.val ++ List.replicate kk .unset) j)) ∨
      ((ε.kinds.lookup x = some .cell ∨ ε.kinds.lookup x = some .free) ∧ (∃ c, E₀.cells.lookup x = some c) ∧ SlotRep cx F₁ h₂ (fun _ => 0) j (cm₀ x) (slotAt (ds.map Slot.val ++ List.replicate kk .unset) j)) := by
    intro x j hx
    have look : ∀ dj, ds[j]? = some dj → ps[j]? = some x ∧ ∃ v, vs'[j]? = some v ∧ Rep cx.T F₁ h₂ v dj := fun dj hj => by
      obtain ⟨v, hv, r⟩ := q₁.get hj
      have hlt : j < ps.length := by rw [← hlen]; exact (List.getElem?_eq_some_iff.mp hj).1
      have hp : ps[j]? = some ps[j] := List.getElem?_eq_getElem hlt
      have := X.sc.inj x ps[j] j hx (X.pv j _ hp)
      exact ⟨by rw [hp, this], v, hv, st₂.rep st₁.wd r⟩
    rw [slotAt_start]
    rcases X.vk x j hx with hk | hk
    · left
      refine ⟨hk, ?_⟩
      split
      · rename_i dj hj
        obtain ⟨hp, v, hv, r⟩ := look dj hj
        have : m₀ x = some v := bindL_at (by rw [kindOf]; exact hk) X.nodup hp hv
        rw [this]
        exact .val r
      · exact .unset
    · right
      refine ⟨.inl hk, ?_, ?_⟩
      · refine Option.isSome_iff_exists.mp (cellsFrom_has (.inr ?_))
        rw [X.names]
        exact lookup_mem hk
      · split
        · rename_i dj hj
          obtain ⟨hp, v, hv, r⟩ := look dj hj
          have : cm₀ x = some v := bindC_at (by rw [kindOf, hk]; intro e; cases e) X.nodup hp hv
          rw [this]
          exact .val r
        · exact .unset
  have fr : Frm cx ε E₀ F₁ { s₁ with heap := h₂, toks := tk₂ } (ds.map Slot.val ++ List.replicate kk .unset) (fun _ => 0) m₀ cm₀ := by
    refine ⟨⟨X.kind, X.names, X.glob, X.blt, X.codeAt, st₁.wd.newNotX frL, fun n c hc => st₁.wd.newNotX (frC n c hc).1, ic.toInCall.ns, ic.cell, slots⟩, st₁.wd.newNotF frL, fun n c hc => ⟨st₁.wd.newNotF (frC n c hc).1, (frC n c hc).2⟩, fun n n' c h h' => name_of_addr ic.apart (mem_of_lookup h) (mem_of_lookup h'), fun j _ l _ h => absurd h (noOwn j l), fun j l h => absurd h (noOwn j l)⟩
  have budE : BudE n (A.deeper E₀) := by
    obtain ⟨l, hl⟩ := bud.fs
    refine ⟨⟨bud.hd, by have := bud.dp; show A.depth + 1 + n < 890; omega, by have := bud.un; show A.units + 3 + 10 * n + 200 < 9900; omega, ⟨_, by show A.frames.map _ = _; rw [hl]; rfl⟩⟩, E₀, l, by show A.frames.map _ = _; rw [hl]; rfl, X.gen, X.co, X.blt, X.glob⟩
  exact k (A.deeper E₀) E₀ F₁ _ m₀ cm₀ _ _ budE w₂ (st₁.os) fr fun v s' h => h
end
end Mine
end MpZlx
section MpZmx
open PySem PySem.Calls PyProof.Rows PySem.Builtin.Str PySem.W
namespace Mine
theorem repInts {T T' : Nat → Addr} {F F' : Addr → Prop} {h : Heap} (hF : ∀ a, F a → F' a) {ns : List Int} : ∀ {vs : List Value}, RepL T F h vs (ns.map .int) → RepL T' F' h vs (ns.map .int) := by
  induction ns with
  | nil => intro vs q; cases q; exact .nil
  | cons i ns ih =>
    intro vs q
    cases q with
    | cons a r =>
      generalize hd : D.int i = d at a
      cases a <;> cases hd
      exact .cons (.int _ _) (ih r)
theorem repIntL {T T' : Nat → Addr} {F F' : Addr → Prop} {h : Heap} (hF : ∀ a, F a → F' a) {ns : List Int} {v : Value} (r : Rep T F h v (.list (ns.map .int))) : Rep T' F' h v (.list (ns.map .int)) := by
  cases r with
  | list f g z q => exact .list (hF _ f) g z (repInts hF q)
theorem Frm.retok {cx : XCx} {T' : Nat → Addr} {ε : Sc} {env : Env} {F : Addr → Prop} {s : Shared} {ρ ρ' : List Slot} {ad : Nat → Addr} {m cm : Str → Option Value} (ok : CxOk cx) (w : Wd cx F s) (f : Frm cx ε env F s ρ ad m cm)
    (h : ∀ j, (∃ k, slotAt ρ j = .own [.str (tokC k)] ∧ slotAt ρ' j = .val (.tok k) ∧ T' k = ad j) ∨ ((slotAt ρ j = .unset ∨ ∃ ns : List Int, slotAt ρ j = .val (.list (ns.map .int))) ∧ slotAt ρ' j = slotAt ρ j)) :
    Wd { cx with T := T' } (fun a => F a ∨ ∃ j l, slotAt ρ j = .own l ∧ a = ad j) s ∧ Frm { cx with T := T' } ε env (fun a => F a ∨ ∃ j l, slotAt ρ j = .own l ∧ a = ad j) s ρ' ad m cm := by
  have hsub : ∀ a, F a → (F a ∨ ∃ j l, slotAt ρ j = .own l ∧ a = ad j) := fun _ h => .inl h
  have noOwn : ∀ j l, slotAt ρ' j ≠ .own l := fun j l e => by
    rcases h j with ⟨k, _, e2, _⟩ | ⟨e1, e2⟩
    · rw [e2] at e; cases e
    · rw [e2] at e
      rcases e1 with e1 | ⟨ns, e1⟩ <;> rw [e1] at e <;> cases e
  have slots : ∀ j ov, SlotRep cx F s.heap ad j ov (slotAt ρ j) → SlotRep { cx with T := T' } (fun a => F a ∨ ∃ j l, slotAt ρ j = .own l ∧ a = ad j) s.heap ad j ov (slotAt ρ' j) := by
    intro j ov q
    rcases h j with ⟨k, e1, e2, e3⟩ | ⟨e1, e2⟩
    · rw [e2]
      generalize hsl : slotAt ρ j = sl at q
      rw [e1] at hsl
      subst hsl
      cases q with
      | own nf nx g z q =>
        cases q with
        | cons q1 q2 =>
          cases q2
          cases q1 with
          | str t p z' =>
            rw [← e3]
            exact .val (Rep.tok (T := T') (k := k) (.inr ⟨j, _, e1, e3⟩) (e3 ▸ g))
    · rw [e2]
      rcases e1 with e1 | ⟨ns, e1⟩
      · rw [e1]; exact .unset
      · rw [e1] at q ⊢
        cases q with
        | val q => exact .val (repIntL hsub q)
  refine ⟨⟨w.base, ok.xi _ _ _ _ w.xi hsub (fun _ _ _ e => e), w.gens, fun a o e nx => .inl (w.f0 a o e nx), fun a h => ?_, fun a h => ?_, w.xex⟩,
    ⟨⟨f.en.kind, f.en.names, f.en.glob, f.en.blt, f.en.code, f.en.lx, f.en.cxx, f.en.ns, f.en.cells, fun y j hy => (f.en.vars y j hy).imp (fun ⟨k, q⟩ => ⟨k, slots j _ q⟩) fun ⟨k, c, q⟩ => ⟨k, c, slots j _ q⟩⟩,
      fun h => ?_, fun n c hc => ⟨fun h => ?_, (f.cf n c hc).2⟩, f.cinj, fun i j l _ e => absurd e (noOwn i l), fun i l e => absurd e (noOwn i l)⟩⟩
  · rcases h with h | ⟨j, l, e, rfl⟩
    · exact w.lt a h
    · obtain ⟨_, _, ⟨vs, n, g⟩, _⟩ := f.own j l e
      exact ⟨_, g⟩
  · rcases h with h | ⟨j, l, e, rfl⟩
    · exact w.nx a h
    · exact (f.own j l e).2.1
  · rcases h with h | ⟨j, l, e, q⟩
    · exact f.lf h
    · exact (f.own j l e).2.2.2.1 q.symm
  · rcases h with h | ⟨j, l, e, q⟩
    · exact (f.cf n c hc).1 h
    · exact (f.own j l e).2.2.2.2 n (q ▸ hc)
noncomputable def tokA (a : Nat) (k : Nat) : Nat := if k = 0 then a else a + k
theorem tokA_inj (a : Nat) : ∀ i j, tokA a i = tokA a j → i = j := by
  intro i j e
  unfold tokA at e
  split at e <;> split at e <;> omega
noncomputable abbrev XCx.withT (cx : XCx) (T : Nat → Addr) : XCx := { cx with T := T }
noncomputable def PlainRho (ρ : List Slot) : Prop := ∀ j, slotAt ρ j = .unset ∨ ∃ ns : List Int, slotAt ρ j = .val (.list (ns.map .int))
noncomputable def Inj (T : Nat → Addr) : Prop := ∀ i j, T i = T j → i = j
noncomputable abbrev newTok (i : Nat) (k : Nat) : S := .assignO i (.list (.cons (.const (.str (tokC k))) .nil))
theorem ex_newTok {cf : Nat → List D → Option D} {i k : Nat} {ρ : List Slot} (h : noApp i ρ = true) : ex cf (newTok i k) ρ = some (ρ.set i (.own [.str (tokC k)]), .next) := by
  unfold newTok
  rw [exq_assignO, h, if_pos rfl]
  rfl
theorem law_run1 {cx : XCx} (hcx : ∀ T, Inj T → CxOk (cx.withT T)) {ε : Sc} {i i1 : Nat} {fn : Fn} {fd : FuncData} {st1 : Stmt} {rest : List Stmt} {ps : List Str} {sx : S} {n : Nat} {cf : Nat → List D → Option D} (X : ∀ T, FnIs (cx.withT T) ε i fn fd (st1 :: rest) ps)
    (hc : ∀ T, Inj T → CallOK (cx.withT T) n cf) (h1 : ∀ T, SoundS (cx.withT T) ε st1 (newTok i1 0)) (hs : ∀ T, Inj T → SoundSs (cx.withT T) ε rest sx)
    {ns : List Int} {ρ ρ' : List Slot} (hb : bindD fn [.list (ns.map .int)] = some ρ) (hp : PlainRho ρ) (hn : noApp i1 ρ = true) (hl : i1 < ρ.length)
    (he : ex cf sx (ρ.set i1 (.val (.tok 0))) = some (ρ', .ret (.bool true)))
    {A : Around} {F : Addr → Prop} {s : Shared} {v : Value} (bud : Bud (n + 1) A) (w : Wd cx F s) (q : Rep cx.T F s.heap v (.list (ns.map .int))) {Rs : Result → Shared → Prop}
    (hR : ∀ T F' s', Wd (cx.withT T) F' s' → s'.os = s.os → Rs (.ok (.ret (.bool true))) s') : codeAny (model cx.prog cx.w) A (.call (.ref (cx.fa i)) ⟨[v], []⟩) Rs s := by
  have inj0 : Inj (fun k : Nat => (k : Addr)) := fun i j e => e
  have ok0 := hcx _ inj0
  have w0 : Wd (cx.withT fun k : Nat => (k : Addr)) F s := ⟨w.base, w.xi, w.gens, w.f0, w.lt, w.nx, w.xex⟩
  refine call_open (cx := cx.withT fun k : Nat => (k : Addr)) (X fun k : Nat => (k : Addr)) ok0 hb bud w0 (.cons (repIntL (fun _ h => h) q) .nil) fun A' env F₁ s₂ m cm Q E budE w₂ os fr hQ => ?_
  refine wpAny_execs_cons ?_
  refine h1 (fun k : Nat => (k : Addr)) n cf A' env F₁ s₂ ρ _ m cm ⟨ok0, (X fun k : Nat => (k : Addr)).sc, hc _ inj0, budE, w₂, fr⟩ _ _ (ex_newTok hn) _ _ fun f F' s' ad' m' cm' x fr' out => ?_
  cases out
  let T1 : Nat → Addr := tokA (ad' i1)
  have inj1 : Inj T1 := tokA_inj _
  have hset : ∀ j, slotAt (ρ.set i1 (.own [.str (tokC 0)])) j = if j = i1 then .own [.str (tokC 0)] else slotAt ρ j := fun j => by rw [slotAt_set, if_pos hl]
  have hset' : ∀ j, slotAt (ρ.set i1 (.val (.tok 0))) j = if j = i1 then .val (.tok 0) else slotAt ρ j := fun j => by rw [slotAt_set, if_pos hl]
  obtain ⟨w1, f1⟩ := fr'.retok (T' := T1) (ρ' := ρ.set i1 (.val (.tok 0))) ok0 x.wd fun j => by
    rw [hset, hset']
    by_cases hj : j = i1
    · subst hj
      rw [if_pos rfl, if_pos rfl]
      exact .inl ⟨0, rfl, rfl, rfl⟩
    · rw [if_neg hj, if_neg hj]
      exact .inr ⟨hp j, rfl⟩
  refine hs T1 inj1 n cf A' env _ s' _ ad' m' cm' ⟨hcx _ inj1, (X T1).sc, hc _ inj1, budE, w1, f1⟩ ρ' _ he _ _ fun f F'' s'' ad'' m'' cm'' x' fr'' out' => ?_
  cases out' with
  | ret r =>
    cases r
    exact hQ _ _ (hR T1 F'' s'' x'.wd (x'.os.trans (x.os.trans os)))
end Mine
end MpZmx
section MpZnx
open PySem PySem.Calls PyProof.Rows PySem.Builtin.Str PySem.W
namespace Mine
theorem filter_lookup {β : Type} {p : Nat → Bool} {x : Nat} {j : β} : ∀ {l : List (Nat × β)}, (l.filter fun y => p y.1).lookup x = some j → l.lookup x = some j ∧ p x = true
  | [], e => by cases e
  | (y, b) :: r, e => by
    rw [List.filter_cons] at e
    split at e
    · rename_i hp
      rw [List.lookup_cons] at e ⊢
      cases hx : x == y with
      | true =>
        rw [hx] at e
        exact ⟨e, by rw [beq_iff_eq.mp hx]; exact hp⟩
      | false =>
        rw [hx] at e
        exact filter_lookup e
    · rename_i hp
      obtain ⟨h1, h2⟩ := filter_lookup e
      refine ⟨?_, h2⟩
      rw [List.lookup_cons]
      cases hx : x == y with
      | true => rw [beq_iff_eq.mp hx] at h2; exact absurd h2 hp
      | false => exact h1
noncomputable abbrev dropK (P : Addr) (K : Frag) : Frag := K.filter fun y => (fun a : Nat => a != P) y.1
theorem ghost_filter {K : Frag} {h₁ : Heap} {c P : Addr} (X : K.In h₁) : (dropK P K).In (ghostOf h₁ [(c, P)]) := fun a o e => by
  obtain ⟨h1, h2⟩ := filter_lookup (p := fun a : Nat => a != P) e
  exact hideAll_get _ (X a o h1) (by simpa using h2)
theorem gn_of {cx : XCx} {fs : List (Str × Nat)} {bs : List Str} (h1 : ∀ p ∈ fs, cx.mg p.1 = some (.ref (cx.fa p.2))) (h2 : ∀ x ∈ bs, cx.mg x = none) : GN cx fs bs := ⟨fun x i h => h1 (x, i) h, h2⟩
theorem ints_rep {T : Nat → Addr} {F : Addr → Prop} {h : Heap} : ∀ {vs : List Value} {ns : List Int}, IntsAre vs ns → RepL T F h vs (ns.map .int)
  | _, _, .nil => .nil
  | _, _, .cons n t r => .cons (.int n t) (ints_rep r)
theorem goodWG_of {prog : Program} {w : World} {c P : Addr} {qs : List (Pos × PySem.Str)} {mg mb : Str → Option Value} {fa : Nat → Addr} {T : Nat → Addr} {cw : ClaimW} {cl : Str → Option Addr} {mean : ExcName → Option Value} {args : List WData} {s₁ s' : Shared} {F' : Addr → Prop}
    (hT : TabsAt [(c, P)] s₁.heap) (hr : ∀ x, cw.raises args x = false) (hp : cw.post args (.bool true) args = true) (wd : Wd (mkCx prog w s₁.heap c P qs mg mb fa T) F' s') (os : s'.os = s₁.os) : GoodWG cw cl mean args s₁ (.ok (.ret (.bool true))) s' := by
  obtain ⟨hc, ht⟩ := hT _ List.mem_cons_self
  obtain ⟨_, _, ps, hP, _⟩ := wd.xi
  refine ⟨.inl ⟨.bool true, .bool true, [], rfl, hr, .bool true, hp, fun _ => ⟨List.nodup_nil, fun a h => nomatch h⟩⟩, ⟨fun b o e => ?_, fun b o e => ?_⟩, os, wd.gens⟩
  · by_cases hb : b = P
    · subst hb
      have e2 : o = tabObj #[] := Option.some.inj (e.symm.trans ht)
      subst e2
      exact .inr (.inl ⟨(hc.tab ht).isCodeTable, rfl, #[], ps, rfl, by rw [Array.empty_append]; exact hP⟩)
    · exact .inl (wd.base b o (ghost_ne e (by simpa using hb)) hb)
  · by_cases hb : b = P
    · subst hb
      exact ⟨_, hP⟩
    · exact ⟨o, wd.base b o (ghost_ne e (by simpa using hb)) hb⟩
end Mine
end MpZnx
section MpZjx
open PySem PySem.Calls PyProof.Rows PySem.Builtin.Str
namespace Mine
section
variable {cx : XCx} {ε : Sc}
theorem repL_of {T : Nat → Addr} {F : Addr → Prop} {h : Heap} : ∀ {vs : List Value} {ds : List D}, vs.length = ds.length → (∀ (i : Nat) v d, vs[i]? = some v → ds[i]? = some d → Rep T F h v d) → RepL T F h vs ds
  | [], [], _, _ => .nil
  | v :: vs, d :: ds, hl, hp => .cons (hp 0 v d rfl rfl) (repL_of (by simpa using hl) fun i v d h1 h2 => hp (i + 1) v d h1 h2)
  | [], _ :: _, hl, _ => by simp at hl
  | _ :: _, [], hl, _ => by simp at hl
theorem list_of_range {A : Around} (hh : A.handled = none) {F₀ F : Addr → Prop} {s₀ s : Shared} (ok : CxOk cx) (st : Step cx F₀ s₀ F s) {r : Addr} {a b c : Int} {t u v : Tok} (hr : IsRange s.heap r a b c t u v) (hs : Builtin.Range.small a b c = true)
    {k : Nat} (hk : Builtin.Range.rangeSize a b c = (k : Int)) (hl : k ≤ lim) {Q : Value → Shared → Prop} {E : Value → Shared → Prop} (hQ : Post cx F₀ s₀ (.own ((upTo k a c).map .int)) Q) : wpAny (model cx.prog cx.w) A (call (.type "list") [.ref r]) Q E s := by
  refine call_list_range hh hr hs hk (by unfold lim at hl; omega) fun h' tk acc c' keep hS hacc => ?_
  have hf : s.heap.get? s.heap.objs.size = none := fresh_size _
  have st' := st.trans (Step.grown ok st.wd tk keep)
  have nx := st.wd.newNotX hf
  refine hQ _ _ _ st' (.own (n := c') (st.fresh nx hf) (st.wd.newNotF hf) nx (vs := acc.toList) (by simpa using hS) (by simp [hacc.1]; exact hl) (repL_of (by simp [hacc.1, upTo]) fun i v d h1 h2 => ?_))
  obtain ⟨tk', rfl⟩ := hacc.2 i v (by simpa using h1)
  have hi : i < k := by
    have := (List.getElem?_eq_some_iff.mp h1).1
    simpa [hacc.1] using this
  have : d = .int (a + i * c) := by
    unfold upTo at h2
    rw [List.map_map, List.getElem?_map, List.getElem?_range hi] at h2
    have := Option.some.inj h2
    rw [← this]
    show D.int (a + c * (i : Int)) = _
    rw [Int.mul_comm]
  rw [this]
  exact .int _ tk'
theorem list_range {A : Around} {n : Nat} (hb : BudE n A) {F₀ F : Addr → Prop} {s₀ s : Shared} (ok : CxOk cx) (st : Step cx F₀ s₀ F s) {vs : List Value} {ds : List D} (q : BRepL cx F s.heap vs ds) {l : List D} (hl : opRange ds = some l)
    {Q : Value → Shared → Prop} {E : Value → Shared → Prop} (hQ : Post cx F₀ s₀ (.own l) Q) :
    wpAny (model cx.prog cx.w) A (call (.type "range") vs) (fun v s₁ => wpAny (model cx.prog cx.w) A (call (.type "list") [v]) Q E s₁) E s := by
  unfold opRange at hl
  split at hl
  · rename_i i
    split at hl
    · rename_i hi
      cases hl
      obtain ⟨h1, h2⟩ := Bool.and_eq_true _ _ ▸ hi
      have h2 := of_decide_eq_true h2
      obtain ⟨h3, h4⟩ := small_bd h1
      obtain ⟨v, rfl, q1⟩ := q.one
      obtain ⟨t, rfl⟩ := q1.int_inv
      refine call_range_1 ?_
      have st' := st.trans (Step.push ok st.wd ({ cls := .type "range", data := .fields #[.int 0 s.toks, .int i t, .int 1 (s.toks + 1)] } : Obj) (s.toks + 1 + 1))
      refine list_of_range hb.hd ok st' (IsRange.new s.heap 0 i 1 _ _ _) (small_one (by omega) (by omega) (by omega) (by omega)) (k := (i - 0).toNat) ?_ (by unfold lim; omega) hQ
      rw [rangeSize_one]
      split <;> omega
    · cases hl
  · rename_i a i
    split at hl
    · rename_i hi
      cases hl
      simp only [Bool.and_eq_true, decide_eq_true_eq] at hi
      obtain ⟨⟨h1, h2⟩, h5⟩ := hi
      obtain ⟨h3, h4⟩ := small_bd h1
      obtain ⟨h6, h7⟩ := small_bd h2
      obtain ⟨v, v', rfl, q1, q2⟩ := q.two
      obtain ⟨t, rfl⟩ := q1.int_inv
      obtain ⟨u, rfl⟩ := q2.int_inv
      refine call_range_2 ?_
      have st' := st.trans (Step.push ok st.wd ({ cls := .type "range", data := .fields #[.int a t, .int i u, .int 1 s.toks] } : Obj) (s.toks + 1))
      refine list_of_range hb.hd ok st' (IsRange.new s.heap a i 1 _ _ _) (small_one (by omega) (by omega) (by omega) (by omega)) (k := (i - a).toNat) ?_ (by unfold lim; omega) hQ
      rw [rangeSize_one]
      split <;> omega
    · cases hl
  · rename_i a i c
    split at hl
    · rename_i hi
      cases hl
      obtain ⟨rfl, h1, h2, h5⟩ := hi
      obtain ⟨h3, h4⟩ := small_bd h1
      obtain ⟨h6, h7⟩ := small_bd h2
      cases q with
      | cons q1 q => cases q with | cons q2 q => cases q with | cons q3 q =>
      cases q
      obtain ⟨t, rfl⟩ := q1.int_inv
      obtain ⟨u, rfl⟩ := q2.int_inv
      obtain ⟨x, rfl⟩ := q3.int_inv
      refine call_range_3 (by decide) ?_ (Or.inl (PyProof.noPylong_small (by omega)))
      have st' := st.trans (Step.push ok st.wd ({ cls := .type "range", data := .fields #[.int a t, .int i u, .int (-1) x] } : Obj) s.toks)
      refine list_of_range hb.hd ok st' (IsRange.new s.heap a i (-1) _ _ _) ?_ (k := (a - i).toNat) ?_ (by unfold lim; omega) hQ
      · unfold Builtin.Range.small Builtin.Range.rangeFitsLong Builtin.Range.rangeSize
        simp only [show ¬ ((-1 : Int) > 0) by decide, if_false, Bool.and_eq_true, Bool.or_eq_true, decide_eq_true_eq, beq_iff_eq, show (- -1 : Int) = 1 by decide, Int.ediv_one]
        split <;> omega
      · unfold Builtin.Range.rangeSize
        simp only [show ¬ ((-1 : Int) > 0) by decide, if_false, show (- -1 : Int) = 1 by decide, Int.ediv_one]
        split <;> omega
    · cases hl
  · cases hl
theorem sound_listRange {p p' pos' pos : Pos} {es : List Expr} {x : X} (hk : ε.kinds.lookup ("list" : Str) = some .globalImplicit) (hg : cx.mg ("list" : Str) = none) (hk' : ε.kinds.lookup ("range" : Str) = some .globalImplicit) (hg' : cx.mg ("range" : Str) = none) (h : SoundL cx ε es x false) :
    Sound cx ε (.Call (.Name "list" p) [.Call (.Name "range" p') es [] pos'] [] pos) (.op .listOf (.cons (.rangeI x) .nil)) := by
  refine Sound.ofE ?_ fun _ => rfl
  intro n cf A env F s ρ ad m cm H res he Q E hQ
  obtain ⟨rs, e1, e2⟩ := ev_op he
  obtain ⟨r, rs', e3, e4, rfl⟩ := ev_cons e1
  cases ev_nil e4
  obtain ⟨ds, l, e5, e6, rfl⟩ : ∃ ds l, ev cf x ρ = some ds ∧ opRange (ds.map R.ds) = some l ∧ r = .val (.list l) := by
    replace e3 := (evq_rangeI _).symm.trans e3
    split at e3
    · rename_i ds e
      obtain ⟨l, e7, e8⟩ := Option.map_eq_some_iff.mp e3
      cases e8
      exact ⟨ds, l, e, e7, rfl⟩
    · cases e3
  cases e2
  rw [call_not_method (by intro _ _ _ e; cases e)]
  refine wpAny_bind (load_builtin H hk hg (by decide) (v := .type "list") (by rfl) (by decide) ?_)
  rw [starEach_plain rfl, backTo_plain]
  refine PyProof.Rows.callWith_type rfl (Calls.evalArgs_plain (Calls.spliced_cons ?_))
  rw [call_not_method (by intro _ _ _ e; cases e)]
  refine wpAny_bind (load_builtin H hk' hg' (by decide) (v := .type "range") (by rfl) (by decide) ?_)
  refine PyProof.Rows.callWith_type (backTo_any h) (evalArgs_ok h H e5 fun vs F' s' st q => ?_)
  refine wpAny_mono (list_range H.bud H.ok st q.brep e6 hQ) (fun v s₁ h₁ => ?_) fun _ _ x => x
  exact Calls.spliced_nil h₁
end
end Mine
end MpZjx
section Dsx
open PySem
namespace Mine
noncomputable def s_escape : S := (.seq (.ite (.op .isInst (.cons (.var 0) (.cons (.const (.ty "str")) .nil))) (.seq (.ret (.op .translate (.cons (.var 0) .nil))) .skip) dead) .skip)
noncomputable def fn_escape : Fn := { np := 1, va := false, ns := 1, body := s_escape }
noncomputable def s_translate : S := (.seq (.assignO 3 (.list .nil)) (.seq (.alias 4 3) (.seq (.assign2 5 6 (.tup (.cons (.const (.int 0)) (.cons (.op .len (.cons (.var 0) .nil)) .nil)))) (.seq (.while (.op .lt (.cons (.var 5) (.cons (.var 6) .nil))) (.seq (.assign 7 (.op .index (.cons (.var 0) (.cons (.var 5) .nil)))) (.seq (.assign 5 (.op .add (.cons (.var 5) (.cons (.const (.int 1)) .nil)))) (.seq (.ite (.op .eq (.cons (.var 7) (.cons (.const (.str [42])) .nil))) (.seq (.ite (.or (.not (.var 3)) (.op .isnot (.cons (.op .index (.cons (.var 3) (.cons (.op .neg (.cons (.const (.int 1)) .nil)) .nil))) (.cons (.var 1) .nil)))) (.seq (.appendVia 4 3 (.var 1)) .skip) .skip) .skip) (.seq (.ite (.op .eq (.cons (.var 7) (.cons (.const (.str [63])) .nil))) (.seq (.appendVia 4 3 (.var 2)) .skip) (.seq (.ite (.op .eq (.cons (.var 7) (.cons (.const (.str [91])) .nil))) (.seq (.assign 8 (.var 5)) (.seq (.ite (.and (.op .lt (.cons (.var 8) (.cons (.var 6) .nil))) (.op .eq (.cons (.op .index (.cons (.var 0) (.cons (.var 8) .nil))) (.cons (.const (.str [33])) .nil)))) (.seq (.assign 8 (.op .add (.cons (.var 8) (.cons (.const (.int 1)) .nil)))) .skip) .skip) (.seq (.ite (.and (.op .lt (.cons (.var 8) (.cons (.var 6) .nil))) (.op .eq (.cons (.op .index (.cons (.var 0) (.cons (.var 8) .nil))) (.cons (.const (.str [93])) .nil)))) (.seq (.assign 8 (.op .add (.cons (.var 8) (.cons (.const (.int 1)) .nil)))) .skip) .skip) (.seq (.while (.and (.op .lt (.cons (.var 8) (.cons (.var 6) .nil))) (.op .ne (.cons (.op .index (.cons (.var 0) (.cons (.var 8) .nil))) (.cons (.const (.str [93])) .nil)))) (.seq (.assign 8 (.op .add (.cons (.var 8) (.cons (.const (.int 1)) .nil)))) .skip)) (.seq (.ite (.op .ge (.cons (.var 8) (.cons (.var 6) .nil))) (.seq (.appendVia 4 3 (.const (.str [92, 91]))) .skip) (.seq (.assign 9 (.op .slice (.cons (.var 0) (.cons (.var 5) (.cons (.var 8) .nil))))) (.seq (.ite (.op .notin (.cons (.const (.str [45])) (.cons (.var 9) .nil))) (.seq (.assign 9 (.op .replace (.cons (.var 9) (.cons (.const (.str [92])) (.cons (.const (.str [92, 92])) .nil))))) .skip) (.seq (.assignO 10 (.list .nil)) (.seq (.assign 11 (.ite (.op .eq (.cons (.op .index (.cons (.var 0) (.cons (.var 5) .nil))) (.cons (.const (.str [33])) .nil))) (.op .add (.cons (.var 5) (.cons (.const (.int 2)) .nil))) (.op .add (.cons (.var 5) (.cons (.const (.int 1)) .nil))))) (.seq (.while (.const (.bool true)) (.seq (.assign 11 (.op .find4 (.cons (.var 0) (.cons (.const (.str [45])) (.cons (.var 11) (.cons (.var 8) .nil)))))) (.seq (.ite (.op .lt (.cons (.var 11) (.cons (.const (.int 0)) .nil))) (.seq .brk .skip) .skip) (.seq (.append 10 (.op .slice (.cons (.var 0) (.cons (.var 5) (.cons (.var 11) .nil))))) (.seq (.assign 5 (.op .add (.cons (.var 11) (.cons (.const (.int 1)) .nil)))) (.seq (.assign 11 (.op .add (.cons (.var 11) (.cons (.const (.int 3)) .nil)))) .skip)))))) (.seq (.assign 12 (.op .slice (.cons (.var 0) (.cons (.var 5) (.cons (.var 8) .nil))))) (.seq (.ite (.var 12) (.seq (.append 10 (.var 12)) .skip) (.seq (.augItem 10 (.op .neg (.cons (.const (.int 1)) .nil)) (.const (.str [45]))) .skip)) (.seq (.forE 11 (.rangeI (.cons (.op .sub (.cons (.op .len (.cons (.var 10) .nil)) (.cons (.const (.int 1)) .nil))) (.cons (.const (.int 0)) (.cons (.op .neg (.cons (.const (.int 1)) .nil)) .nil)))) (.seq (.ite (.op .gt (.cons (.op .index (.cons (.op .index (.cons (.var 10) (.cons (.op .sub (.cons (.var 11) (.cons (.const (.int 1)) .nil))) .nil))) (.cons (.op .neg (.cons (.const (.int 1)) .nil)) .nil))) (.cons (.op .index (.cons (.op .index (.cons (.var 10) (.cons (.var 11) .nil))) (.cons (.const (.int 0)) .nil))) .nil))) (.seq (.setItem 10 (.op .sub (.cons (.var 11) (.cons (.const (.int 1)) .nil))) (.op .add (.cons (.op .slice (.cons (.op .index (.cons (.var 10) (.cons (.op .sub (.cons (.var 11) (.cons (.const (.int 1)) .nil))) .nil))) (.cons (.const .none) (.cons (.op .neg (.cons (.const (.int 1)) .nil)) .nil)))) (.cons (.op .slice (.cons (.op .index (.cons (.var 10) (.cons (.var 11) .nil))) (.cons (.const (.int 1)) (.cons (.const .none) .nil)))) .nil)))) (.seq (.delItem 10 (.var 11)) .skip)) .skip) .skip)) (.seq (.seq (.fz 10) (.assign 9 (.op .join (.cons (.const (.str [45])) (.cons (.comp 13 (.seqI (.var 10)) (.const (.bool true)) (repX 13 [92] [92, 92] [45] [92, 45])) .nil))))) .skip)))))))) (.seq (.assign 9 (.op .resub (.cons (.var 9) .nil))) (.seq (.assign 5 (.op .add (.cons (.var 8) (.cons (.const (.int 1)) .nil)))) (.seq (.ite (.not (.var 9)) (.seq (.appendVia 4 3 (.const (.str [40, 63, 33, 41]))) .skip) (.seq (.ite (.op .eq (.cons (.var 9) (.cons (.const (.str [33])) .nil))) (.seq (.appendVia 4 3 (.const (.str [46]))) .skip) (.seq (.ite (.op .eq (.cons (.op .index (.cons (.var 9) (.cons (.const (.int 0)) .nil))) (.cons (.const (.str [33])) .nil))) (.seq (.assign 9 (.op .add (.cons (.const (.str [94])) (.cons (.op .slice (.cons (.var 9) (.cons (.const (.int 1)) (.cons (.const .none) .nil)))) .nil)))) .skip) (.seq (.ite (.op .in_ (.cons (.op .index (.cons (.var 9) (.cons (.const (.int 0)) .nil))) (.cons (.tup (.cons (.const (.str [94])) (.cons (.const (.str [91])) .nil))) .nil))) (.seq (.assign 9 (.op .add (.cons (.const (.str [92])) (.cons (.var 9) .nil)))) .skip) .skip) .skip)) (.seq (.appendVia 4 3 (.op .fmt (.cons (.const (.str [91])) (.cons (.var 9) (.cons (.const (.str [93])) .nil))))) .skip))) .skip)) .skip)))))) .skip))))) (.seq (.appendVia 4 3 (.call 0 (.cons (.var 7) .nil))) .skip)) .skip)) .skip)) .skip)))) (.seq (.assert (.op .eq (.cons (.var 5) (.cons (.var 6) .nil)))) (.seq (.seq (.fz 3) (.ret (.var 3))) .skip))))))
noncomputable def fn_translate : Fn := { np := 3, va := false, ns := 14, body := s_translate }
noncomputable def s_fspath : S := (.seq (.assign 1 (.op .tyOf (.cons (.var 0) .nil))) (.seq (.ite (.op .isSub (.cons (.var 1) (.cons (.tup (.cons (.const (.ty "str")) (.cons (.const (.ty "bytes")) .nil))) .nil))) (.seq (.ret (.var 0)) .skip) .skip) dead))
noncomputable def fn_fspath : Fn := { np := 1, va := false, ns := 4, body := s_fspath }
noncomputable def s_get_sep : S := (.seq (.ite (.op .isInst (.cons (.var 0) (.cons (.const (.ty "bytes")) .nil))) dead (.seq (.ret (.const (.str [47]))) .skip)) .skip)
noncomputable def fn_get_sep : Fn := { np := 1, va := false, ns := 1, body := s_get_sep }
noncomputable def s_join : S := (.seq (.assign 0 (.call 2 (.cons (.var 0) .nil))) (.seq (.assign 2 (.call 3 (.cons (.var 0) .nil))) (.seq (.assign 3 (.var 0)) (.seq (.try_ (.seq (.forE 4 (.seqI (.var 1)) (.seq (.assign 4 (.call 2 (.cons (.var 4) .nil))) (.seq (.ite (.or (.op .startswith (.cons (.var 4) (.cons (.var 2) .nil))) (.not (.var 3))) (.seq (.assign 3 (.var 4)) .skip) (.seq (.ite (.op .endswith (.cons (.var 3) (.cons (.var 2) .nil))) (.seq (.aug 3 (.var 4)) .skip) (.seq (.aug 3 (.op .add (.cons (.var 2) (.cons (.var 4) .nil)))) .skip)) .skip)) .skip))) .skip)) (.seq (.ret (.var 3)) .skip)))))
noncomputable def fn_join : Fn := { np := 1, va := true, ns := 5, body := s_join }
noncomputable def s_split : S := (.seq (.assign 0 (.call 2 (.cons (.var 0) .nil))) (.seq (.assign 1 (.call 3 (.cons (.var 0) .nil))) (.seq (.assign 2 (.op .add (.cons (.op .rfind (.cons (.var 0) (.cons (.var 1) .nil))) (.cons (.const (.int 1)) .nil)))) (.seq (.assign2 3 4 (.tup (.cons (.op .slice (.cons (.var 0) (.cons (.const .none) (.cons (.var 2) .nil)))) (.cons (.op .slice (.cons (.var 0) (.cons (.var 2) (.cons (.const .none) .nil)))) .nil)))) (.seq (.ite (.and (.var 3) (.op .ne (.cons (.var 3) (.cons (.op .mul (.cons (.var 1) (.cons (.op .len (.cons (.var 3) .nil)) .nil))) .nil)))) (.seq (.assign 3 (.op .rstrip (.cons (.var 3) (.cons (.var 1) .nil)))) .skip) .skip) (.seq (.ret (.tup (.cons (.var 3) (.cons (.var 4) .nil)))) .skip))))))
noncomputable def fn_split : Fn := { np := 1, va := false, ns := 5, body := s_split }
noncomputable def s_law_one : S := (.seq (.ite (.or (.op .eq (.cons (.var 0) (.cons (.const (.str [46])) .nil))) (.op .eq (.cons (.var 0) (.cons (.const (.str [40, 63, 33, 41])) .nil)))) (.seq (.ret (.op .eq (.cons (.var 0) (.cons (.const (.str [46])) .nil)))) .skip) .skip) (.seq (.ite (.op .ne (.cons (.op .index (.cons (.var 0) (.cons (.const (.int 0)) .nil))) (.cons (.const (.str [91])) .nil))) (.seq (.ret (.op .eq (.cons (.op .index (.cons (.var 0) (.cons (.op .neg (.cons (.const (.int 1)) .nil)) .nil))) (.cons (.var 1) .nil)))) .skip) .skip) (.seq (.assign 2 (.op .slice (.cons (.var 0) (.cons (.const (.int 1)) (.cons (.op .neg (.cons (.const (.int 1)) .nil)) .nil))))) (.seq (.assign 3 (.op .eq (.cons (.op .index (.cons (.var 2) (.cons (.const (.int 0)) .nil))) (.cons (.const (.str [94])) .nil)))) (.seq (.assign 4 (.ite (.var 3) (.const (.int 1)) (.const (.int 0)))) (.seq (.assign 5 (.const (.bool false))) (.seq (.while (.op .lt (.cons (.var 4) (.cons (.op .len (.cons (.var 2) .nil)) .nil))) (.seq (.ite (.op .eq (.cons (.op .index (.cons (.var 2) (.cons (.var 4) .nil))) (.cons (.const (.str [92])) .nil))) (.seq (.assign 4 (.op .add (.cons (.var 4) (.cons (.const (.int 1)) .nil)))) .skip) .skip) (.seq (.assign 6 (.op .index (.cons (.var 2) (.cons (.var 4) .nil)))) (.seq (.assign 7 (.var 6)) (.seq (.assign 4 (.op .add (.cons (.var 4) (.cons (.const (.int 1)) .nil)))) (.seq (.ite (.and (.op .lt (.cons (.op .add (.cons (.var 4) (.cons (.const (.int 1)) .nil))) (.cons (.op .len (.cons (.var 2) .nil)) .nil))) (.op .eq (.cons (.op .index (.cons (.var 2) (.cons (.var 4) .nil))) (.cons (.const (.str [45])) .nil)))) (.seq (.assign 4 (.op .add (.cons (.var 4) (.cons (.const (.int 1)) .nil)))) (.seq (.ite (.op .eq (.cons (.op .index (.cons (.var 2) (.cons (.var 4) .nil))) (.cons (.const (.str [92])) .nil))) (.seq (.assign 4 (.op .add (.cons (.var 4) (.cons (.const (.int 1)) .nil)))) .skip) .skip) (.seq (.assign 7 (.op .index (.cons (.var 2) (.cons (.var 4) .nil)))) (.seq (.assign 4 (.op .add (.cons (.var 4) (.cons (.const (.int 1)) .nil)))) .skip)))) .skip) (.seq (.ite (.and (.op .le (.cons (.var 6) (.cons (.var 1) .nil))) (.op .le (.cons (.var 1) (.cons (.var 7) .nil)))) (.seq (.assign 5 (.const (.bool true))) .skip) .skip) .skip))))))) (.seq (.ret (.op .ne (.cons (.var 5) (.cons (.var 3) .nil)))) .skip))))))))
noncomputable def fn_law_one : Fn := { np := 2, va := false, ns := 8, body := s_law_one }
noncomputable def s_law_takes : S := (.seq (.assign 3 (.list (.cons (.const (.int 0)) .nil))) (.seq (.forE 4 (.seqI (.var 0)) (.seq (.ite (.op .is_ (.cons (.var 4) (.cons (.var 1) .nil))) (.seq (.assign 3 (.ite (.var 3) (.op .listOf (.cons (.rangeI (.cons (.op .index (.cons (.var 3) (.cons (.const (.int 0)) .nil))) (.cons (.op .add (.cons (.op .len (.cons (.var 2) .nil)) (.cons (.const (.int 1)) .nil))) .nil))) .nil)) (.list .nil))) .skip) (.seq (.assign 3 (.comp 5 (.seqI (.var 3)) (.and (.op .lt (.cons (.var 5) (.cons (.op .len (.cons (.var 2) .nil)) .nil))) (.call 14 (.cons (.var 4) (.cons (.op .index (.cons (.var 2) (.cons (.var 5) .nil))) .nil)))) (.op .add (.cons (.var 5) (.cons (.const (.int 1)) .nil))))) .skip)) .skip)) (.seq (.ret (.op .in_ (.cons (.op .len (.cons (.var 2) .nil)) (.cons (.var 3) .nil)))) .skip)))
noncomputable def fn_law_takes : Fn := { np := 3, va := false, ns := 6, body := s_law_takes }
noncomputable def s_dirname : S := (.seq (.assign 0 (.call 2 (.cons (.var 0) .nil))) (.seq (.assign 1 (.call 3 (.cons (.var 0) .nil))) (.seq (.assign 2 (.op .add (.cons (.op .rfind (.cons (.var 0) (.cons (.var 1) .nil))) (.cons (.const (.int 1)) .nil)))) (.seq (.assign 3 (.op .slice (.cons (.var 0) (.cons (.const .none) (.cons (.var 2) .nil))))) (.seq (.ite (.and (.var 3) (.op .ne (.cons (.var 3) (.cons (.op .mul (.cons (.var 1) (.cons (.op .len (.cons (.var 3) .nil)) .nil))) .nil)))) (.seq (.assign 3 (.op .rstrip (.cons (.var 3) (.cons (.var 1) .nil)))) .skip) .skip) (.seq (.ret (.var 3)) .skip))))))
noncomputable def fn_dirname : Fn := { np := 1, va := false, ns := 4, body := s_dirname }
noncomputable def s_law_means : S := (.seq (.ite (.not (.var 0)) (.seq (.ret (.op .eq (.cons (.var 1) (.cons (.const (.str [])) .nil)))) .skip) .skip) (.seq (.ite (.op .is_ (.cons (.op .index (.cons (.var 0) (.cons (.const (.int 0)) .nil))) (.cons (.const .none) .nil))) (.seq (.ret (.op .ne (.cons (.comp 2 (.rangeI (.cons (.op .add (.cons (.op .len (.cons (.var 1) .nil)) (.cons (.const (.int 1)) .nil))) .nil)) (.call 16 (.cons (.op .slice (.cons (.var 0) (.cons (.const (.int 1)) (.cons (.const .none) .nil)))) (.cons (.op .slice (.cons (.var 1) (.cons (.var 2) (.cons (.const .none) .nil)))) .nil))) (.const (.int 1))) (.cons (.list .nil) .nil)))) .skip) .skip) (.seq (.ret (.and (.op .ne (.cons (.var 1) (.cons (.const (.str [])) .nil))) (.and (.op .in_ (.cons (.op .index (.cons (.var 1) (.cons (.const (.int 0)) .nil))) (.cons (.op .index (.cons (.var 0) (.cons (.const (.int 0)) .nil))) .nil))) (.call 16 (.cons (.op .slice (.cons (.var 0) (.cons (.const (.int 1)) (.cons (.const .none) .nil)))) (.cons (.op .slice (.cons (.var 1) (.cons (.const (.int 1)) (.cons (.const .none) .nil)))) .nil)))))) .skip)))
noncomputable def fn_law_means : Fn := { np := 2, va := false, ns := 3, body := s_law_means }
noncomputable def s_law_dressed : S := (.seq (.assign 1 (.tup (.cons (.tup (.cons (.const (.str [42])) (.cons (.list (.cons (.const .none) .nil)) .nil))) (.cons (.tup (.cons (.const (.str [97])) (.cons (.list (.cons (.const (.str [97])) .nil)) .nil))) (.cons (.tup (.cons (.const (.str [97, 42])) (.cons (.list (.cons (.const (.str [97])) (.cons (.const .none) .nil))) .nil))) (.cons (.tup (.cons (.const (.str [63])) (.cons (.list (.cons (.const (.str [46, 97, 98])) .nil)) .nil))) (.cons (.tup (.cons (.const (.str [91, 33, 97, 93, 42])) (.cons (.list (.cons (.const (.str [46, 98])) (.cons (.const .none) .nil))) .nil))) (.cons (.tup (.cons (.const (.str [42, 98])) (.cons (.list (.cons (.const .none) (.cons (.const (.str [98])) .nil))) .nil))) (.cons (.tup (.cons (.const (.str [91, 46, 45, 97, 93, 63])) (.cons (.list (.cons (.const (.str [46, 97])) (.cons (.const (.str [46, 97, 98])) .nil))) .nil))) (.cons (.tup (.cons (.const (.str [46, 42])) (.cons (.list (.cons (.const (.str [46])) (.cons (.const .none) .nil))) .nil))) (.cons (.tup (.cons (.const (.str [91, 98, 45, 97, 93])) (.cons (.list (.cons (.const (.str [])) .nil)) .nil))) (.cons (.tup (.cons (.const (.str [91, 33, 98, 45, 97, 93, 98])) (.cons (.list (.cons (.const (.str [46, 97, 98])) (.cons (.const (.str [98])) .nil))) .nil))) (.cons (.tup (.cons (.const (.str [98])) (.cons (.list (.cons (.const (.str [98])) .nil)) .nil))) (.cons (.tup (.cons (.const (.str [42, 91, 97, 98, 93])) (.cons (.list (.cons (.const .none) (.cons (.const (.str [97, 98])) .nil))) .nil))) (.cons (.tup (.cons (.const (.str [97, 63, 98])) (.cons (.list (.cons (.const (.str [97])) (.cons (.const (.str [46, 97, 98])) (.cons (.const (.str [98])) .nil)))) .nil))) .nil))))))))))))))) (.seq (.ret (.op .index (.cons (.var 1) (.cons (.op .mod (.cons (.var 0) (.cons (.const (.int 13)) .nil))) .nil)))) .skip))
noncomputable def fn_law_dressed : Fn := { np := 1, va := false, ns := 2, body := s_law_dressed }
noncomputable def s_law_hits : S := (.seq (.assign2 3 4 (.call 5 (.cons (.var 1) .nil))) (.seq (.ite (.not (.call 15 (.cons (.op .index (.cons (.op .index (.cons (.var 0) (.cons (.const (.int 4)) .nil))) (.cons (.const (.int 0)) .nil))) (.cons (.var 2) (.cons (.var 4) .nil))))) (.seq (.ret (.const (.bool false))) .skip) .skip) (.seq (.ite (.op .eq (.cons (.op .index (.cons (.var 0) (.cons (.const (.int 1)) .nil))) (.cons (.const (.int 0)) .nil))) (.seq (.ret (.const (.bool true))) .skip) .skip) (.seq (.ite (.op .eq (.cons (.op .index (.cons (.var 0) (.cons (.const (.int 1)) .nil))) (.cons (.const (.int 1)) .nil))) (.seq (.ret (.op .eq (.cons (.var 3) (.cons (.const (.str [])) .nil)))) .skip) .skip) (.seq (.ret (.and (.op .ne (.cons (.var 3) (.cons (.const (.str [])) .nil))) (.and (.op .eq (.cons (.call 6 (.cons (.var 3) .nil)) (.cons (.const (.str [])) .nil))) (.call 15 (.cons (.op .index (.cons (.op .index (.cons (.var 0) (.cons (.const (.int 4)) .nil))) (.cons (.const (.int 1)) .nil))) (.cons (.var 2) (.cons (.var 3) .nil))))))) .skip)))))
noncomputable def fn_law_hits : Fn := { np := 3, va := false, ns := 5, body := s_law_hits }
noncomputable def s_law_out : S := (.seq (.assign 3 (.call 6 (.cons (.var 1) .nil))) (.seq (.ite (.and (.op .ne (.cons (.var 3) (.cons (.const (.str [])) .nil))) (.call 24 (.cons (.var 0) (.cons (.var 3) (.cons (.var 2) .nil))))) (.seq (.ret (.const (.bool true))) .skip) .skip) (.seq (.assign 4 (.const (.bool false))) (.seq (.forE 5 (.seqI (.var 0)) (.seq (.ite (.and (.op .ne (.cons (.op .index (.cons (.var 5) (.cons (.const (.int 0)) .nil))) (.cons (.var 4) .nil))) (.call 23 (.cons (.var 5) (.cons (.var 1) (.cons (.var 2) .nil))))) (.seq (.assign 4 (.op .index (.cons (.var 5) (.cons (.const (.int 0)) .nil)))) .skip) .skip) .skip)) (.seq (.ret (.var 4)) .skip)))))
noncomputable def fn_law_out : Fn := { np := 3, va := false, ns := 6, body := s_law_out }
noncomputable def s_law_met : S := (.seq (.assignO 3 (.list .nil)) (.seq (.forE 4 (.seqI (.var 1)) (.seq (.ite (.op .eq (.cons (.op .slice (.cons (.var 4) (.cons (.const .none) (.cons (.op .neg (.cons (.const (.int 1)) .nil)) .nil)))) (.cons (.var 2) .nil))) (.seq (.assign 5 (.const (.bool false))) (.seq (.forN [6, 7, 8, 9, 10] (.seqI (.var 0)) (.seq (.assign 11 (.call 16 (.cons (.var 8) (.cons (.op .index (.cons (.var 4) (.cons (.op .neg (.cons (.const (.int 1)) .nil)) .nil))) .nil)))) (.seq (.ite (.op .eq (.cons (.var 7) (.cons (.const (.int 1)) .nil))) (.seq (.assign 11 (.and (.var 11) (.op .eq (.cons (.op .len (.cons (.var 4) .nil)) (.cons (.const (.int 1)) .nil))))) .skip) (.seq (.ite (.op .eq (.cons (.var 7) (.cons (.const (.int 2)) .nil))) (.seq (.assign 11 (.and (.var 11) (.and (.op .eq (.cons (.op .len (.cons (.var 4) .nil)) (.cons (.const (.int 2)) .nil))) (.call 16 (.cons (.var 9) (.cons (.op .index (.cons (.var 4) (.cons (.const (.int 0)) .nil))) .nil)))))) .skip) .skip) .skip)) (.seq (.ite (.var 11) (.seq (.assign 5 (.var 6)) .skip) .skip) .skip)))) (.seq (.ite (.not (.var 5)) (.seq (.append 3 (.var 4)) (.seq (.extend 3 (.call 25 (.cons (.var 0) (.cons (.var 1) (.cons (.var 4) .nil))))) .skip)) .skip) .skip))) .skip) .skip)) (.seq (.seq (.fz 3) (.ret (.var 3))) .skip)))
noncomputable def fn_law_met : Fn := { np := 3, va := false, ns := 12, body := s_law_met }
end Mine
end Dsx
section D03x
open PySem
namespace Mine
noncomputable def s_law : S := (.seq (.assign 3 (.comp 13 (.rangeI (.cons (.const (.int 11)) .nil)) (.const (.bool true)) (.op .abs (.cons (.op .sum (.cons (.op .slice3 (.cons (.var 0) (.cons (.var 13) (.cons (.const .none) (.cons (.const (.int 11)) .nil))))) .nil)) .nil)))) (.seq (.assignO 4 (.list .nil)) (.seq (.forE 2 (.rangeI (.cons (.const (.int 6)) .nil)) (.seq (.assign 5 (.op .add (.cons (.op .index (.cons (.var 3) (.cons (.var 2) .nil))) (.cons (.op .index (.cons (.tup (.cons (.const (.int 0)) (.cons (.const (.int 7)) (.cons (.const (.int 44)) (.cons (.const (.int 83)) (.cons (.const (.int 122)) (.cons (.const (.int 190)) .nil))))))) (.cons (.var 2) .nil))) .nil)))) (.seq (.assignO 6 (.list .nil)) (.seq (.forE 7 (.rangeI (.cons (.ite (.op .gt (.cons (.var 5) (.cons (.const (.int 215)) .nil))) (.op .add (.cons (.const (.int 1)) (.cons (.op .mod (.cons (.op .fdiv (.cons (.var 5) (.cons (.const (.int 216)) .nil))) (.cons (.const (.int 3)) .nil))) .nil))) (.const (.int 2))) .nil)) (.seq (.append 6 (.op .index (.cons (.tup (.cons (.const (.str [97])) (.cons (.const (.str [98])) (.cons (.const (.str [46, 97])) (.cons (.const (.str [97, 98])) (.cons (.const (.str [98, 97, 98])) (.cons (.const (.str [98, 46, 98])) .nil))))))) (.cons (.op .mod (.cons (.var 5) (.cons (.const (.int 6)) .nil))) .nil)))) (.seq (.assign 5 (.op .fdiv (.cons (.var 5) (.cons (.const (.int 6)) .nil)))) (.seq (.ite (.op .notin (.cons (.var 6) (.cons (.var 4) .nil))) (.seq (.append 4 (.op .slice (.cons (.var 6) (.cons (.const .none) (.cons (.const .none) .nil))))) .skip) .skip) .skip)))) .skip)))) (.seq (.assignO 8 (.list .nil)) (.seq (.forE 2 (.rangeI (.cons (.const (.int 5)) .nil)) (.seq (.assign 5 (.op .add (.cons (.op .index (.cons (.var 3) (.cons (.op .add (.cons (.const (.int 6)) (.cons (.var 2) .nil))) .nil))) (.cons (.op .index (.cons (.tup (.cons (.const (.int 25)) (.cons (.const (.int 42)) (.cons (.const (.int 143)) (.cons (.const (.int 20)) (.cons (.const (.int 31)) .nil)))))) (.cons (.var 2) .nil))) .nil)))) (.seq (.assign 9 (.call 17 (.cons (.op .fdiv (.cons (.var 5) (.cons (.const (.int 6)) .nil))) .nil))) (.seq (.assign 10 (.call 17 (.cons (.op .fdiv (.cons (.var 5) (.cons (.const (.int 78)) .nil))) .nil))) (.seq (.assign 11 (.list (.cons (.call 1 (.cons (.op .index (.cons (.var 9) (.cons (.const (.int 0)) .nil))) (.cons (.var 1) (.cons (.const (.str [46])) .nil)))) (.cons (.call 1 (.cons (.op .index (.cons (.var 10) (.cons (.const (.int 0)) .nil))) (.cons (.var 1) (.cons (.const (.str [46])) .nil)))) .nil)))) (.seq (.append 8 (.tup (.cons (.op .eq (.cons (.op .mod (.cons (.var 5) (.cons (.const (.int 2)) .nil))) (.cons (.const (.int 1)) .nil))) (.cons (.op .mod (.cons (.op .fdiv (.cons (.var 5) (.cons (.const (.int 2)) .nil))) (.cons (.const (.int 3)) .nil))) (.cons (.op .index (.cons (.var 9) (.cons (.const (.int 1)) .nil))) (.cons (.op .index (.cons (.var 10) (.cons (.const (.int 1)) .nil))) (.cons (.var 11) .nil))))))) .skip)))))) (.seq (.seq (.fz 4) (.seq (.fz 8) (.assign 12 (.call 25 (.cons (.var 8) (.cons (.var 4) (.cons (.list .nil) .nil))))))) (.seq (.seq (.fz 4) (.forE 6 (.seqI (.var 4)) (.seq (.seq (.fz 6) (.seq (.fz 8) (.ite (.op .ne (.cons (.call 24 (.cons (.var 8) (.cons (.call 4 (.star (.var 6))) (.cons (.var 1) .nil)))) (.cons (.op .notin (.cons (.var 6) (.cons (.var 12) .nil))) .nil))) (.seq (.ret (.const (.bool false))) .skip) .skip))) .skip))) (.seq (.ret (.const (.bool true))) .skip))))))))
noncomputable def fn_law : Fn := { np := 1, va := false, ns := 14, body := s_law }
end Mine
end D03x
section W03x
open PySem PySem.Calls PyProof.Rows PySem.Builtin.Str
set_option maxHeartbeats 4000000
namespace Mine
theorem nn_QUESTION_MARK : (PySem.Str.ofString "QUESTION_MARK" == (PySem.Str.ofString "__classdict__")) = false ∧ (PySem.Str.ofString "QUESTION_MARK" == (PySem.Str.ofString "__debug__")) = false := ⟨rfl, rfl⟩
theorem nn_STAR : (PySem.Str.ofString "STAR" == (PySem.Str.ofString "__classdict__")) = false ∧ (PySem.Str.ofString "STAR" == (PySem.Str.ofString "__debug__")) = false := ⟨rfl, rfl⟩
theorem nn_a : (PySem.Str.ofString "a" == (PySem.Str.ofString "__classdict__")) = false ∧ (PySem.Str.ofString "a" == (PySem.Str.ofString "__debug__")) = false := ⟨rfl, rfl⟩
theorem nn_above : (PySem.Str.ofString "above" == (PySem.Str.ofString "__classdict__")) = false ∧ (PySem.Str.ofString "above" == (PySem.Str.ofString "__debug__")) = false := ⟨rfl, rfl⟩
theorem nn_add : (PySem.Str.ofString "add" == (PySem.Str.ofString "__classdict__")) = false ∧ (PySem.Str.ofString "add" == (PySem.Str.ofString "__debug__")) = false := ⟨rfl, rfl⟩
theorem nn_at : (PySem.Str.ofString "at" == (PySem.Str.ofString "__classdict__")) = false ∧ (PySem.Str.ofString "at" == (PySem.Str.ofString "__debug__")) = false := ⟨rfl, rfl⟩
theorem nn_b : (PySem.Str.ofString "b" == (PySem.Str.ofString "__classdict__")) = false ∧ (PySem.Str.ofString "b" == (PySem.Str.ofString "__debug__")) = false := ⟨rfl, rfl⟩
theorem nn_barred : (PySem.Str.ofString "barred" == (PySem.Str.ofString "__classdict__")) = false ∧ (PySem.Str.ofString "barred" == (PySem.Str.ofString "__debug__")) = false := ⟨rfl, rfl⟩
theorem nn_body : (PySem.Str.ofString "body" == (PySem.Str.ofString "__classdict__")) = false ∧ (PySem.Str.ofString "body" == (PySem.Str.ofString "__debug__")) = false := ⟨rfl, rfl⟩
theorem nn_c : (PySem.Str.ofString "c" == (PySem.Str.ofString "__classdict__")) = false ∧ (PySem.Str.ofString "c" == (PySem.Str.ofString "__debug__")) = false := ⟨rfl, rfl⟩
theorem nn_chunk : (PySem.Str.ofString "chunk" == (PySem.Str.ofString "__classdict__")) = false ∧ (PySem.Str.ofString "chunk" == (PySem.Str.ofString "__debug__")) = false := ⟨rfl, rfl⟩
theorem nn_chunks : (PySem.Str.ofString "chunks" == (PySem.Str.ofString "__classdict__")) = false ∧ (PySem.Str.ofString "chunks" == (PySem.Str.ofString "__debug__")) = false := ⟨rfl, rfl⟩
theorem nn_code : (PySem.Str.ofString "code" == (PySem.Str.ofString "__classdict__")) = false ∧ (PySem.Str.ofString "code" == (PySem.Str.ofString "__debug__")) = false := ⟨rfl, rfl⟩
theorem nn_folder : (PySem.Str.ofString "folder" == (PySem.Str.ofString "__classdict__")) = false ∧ (PySem.Str.ofString "folder" == (PySem.Str.ofString "__debug__")) = false := ⟨rfl, rfl⟩
theorem nn_found : (PySem.Str.ofString "found" == (PySem.Str.ofString "__classdict__")) = false ∧ (PySem.Str.ofString "found" == (PySem.Str.ofString "__debug__")) = false := ⟨rfl, rfl⟩
theorem nn_head : (PySem.Str.ofString "head" == (PySem.Str.ofString "__classdict__")) = false ∧ (PySem.Str.ofString "head" == (PySem.Str.ofString "__debug__")) = false := ⟨rfl, rfl⟩
theorem nn_high : (PySem.Str.ofString "high" == (PySem.Str.ofString "__classdict__")) = false ∧ (PySem.Str.ofString "high" == (PySem.Str.ofString "__debug__")) = false := ⟨rfl, rfl⟩
theorem nn_hit : (PySem.Str.ofString "hit" == (PySem.Str.ofString "__classdict__")) = false ∧ (PySem.Str.ofString "hit" == (PySem.Str.ofString "__debug__")) = false := ⟨rfl, rfl⟩
theorem nn_i : (PySem.Str.ofString "i" == (PySem.Str.ofString "__classdict__")) = false ∧ (PySem.Str.ofString "i" == (PySem.Str.ofString "__debug__")) = false := ⟨rfl, rfl⟩
theorem nn_items : (PySem.Str.ofString "items" == (PySem.Str.ofString "__classdict__")) = false ∧ (PySem.Str.ofString "items" == (PySem.Str.ofString "__debug__")) = false := ⟨rfl, rfl⟩
theorem nn_j : (PySem.Str.ofString "j" == (PySem.Str.ofString "__classdict__")) = false ∧ (PySem.Str.ofString "j" == (PySem.Str.ofString "__debug__")) = false := ⟨rfl, rfl⟩
theorem nn_k : (PySem.Str.ofString "k" == (PySem.Str.ofString "__classdict__")) = false ∧ (PySem.Str.ofString "k" == (PySem.Str.ofString "__debug__")) = false := ⟨rfl, rfl⟩
theorem nn_kind : (PySem.Str.ofString "kind" == (PySem.Str.ofString "__classdict__")) = false ∧ (PySem.Str.ofString "kind" == (PySem.Str.ofString "__debug__")) = false := ⟨rfl, rfl⟩
theorem nn_leaves : (PySem.Str.ofString "leaves" == (PySem.Str.ofString "__classdict__")) = false ∧ (PySem.Str.ofString "leaves" == (PySem.Str.ofString "__debug__")) = false := ⟨rfl, rfl⟩
theorem nn_left : (PySem.Str.ofString "left" == (PySem.Str.ofString "__classdict__")) = false ∧ (PySem.Str.ofString "left" == (PySem.Str.ofString "__debug__")) = false := ⟨rfl, rfl⟩
theorem nn_lists : (PySem.Str.ofString "lists" == (PySem.Str.ofString "__classdict__")) = false ∧ (PySem.Str.ofString "lists" == (PySem.Str.ofString "__debug__")) = false := ⟨rfl, rfl⟩
theorem nn_low : (PySem.Str.ofString "low" == (PySem.Str.ofString "__classdict__")) = false ∧ (PySem.Str.ofString "low" == (PySem.Str.ofString "__debug__")) = false := ⟨rfl, rfl⟩
theorem nn_met : (PySem.Str.ofString "met" == (PySem.Str.ofString "__classdict__")) = false ∧ (PySem.Str.ofString "met" == (PySem.Str.ofString "__debug__")) = false := ⟨rfl, rfl⟩
theorem nn_n : (PySem.Str.ofString "n" == (PySem.Str.ofString "__classdict__")) = false ∧ (PySem.Str.ofString "n" == (PySem.Str.ofString "__debug__")) = false := ⟨rfl, rfl⟩
theorem nn_name : (PySem.Str.ofString "name" == (PySem.Str.ofString "__classdict__")) = false ∧ (PySem.Str.ofString "name" == (PySem.Str.ofString "__debug__")) = false := ⟨rfl, rfl⟩
theorem nn_names : (PySem.Str.ofString "names" == (PySem.Str.ofString "__classdict__")) = false ∧ (PySem.Str.ofString "names" == (PySem.Str.ofString "__debug__")) = false := ⟨rfl, rfl⟩
theorem nn_out : (PySem.Str.ofString "out" == (PySem.Str.ofString "__classdict__")) = false ∧ (PySem.Str.ofString "out" == (PySem.Str.ofString "__debug__")) = false := ⟨rfl, rfl⟩
theorem nn_own : (PySem.Str.ofString "own" == (PySem.Str.ofString "__classdict__")) = false ∧ (PySem.Str.ofString "own" == (PySem.Str.ofString "__debug__")) = false := ⟨rfl, rfl⟩
theorem nn_p : (PySem.Str.ofString "p" == (PySem.Str.ofString "__classdict__")) = false ∧ (PySem.Str.ofString "p" == (PySem.Str.ofString "__debug__")) = false := ⟨rfl, rfl⟩
theorem nn_part : (PySem.Str.ofString "part" == (PySem.Str.ofString "__classdict__")) = false ∧ (PySem.Str.ofString "part" == (PySem.Str.ofString "__debug__")) = false := ⟨rfl, rfl⟩
theorem nn_parts : (PySem.Str.ofString "parts" == (PySem.Str.ofString "__classdict__")) = false ∧ (PySem.Str.ofString "parts" == (PySem.Str.ofString "__debug__")) = false := ⟨rfl, rfl⟩
theorem nn_pat : (PySem.Str.ofString "pat" == (PySem.Str.ofString "__classdict__")) = false ∧ (PySem.Str.ofString "pat" == (PySem.Str.ofString "__debug__")) = false := ⟨rfl, rfl⟩
theorem nn_path : (PySem.Str.ofString "path" == (PySem.Str.ofString "__classdict__")) = false ∧ (PySem.Str.ofString "path" == (PySem.Str.ofString "__debug__")) = false := ⟨rfl, rfl⟩
theorem nn_pattern : (PySem.Str.ofString "pattern" == (PySem.Str.ofString "__classdict__")) = false ∧ (PySem.Str.ofString "pattern" == (PySem.Str.ofString "__debug__")) = false := ⟨rfl, rfl⟩
theorem nn_pieces : (PySem.Str.ofString "pieces" == (PySem.Str.ofString "__classdict__")) = false ∧ (PySem.Str.ofString "pieces" == (PySem.Str.ofString "__debug__")) = false := ⟨rfl, rfl⟩
theorem nn_res : (PySem.Str.ofString "res" == (PySem.Str.ofString "__classdict__")) = false ∧ (PySem.Str.ofString "res" == (PySem.Str.ofString "__debug__")) = false := ⟨rfl, rfl⟩
theorem nn_rule : (PySem.Str.ofString "rule" == (PySem.Str.ofString "__classdict__")) = false ∧ (PySem.Str.ofString "rule" == (PySem.Str.ofString "__debug__")) = false := ⟨rfl, rfl⟩
theorem nn_rules : (PySem.Str.ofString "rules" == (PySem.Str.ofString "__classdict__")) = false ∧ (PySem.Str.ofString "rules" == (PySem.Str.ofString "__debug__")) = false := ⟨rfl, rfl⟩
theorem nn_script : (PySem.Str.ofString "script" == (PySem.Str.ofString "__classdict__")) = false ∧ (PySem.Str.ofString "script" == (PySem.Str.ofString "__debug__")) = false := ⟨rfl, rfl⟩
theorem nn_sep : (PySem.Str.ofString "sep" == (PySem.Str.ofString "__classdict__")) = false ∧ (PySem.Str.ofString "sep" == (PySem.Str.ofString "__debug__")) = false := ⟨rfl, rfl⟩
theorem nn_sign : (PySem.Str.ofString "sign" == (PySem.Str.ofString "__classdict__")) = false ∧ (PySem.Str.ofString "sign" == (PySem.Str.ofString "__debug__")) = false := ⟨rfl, rfl⟩
theorem nn_star : (PySem.Str.ofString "star" == (PySem.Str.ofString "__classdict__")) = false ∧ (PySem.Str.ofString "star" == (PySem.Str.ofString "__debug__")) = false := ⟨rfl, rfl⟩
theorem nn_stuff : (PySem.Str.ofString "stuff" == (PySem.Str.ofString "__classdict__")) = false ∧ (PySem.Str.ofString "stuff" == (PySem.Str.ofString "__debug__")) = false := ⟨rfl, rfl⟩
theorem nn_sums : (PySem.Str.ofString "sums" == (PySem.Str.ofString "__classdict__")) = false ∧ (PySem.Str.ofString "sums" == (PySem.Str.ofString "__debug__")) = false := ⟨rfl, rfl⟩
theorem nn_tail : (PySem.Str.ofString "tail" == (PySem.Str.ofString "__classdict__")) = false ∧ (PySem.Str.ofString "tail" == (PySem.Str.ofString "__debug__")) = false := ⟨rfl, rfl⟩
theorem nn_tree : (PySem.Str.ofString "tree" == (PySem.Str.ofString "__classdict__")) = false ∧ (PySem.Str.ofString "tree" == (PySem.Str.ofString "__debug__")) = false := ⟨rfl, rfl⟩
noncomputable abbrev fs03 : List (Str × Nat) := [(PySem.Str.ofString "escape", 0), (PySem.Str.ofString "_translate", 1), (PySem.Str.ofString "fspath", 2), (PySem.Str.ofString "_get_sep", 3), (PySem.Str.ofString "join", 4), (PySem.Str.ofString "split", 5), (PySem.Str.ofString "dirname", 6), (PySem.Str.ofString "_law_one", 14), (PySem.Str.ofString "_law_takes", 15), (PySem.Str.ofString "_law_means", 16), (PySem.Str.ofString "_law_dressed", 17), (PySem.Str.ofString "_law_hits", 23), (PySem.Str.ofString "_law_out", 24), (PySem.Str.ofString "_law_met", 25), (PySem.Str.ofString "law", 35)]
noncomputable abbrev bs03 : List Str := [PySem.Str.ofString "str", PySem.Str.ofString "bytes", PySem.Str.ofString "list", PySem.Str.ofString "tuple", PySem.Str.ofString "len", PySem.Str.ofString "abs", PySem.Str.ofString "sum", PySem.Str.ofString "isinstance", PySem.Str.ofString "issubclass", PySem.Str.ofString "type", PySem.Str.ofString "range", PySem.Str.ofString "min", PySem.Str.ofString "max", PySem.Str.ofString "sorted", PySem.Str.ofString "map", PySem.Str.ofString "enumerate"]
noncomputable abbrev lamPos03 : Pos := ⟨61, 39, 61, 76⟩
noncomputable abbrev qs03 : List (Pos × Str) := [(lamPos03, (PySem.Str.ofString "_translate.<locals>.") ++ "<lambda>")]
noncomputable def sc_escape : Sc := { kinds := [(PySem.Str.ofString "pattern", .local), (PySem.Str.ofString "isinstance", .globalImplicit), (PySem.Str.ofString "str", .globalImplicit), (PySem.Str.ofString "_special_chars_map", .globalImplicit)], vars := [(PySem.Str.ofString "pattern", 0)] }
theorem k_escape_str  : sc_escape.kinds.lookup (PySem.Str.ofString "str") = some .globalImplicit := rfl
theorem v_escape_pattern  : sc_escape.vars.lookup (PySem.Str.ofString "pattern") = some 0 := rfl
theorem k_escape_isinstance  : sc_escape.kinds.lookup (PySem.Str.ofString "isinstance") = some .globalImplicit := rfl
theorem k_escape_special_chars_map  : sc_escape.kinds.lookup (PySem.Str.ofString "_special_chars_map") = some .globalImplicit := rfl
theorem snd_escape {cx : XCx} (N : GN cx fs03 bs03) (TG : TabG cx) (sp : cx.mg (PySem.Str.ofString "_special_chars_map") = some (.ref TG.d)) : SoundSs cx sc_escape (nthBody PySem.Challenge.pw_dn0069_03 5) s_escape := by
  unfold s_escape
  exact (soundSs_cons (soundS_if (sound_callB k_escape_isinstance (N.b _ (.tail _ (.tail _ (.tail _ (.tail _ (.tail _ (.tail _ (.tail _ (.head _))))))))) (by decide) rfl (.builtin _) rfl (.cons (sound_var v_escape_pattern nn_pattern.1 nn_pattern.2) rfl (.cons (sound_tyname k_escape_str (N.b _ (.head _)) (by decide) rfl rfl) rfl .nil)) op_isInst) (soundSs_cons (soundS_ret (sound_translate TG rfl rfl (sound_var v_escape_pattern nn_pattern.1 nn_pattern.2) k_escape_special_chars_map sp rfl))
  soundSs_nil) soundSs_dead)
  soundSs_nil)
noncomputable def sc_translate (c : Addr) : Sc := { kinds := [(PySem.Str.ofString "pat", .local), (PySem.Str.ofString "STAR", .local), (PySem.Str.ofString "QUESTION_MARK", .local), (PySem.Str.ofString "res", .local), (PySem.Str.ofString "add", .local), (PySem.Str.ofString "i", .local), (PySem.Str.ofString "n", .local), (PySem.Str.ofString "c", .local), (PySem.Str.ofString "j", .local), (PySem.Str.ofString "stuff", .local), (PySem.Str.ofString "chunks", .local), (PySem.Str.ofString "k", .local), (PySem.Str.ofString "chunk", .local), (PySem.Str.ofString "len", .globalImplicit), (PySem.Str.ofString "range", .globalImplicit), (PySem.Str.ofString "_twin_re_1", .globalImplicit), (PySem.Str.ofString "escape", .globalImplicit)], vars := [(PySem.Str.ofString "pat", 0), (PySem.Str.ofString "STAR", 1), (PySem.Str.ofString "QUESTION_MARK", 2), (PySem.Str.ofString "res", 3), (PySem.Str.ofString "add", 4), (PySem.Str.ofString "i", 5), (PySem.Str.ofString "n", 6), (PySem.Str.ofString "c", 7), (PySem.Str.ofString "j", 8), (PySem.Str.ofString "stuff", 9), (PySem.Str.ofString "chunks", 10), (PySem.Str.ofString "k", 11), (PySem.Str.ofString "chunk", 12)], code := some (c, PySem.Str.ofString "_translate.<locals>.") }
theorem v_translate_res  (c : Addr) : (sc_translate c).vars.lookup (PySem.Str.ofString "res") = some 3 := rfl
theorem k_translate_res  (c : Addr) : (sc_translate c).kinds.lookup (PySem.Str.ofString "res") = some .local := rfl
theorem v_translate_add  (c : Addr) : (sc_translate c).vars.lookup (PySem.Str.ofString "add") = some 4 := rfl
theorem k_translate_add  (c : Addr) : (sc_translate c).kinds.lookup (PySem.Str.ofString "add") = some .local := rfl
theorem v_translate_pat  (c : Addr) : (sc_translate c).vars.lookup (PySem.Str.ofString "pat") = some 0 := rfl
theorem k_translate_len  (c : Addr) : (sc_translate c).kinds.lookup (PySem.Str.ofString "len") = some .globalImplicit := rfl
theorem v_translate_i  (c : Addr) : (sc_translate c).vars.lookup (PySem.Str.ofString "i") = some 5 := rfl
theorem v_translate_n  (c : Addr) : (sc_translate c).vars.lookup (PySem.Str.ofString "n") = some 6 := rfl
theorem k_translate_i  (c : Addr) : (sc_translate c).kinds.lookup (PySem.Str.ofString "i") = some .local := rfl
theorem k_translate_n  (c : Addr) : (sc_translate c).kinds.lookup (PySem.Str.ofString "n") = some .local := rfl
theorem v_translate_c  (c : Addr) : (sc_translate c).vars.lookup (PySem.Str.ofString "c") = some 7 := rfl
theorem k_translate_c  (c : Addr) : (sc_translate c).kinds.lookup (PySem.Str.ofString "c") = some .local := rfl
theorem v_translate_STAR  (c : Addr) : (sc_translate c).vars.lookup (PySem.Str.ofString "STAR") = some 1 := rfl
theorem v_translate_QUESTION_MARK  (c : Addr) : (sc_translate c).vars.lookup (PySem.Str.ofString "QUESTION_MARK") = some 2 := rfl
theorem v_translate_j  (c : Addr) : (sc_translate c).vars.lookup (PySem.Str.ofString "j") = some 8 := rfl
theorem k_translate_j  (c : Addr) : (sc_translate c).kinds.lookup (PySem.Str.ofString "j") = some .local := rfl
theorem v_translate_stuff  (c : Addr) : (sc_translate c).vars.lookup (PySem.Str.ofString "stuff") = some 9 := rfl
theorem k_translate_stuff  (c : Addr) : (sc_translate c).kinds.lookup (PySem.Str.ofString "stuff") = some .local := rfl
theorem v_translate_chunks  (c : Addr) : (sc_translate c).vars.lookup (PySem.Str.ofString "chunks") = some 10 := rfl
theorem k_translate_chunks  (c : Addr) : (sc_translate c).kinds.lookup (PySem.Str.ofString "chunks") = some .local := rfl
theorem v_translate_k  (c : Addr) : (sc_translate c).vars.lookup (PySem.Str.ofString "k") = some 11 := rfl
theorem k_translate_k  (c : Addr) : (sc_translate c).kinds.lookup (PySem.Str.ofString "k") = some .local := rfl
theorem v_translate_chunk  (c : Addr) : (sc_translate c).vars.lookup (PySem.Str.ofString "chunk") = some 12 := rfl
theorem k_translate_chunk  (c : Addr) : (sc_translate c).kinds.lookup (PySem.Str.ofString "chunk") = some .local := rfl
theorem k_translate_range  (c : Addr) : (sc_translate c).kinds.lookup (PySem.Str.ofString "range") = some .globalImplicit := rfl
theorem k_translate_twin_re_1  (c : Addr) : (sc_translate c).kinds.lookup (PySem.Str.ofString "_twin_re_1") = some .globalImplicit := rfl
theorem k_translate_escape  (c : Addr) : (sc_translate c).kinds.lookup (PySem.Str.ofString "escape") = some .globalImplicit := rfl
theorem snd_translate {cx : XCx} (N : GN cx fs03 bs03) (G : LamG cx) (PG : PatG cx) (tw : cx.mg (PySem.Str.ofString "_twin_re_1") = some (.ref PG.P)) (hq : G.qs = qs03) : SoundSs cx (sc_translate G.c) (nthBody PySem.Challenge.pw_dn0069_03 7) s_translate := by
  unfold s_translate
  exact (soundSs_cons (soundS_assignO (v_translate_res _) (nfree (k_translate_res _)) (sound_list .nil) (fun _ _ _ => rfl))
  (soundSs_cons (soundS_alias (v_translate_add _) (nfree (k_translate_add _)) (v_translate_res _) nn_res.1 nn_res.2)
  (soundSs_cons (soundS_swap2 (v_translate_i _) (v_translate_n _) (nfree (k_translate_i _)) (nfree (k_translate_n _)) (by decide) (sound_tup (.cons (sound_const rfl) rfl (.cons (sound_callB (k_translate_len _) (N.b _ (.tail _ (.tail _ (.tail _ (.tail _ (.head _)))))) (by decide) rfl (.builtin _) rfl (.cons (sound_var (v_translate_pat _) nn_pat.1 nn_pat.2) rfl .nil) op_len) rfl .nil))) (fun _ => rfl) (swapped2 (k_translate_i _) (k_translate_n _) rfl rfl rfl rfl rfl rfl))
  (soundSs_cons (soundS_while (sound_cmp (sound_var (v_translate_i _) nn_i.1 nn_i.2) (sound_var (v_translate_n _) nn_n.1 nn_n.2) op_lt rfl) (soundSs_cons (soundS_assign (v_translate_c _) (nfree (k_translate_c _)) (sound_index (sound_var (v_translate_pat _) nn_pat.1 nn_pat.2) (sound_var (v_translate_i _) nn_i.1 nn_i.2)) (fun _ _ _ => rfl))
  (soundSs_cons (soundS_assign (v_translate_i _) (nfree (k_translate_i _)) (sound_bin (sound_var (v_translate_i _) nn_i.1 nn_i.2) (sound_const rfl) op_add) (fun _ _ _ => rfl))
  (soundSs_cons (soundS_if (sound_cmp (sound_var (v_translate_c _) nn_c.1 nn_c.2) (sound_const rfl) op_eq rfl) (soundSs_cons (soundS_if (sound_bool (.or (sound_not (sound_var (v_translate_res _) nn_res.1 nn_res.2)) (.one (sound_cmp (sound_index (sound_var (v_translate_res _) nn_res.1 nn_res.2) (sound_un (sound_const rfl) op_neg (fun h => nomatch h))) (sound_var (v_translate_STAR _) nn_STAR.1 nn_STAR.2) op_isnot rfl)))) (soundSs_cons (soundS_appendVia (v_translate_add _) (v_translate_res _) nn_add.1 nn_add.2 (sound_var (v_translate_STAR _) nn_STAR.1 nn_STAR.2) rfl)
  soundSs_nil) soundSs_nil)
  soundSs_nil) (soundSs_cons (soundS_if (sound_cmp (sound_var (v_translate_c _) nn_c.1 nn_c.2) (sound_const rfl) op_eq rfl) (soundSs_cons (soundS_appendVia (v_translate_add _) (v_translate_res _) nn_add.1 nn_add.2 (sound_var (v_translate_QUESTION_MARK _) nn_QUESTION_MARK.1 nn_QUESTION_MARK.2) rfl)
  soundSs_nil) (soundSs_cons (soundS_if (sound_cmp (sound_var (v_translate_c _) nn_c.1 nn_c.2) (sound_const rfl) op_eq rfl) (soundSs_cons (soundS_assign (v_translate_j _) (nfree (k_translate_j _)) (sound_var (v_translate_i _) nn_i.1 nn_i.2) (fun _ _ _ => rfl))
  (soundSs_cons (soundS_if (sound_bool (.and (sound_cmp (sound_var (v_translate_j _) nn_j.1 nn_j.2) (sound_var (v_translate_n _) nn_n.1 nn_n.2) op_lt rfl) (.one (sound_cmp (sound_index (sound_var (v_translate_pat _) nn_pat.1 nn_pat.2) (sound_var (v_translate_j _) nn_j.1 nn_j.2)) (sound_const rfl) op_eq rfl)))) (soundSs_cons (soundS_assign (v_translate_j _) (nfree (k_translate_j _)) (sound_bin (sound_var (v_translate_j _) nn_j.1 nn_j.2) (sound_const rfl) op_add) (fun _ _ _ => rfl))
  soundSs_nil) soundSs_nil)
  (soundSs_cons (soundS_if (sound_bool (.and (sound_cmp (sound_var (v_translate_j _) nn_j.1 nn_j.2) (sound_var (v_translate_n _) nn_n.1 nn_n.2) op_lt rfl) (.one (sound_cmp (sound_index (sound_var (v_translate_pat _) nn_pat.1 nn_pat.2) (sound_var (v_translate_j _) nn_j.1 nn_j.2)) (sound_const rfl) op_eq rfl)))) (soundSs_cons (soundS_assign (v_translate_j _) (nfree (k_translate_j _)) (sound_bin (sound_var (v_translate_j _) nn_j.1 nn_j.2) (sound_const rfl) op_add) (fun _ _ _ => rfl))
  soundSs_nil) soundSs_nil)
  (soundSs_cons (soundS_while (sound_bool (.and (sound_cmp (sound_var (v_translate_j _) nn_j.1 nn_j.2) (sound_var (v_translate_n _) nn_n.1 nn_n.2) op_lt rfl) (.one (sound_cmp (sound_index (sound_var (v_translate_pat _) nn_pat.1 nn_pat.2) (sound_var (v_translate_j _) nn_j.1 nn_j.2)) (sound_const rfl) op_ne rfl)))) (soundSs_cons (soundS_assign (v_translate_j _) (nfree (k_translate_j _)) (sound_bin (sound_var (v_translate_j _) nn_j.1 nn_j.2) (sound_const rfl) op_add) (fun _ _ _ => rfl))
  soundSs_nil))
  (soundSs_cons (soundS_if (sound_cmp (sound_var (v_translate_j _) nn_j.1 nn_j.2) (sound_var (v_translate_n _) nn_n.1 nn_n.2) op_ge rfl) (soundSs_cons (soundS_appendVia (v_translate_add _) (v_translate_res _) nn_add.1 nn_add.2 (sound_const rfl) rfl)
  soundSs_nil) (soundSs_cons (soundS_assign (v_translate_stuff _) (nfree (k_translate_stuff _)) (sound_slice (sound_var (v_translate_pat _) nn_pat.1 nn_pat.2) (.yes (sound_var (v_translate_i _) nn_i.1 nn_i.2)) (.yes (sound_var (v_translate_j _) nn_j.1 nn_j.2))) (fun _ _ _ => rfl))
  (soundSs_cons (soundS_if (sound_cmp (sound_const rfl) (sound_var (v_translate_stuff _) nn_stuff.1 nn_stuff.2) op_notin rfl) (soundSs_cons (soundS_assign (v_translate_stuff _) (nfree (k_translate_stuff _)) (m_replace rfl rfl (by decide) (sound_var (v_translate_stuff _) nn_stuff.1 nn_stuff.2) (.cons (sound_const rfl) rfl (.cons (sound_const rfl) rfl .nil))) (fun _ _ _ => rfl))
  soundSs_nil) (soundSs_cons (soundS_assignO (v_translate_chunks _) (nfree (k_translate_chunks _)) (sound_list .nil) (fun _ _ _ => rfl))
  (soundSs_cons (soundS_assign (v_translate_k _) (nfree (k_translate_k _)) (sound_ite (sound_cmp (sound_index (sound_var (v_translate_pat _) nn_pat.1 nn_pat.2) (sound_var (v_translate_i _) nn_i.1 nn_i.2)) (sound_const rfl) op_eq rfl) (sound_bin (sound_var (v_translate_i _) nn_i.1 nn_i.2) (sound_const rfl) op_add) (sound_bin (sound_var (v_translate_i _) nn_i.1 nn_i.2) (sound_const rfl) op_add)) (fun _ _ _ => rfl))
  (soundSs_cons (soundS_while (sound_const rfl) (soundSs_cons (soundS_assign (v_translate_k _) (nfree (k_translate_k _)) (m_find rfl rfl (by decide) (sound_var (v_translate_pat _) nn_pat.1 nn_pat.2) (.cons (sound_const rfl) rfl (.cons (sound_var (v_translate_k _) nn_k.1 nn_k.2) rfl (.cons (sound_var (v_translate_j _) nn_j.1 nn_j.2) rfl .nil)))) (fun _ _ _ => rfl))
  (soundSs_cons (soundS_if (sound_cmp (sound_var (v_translate_k _) nn_k.1 nn_k.2) (sound_const rfl) op_lt rfl) (soundSs_cons soundS_break
  soundSs_nil) soundSs_nil)
  (soundSs_cons (soundS_append (v_translate_chunks _) nn_chunks.1 nn_chunks.2 rfl (sound_slice (sound_var (v_translate_pat _) nn_pat.1 nn_pat.2) (.yes (sound_var (v_translate_i _) nn_i.1 nn_i.2)) (.yes (sound_var (v_translate_k _) nn_k.1 nn_k.2))) rfl)
  (soundSs_cons (soundS_assign (v_translate_i _) (nfree (k_translate_i _)) (sound_bin (sound_var (v_translate_k _) nn_k.1 nn_k.2) (sound_const rfl) op_add) (fun _ _ _ => rfl))
  (soundSs_cons (soundS_assign (v_translate_k _) (nfree (k_translate_k _)) (sound_bin (sound_var (v_translate_k _) nn_k.1 nn_k.2) (sound_const rfl) op_add) (fun _ _ _ => rfl))
  soundSs_nil))))))
  (soundSs_cons (soundS_assign (v_translate_chunk _) (nfree (k_translate_chunk _)) (sound_slice (sound_var (v_translate_pat _) nn_pat.1 nn_pat.2) (.yes (sound_var (v_translate_i _) nn_i.1 nn_i.2)) (.yes (sound_var (v_translate_j _) nn_j.1 nn_j.2))) (fun _ _ _ => rfl))
  (soundSs_cons (soundS_if (sound_var (v_translate_chunk _) nn_chunk.1 nn_chunk.2) (soundSs_cons (soundS_append (v_translate_chunks _) nn_chunks.1 nn_chunks.2 rfl (sound_var (v_translate_chunk _) nn_chunk.1 nn_chunk.2) rfl)
  soundSs_nil) (soundSs_cons (soundS_augItem (v_translate_chunks _) nn_chunks.1 nn_chunks.2 (sound_un (sound_const rfl) op_neg (fun h => nomatch h)) (sound_const rfl) (fun _ _ _ => rfl))
  soundSs_nil))
  (soundSs_cons (soundS_for (v_translate_k _) (nfree (k_translate_k _)) (soundI_range (k_translate_range _) (N.b _ (.tail _ (.tail _ (.tail _ (.tail _ (.tail _ (.tail _ (.tail _ (.tail _ (.tail _ (.tail _ (.head _)))))))))))) (.cons (sound_bin (sound_callB (k_translate_len _) (N.b _ (.tail _ (.tail _ (.tail _ (.tail _ (.head _)))))) (by decide) rfl (.builtin _) rfl (.cons (sound_var (v_translate_chunks _) nn_chunks.1 nn_chunks.2) rfl .nil) op_len) (sound_const rfl) op_sub) rfl (.cons (sound_const rfl) rfl (.cons (sound_un (sound_const rfl) op_neg (fun h => nomatch h)) rfl .nil)))) (soundSs_cons (soundS_if (sound_cmp (sound_index (sound_index (sound_var (v_translate_chunks _) nn_chunks.1 nn_chunks.2) (sound_bin (sound_var (v_translate_k _) nn_k.1 nn_k.2) (sound_const rfl) op_sub)) (sound_un (sound_const rfl) op_neg (fun h => nomatch h))) (sound_index (sound_index (sound_var (v_translate_chunks _) nn_chunks.1 nn_chunks.2) (sound_var (v_translate_k _) nn_k.1 nn_k.2)) (sound_const rfl)) op_gt rfl) (soundSs_cons (soundS_setItem (v_translate_chunks _) nn_chunks.1 nn_chunks.2 (sound_bin (sound_var (v_translate_k _) nn_k.1 nn_k.2) (sound_const rfl) op_sub) (sound_bin (sound_slice (sound_index (sound_var (v_translate_chunks _) nn_chunks.1 nn_chunks.2) (sound_bin (sound_var (v_translate_k _) nn_k.1 nn_k.2) (sound_const rfl) op_sub)) .no (.yes (sound_un (sound_const rfl) op_neg (fun h => nomatch h)))) (sound_slice (sound_index (sound_var (v_translate_chunks _) nn_chunks.1 nn_chunks.2) (sound_var (v_translate_k _) nn_k.1 nn_k.2)) (.yes (sound_const rfl)) .no) op_add) (fun _ => rfl))
  (soundSs_cons (soundS_delItem (v_translate_chunks _) nn_chunks.1 nn_chunks.2 (sound_var (v_translate_k _) nn_k.1 nn_k.2))
  soundSs_nil)) soundSs_nil)
  soundSs_nil) (fun _ _ => rfl))
  (soundSs_cons (soundS_fz ⟨_, (v_translate_chunks _)⟩ (soundS_assign (v_translate_stuff _) (nfree (k_translate_stuff _)) (sound_joinGen G rfl rfl rfl rfl rfl rfl (by decide) (by decide) rfl (apart1 hq rfl) (soundI_seq (sound_var (v_translate_chunks _) nn_chunks.1 nn_chunks.2)) (fun _ _ => rfl) rfl (by decide) (by decide) rfl rfl rfl rfl) (fun _ _ _ => rfl)))
  soundSs_nil))))))))
  (soundSs_cons (soundS_assign (v_translate_stuff _) (nfree (k_translate_stuff _)) (sound_resub G PG (k_translate_twin_re_1 _) tw rfl rfl (by rw [hq]; exact .head _) rfl rfl rfl (sound_var (v_translate_stuff _) nn_stuff.1 nn_stuff.2)) (fun _ _ _ => rfl))
  (soundSs_cons (soundS_assign (v_translate_i _) (nfree (k_translate_i _)) (sound_bin (sound_var (v_translate_j _) nn_j.1 nn_j.2) (sound_const rfl) op_add) (fun _ _ _ => rfl))
  (soundSs_cons (soundS_if (sound_not (sound_var (v_translate_stuff _) nn_stuff.1 nn_stuff.2)) (soundSs_cons (soundS_appendVia (v_translate_add _) (v_translate_res _) nn_add.1 nn_add.2 (sound_const (by kernel_rfl)) rfl)
  soundSs_nil) (soundSs_cons (soundS_if (sound_cmp (sound_var (v_translate_stuff _) nn_stuff.1 nn_stuff.2) (sound_const rfl) op_eq rfl) (soundSs_cons (soundS_appendVia (v_translate_add _) (v_translate_res _) nn_add.1 nn_add.2 (sound_const rfl) rfl)
  soundSs_nil) (soundSs_cons (soundS_if (sound_cmp (sound_index (sound_var (v_translate_stuff _) nn_stuff.1 nn_stuff.2) (sound_const rfl)) (sound_const rfl) op_eq rfl) (soundSs_cons (soundS_assign (v_translate_stuff _) (nfree (k_translate_stuff _)) (sound_bin (sound_const rfl) (sound_slice (sound_var (v_translate_stuff _) nn_stuff.1 nn_stuff.2) (.yes (sound_const rfl)) .no) op_add) (fun _ _ _ => rfl))
  soundSs_nil) (soundSs_cons (soundS_if (sound_cmp (sound_index (sound_var (v_translate_stuff _) nn_stuff.1 nn_stuff.2) (sound_const rfl)) (sound_tup (.cons (sound_const rfl) rfl (.cons (sound_const rfl) rfl .nil))) op_in rfl) (soundSs_cons (soundS_assign (v_translate_stuff _) (nfree (k_translate_stuff _)) (sound_bin (sound_const rfl) (sound_var (v_translate_stuff _) nn_stuff.1 nn_stuff.2) op_add) (fun _ _ _ => rfl))
  soundSs_nil) soundSs_nil)
  soundSs_nil))
  (soundSs_cons (soundS_appendVia (v_translate_add _) (v_translate_res _) nn_add.1 nn_add.2 (sound_fmt (sound_var (v_translate_stuff _) nn_stuff.1 nn_stuff.2) rfl rfl) rfl)
  soundSs_nil)))
  soundSs_nil))
  soundSs_nil))))))
  soundSs_nil))))) (soundSs_cons (soundS_appendVia (v_translate_add _) (v_translate_res _) nn_add.1 nn_add.2 (sound_call (k_translate_escape _) (N.f _ 0 (.head _)) rfl (.cons (sound_var (v_translate_c _) nn_c.1 nn_c.2) rfl .nil)) rfl)
  soundSs_nil))
  soundSs_nil))
  soundSs_nil))
  soundSs_nil))))
  (soundSs_cons (soundS_assert (sound_cmp (sound_var (v_translate_i _) nn_i.1 nn_i.2) (sound_var (v_translate_n _) nn_n.1 nn_n.2) op_eq rfl))
  (soundSs_cons (soundS_fz ⟨_, (v_translate_res _)⟩ (soundS_ret (sound_var (v_translate_res _) nn_res.1 nn_res.2)))
  soundSs_nil))))))
noncomputable def sc_fspath : Sc := { kinds := [(PySem.Str.ofString "path", .local), (PySem.Str.ofString "kind", .local), (PySem.Str.ofString "hook", .local), (PySem.Str.ofString "given", .local), (PySem.Str.ofString "type", .globalImplicit), (PySem.Str.ofString "issubclass", .globalImplicit), (PySem.Str.ofString "str", .globalImplicit), (PySem.Str.ofString "bytes", .globalImplicit), (PySem.Str.ofString "_abc_plain_meta", .globalImplicit), (PySem.Str.ofString "getattr", .globalImplicit), (PySem.Str.ofString "TypeError", .globalImplicit), (PySem.Str.ofString "_plain_name", .globalImplicit), (PySem.Str.ofString "_wall", .globalImplicit), (PySem.Str.ofString "len", .globalImplicit)], vars := [(PySem.Str.ofString "path", 0), (PySem.Str.ofString "kind", 1), (PySem.Str.ofString "hook", 2), (PySem.Str.ofString "given", 3)] }
theorem v_fspath_path  : sc_fspath.vars.lookup (PySem.Str.ofString "path") = some 0 := rfl
theorem k_fspath_type  : sc_fspath.kinds.lookup (PySem.Str.ofString "type") = some .globalImplicit := rfl
theorem v_fspath_kind  : sc_fspath.vars.lookup (PySem.Str.ofString "kind") = some 1 := rfl
theorem k_fspath_kind  : sc_fspath.kinds.lookup (PySem.Str.ofString "kind") = some .local := rfl
theorem k_fspath_bytes  : sc_fspath.kinds.lookup (PySem.Str.ofString "bytes") = some .globalImplicit := rfl
theorem k_fspath_str  : sc_fspath.kinds.lookup (PySem.Str.ofString "str") = some .globalImplicit := rfl
theorem k_fspath_issubclass  : sc_fspath.kinds.lookup (PySem.Str.ofString "issubclass") = some .globalImplicit := rfl
theorem snd_fspath {cx : XCx} (N : GN cx fs03 bs03) : SoundSs cx sc_fspath (nthBody PySem.Challenge.pw_dn0069_03 16) s_fspath := by
  unfold s_fspath
  exact (soundSs_cons (soundS_assign v_fspath_kind (nfree k_fspath_kind) (sound_callB k_fspath_type (N.b _ (.tail _ (.tail _ (.tail _ (.tail _ (.tail _ (.tail _ (.tail _ (.tail _ (.tail _ (.head _))))))))))) (by decide) rfl (.type _) rfl (.cons (sound_var v_fspath_path nn_path.1 nn_path.2) rfl .nil) op_tyOf) (fun _ _ _ => rfl))
  (soundSs_cons (soundS_if (sound_callB k_fspath_issubclass (N.b _ (.tail _ (.tail _ (.tail _ (.tail _ (.tail _ (.tail _ (.tail _ (.tail _ (.head _)))))))))) (by decide) rfl (.builtin _) rfl (.cons (sound_var v_fspath_kind nn_kind.1 nn_kind.2) rfl (.cons (sound_tup (.cons (sound_tyname k_fspath_str (N.b _ (.head _)) (by decide) rfl rfl) rfl (.cons (sound_tyname k_fspath_bytes (N.b _ (.tail _ (.head _))) (by decide) rfl rfl) rfl .nil))) rfl .nil)) op_isSub) (soundSs_cons (soundS_ret (sound_var v_fspath_path nn_path.1 nn_path.2))
  soundSs_nil) soundSs_nil)
  soundSs_dead))
noncomputable def sc_get_sep : Sc := { kinds := [(PySem.Str.ofString "path", .local), (PySem.Str.ofString "isinstance", .globalImplicit), (PySem.Str.ofString "bytes", .globalImplicit)], vars := [(PySem.Str.ofString "path", 0)] }
theorem k_get_sep_bytes  : sc_get_sep.kinds.lookup (PySem.Str.ofString "bytes") = some .globalImplicit := rfl
theorem v_get_sep_path  : sc_get_sep.vars.lookup (PySem.Str.ofString "path") = some 0 := rfl
theorem k_get_sep_isinstance  : sc_get_sep.kinds.lookup (PySem.Str.ofString "isinstance") = some .globalImplicit := rfl
theorem snd_get_sep {cx : XCx} (N : GN cx fs03 bs03) : SoundSs cx sc_get_sep (nthBody PySem.Challenge.pw_dn0069_03 20) s_get_sep := by
  unfold s_get_sep
  exact (soundSs_cons (soundS_if (sound_callB k_get_sep_isinstance (N.b _ (.tail _ (.tail _ (.tail _ (.tail _ (.tail _ (.tail _ (.tail _ (.head _))))))))) (by decide) rfl (.builtin _) rfl (.cons (sound_var v_get_sep_path nn_path.1 nn_path.2) rfl (.cons (sound_tyname k_get_sep_bytes (N.b _ (.tail _ (.head _))) (by decide) rfl rfl) rfl .nil)) op_isInst) soundSs_dead (soundSs_cons (soundS_ret (sound_const rfl))
  soundSs_nil))
  soundSs_nil)
noncomputable def sc_join : Sc := { kinds := [(PySem.Str.ofString "a", .local), (PySem.Str.ofString "p", .local), (PySem.Str.ofString "sep", .local), (PySem.Str.ofString "path", .local), (PySem.Str.ofString "b", .local), (PySem.Str.ofString "fspath", .globalImplicit), (PySem.Str.ofString "_get_sep", .globalImplicit), (PySem.Str.ofString "TypeError", .globalImplicit), (PySem.Str.ofString "AttributeError", .globalImplicit), (PySem.Str.ofString "BytesWarning", .globalImplicit), (PySem.Str.ofString "_check_arg_types", .globalImplicit)], vars := [(PySem.Str.ofString "a", 0), (PySem.Str.ofString "p", 1), (PySem.Str.ofString "sep", 2), (PySem.Str.ofString "path", 3), (PySem.Str.ofString "b", 4)] }
theorem v_join_a  : sc_join.vars.lookup (PySem.Str.ofString "a") = some 0 := rfl
theorem k_join_fspath  : sc_join.kinds.lookup (PySem.Str.ofString "fspath") = some .globalImplicit := rfl
theorem k_join_a  : sc_join.kinds.lookup (PySem.Str.ofString "a") = some .local := rfl
theorem k_join_get_sep  : sc_join.kinds.lookup (PySem.Str.ofString "_get_sep") = some .globalImplicit := rfl
theorem v_join_sep  : sc_join.vars.lookup (PySem.Str.ofString "sep") = some 2 := rfl
theorem k_join_sep  : sc_join.kinds.lookup (PySem.Str.ofString "sep") = some .local := rfl
theorem v_join_path  : sc_join.vars.lookup (PySem.Str.ofString "path") = some 3 := rfl
theorem k_join_path  : sc_join.kinds.lookup (PySem.Str.ofString "path") = some .local := rfl
theorem v_join_p  : sc_join.vars.lookup (PySem.Str.ofString "p") = some 1 := rfl
theorem v_join_b  : sc_join.vars.lookup (PySem.Str.ofString "b") = some 4 := rfl
theorem k_join_b  : sc_join.kinds.lookup (PySem.Str.ofString "b") = some .local := rfl
theorem snd_join {cx : XCx} (N : GN cx fs03 bs03) : SoundSs cx sc_join (nthBody PySem.Challenge.pw_dn0069_03 21) s_join := by
  unfold s_join
  exact (soundSs_cons (soundS_assign v_join_a (nfree k_join_a) (sound_call k_join_fspath (N.f _ 2 (.tail _ (.tail _ (.head _)))) rfl (.cons (sound_var v_join_a nn_a.1 nn_a.2) rfl .nil)) (fun _ _ _ => rfl))
  (soundSs_cons (soundS_assign v_join_sep (nfree k_join_sep) (sound_call k_join_get_sep (N.f _ 3 (.tail _ (.tail _ (.tail _ (.head _))))) rfl (.cons (sound_var v_join_a nn_a.1 nn_a.2) rfl .nil)) (fun _ _ _ => rfl))
  (soundSs_cons (soundS_assign v_join_path (nfree k_join_path) (sound_var v_join_a nn_a.1 nn_a.2) (fun _ _ _ => rfl))
  (soundSs_cons (soundS_try (soundSs_cons (soundS_for v_join_b (nfree k_join_b) (soundI_seq (sound_var v_join_p nn_p.1 nn_p.2)) (soundSs_cons (soundS_assign v_join_b (nfree k_join_b) (sound_call k_join_fspath (N.f _ 2 (.tail _ (.tail _ (.head _)))) rfl (.cons (sound_var v_join_b nn_b.1 nn_b.2) rfl .nil)) (fun _ _ _ => rfl))
  (soundSs_cons (soundS_if (sound_bool (.or (m_startswith rfl rfl (by decide) (sound_var v_join_b nn_b.1 nn_b.2) (.cons (sound_var v_join_sep nn_sep.1 nn_sep.2) rfl .nil)) (.one (sound_not (sound_var v_join_path nn_path.1 nn_path.2))))) (soundSs_cons (soundS_assign v_join_path (nfree k_join_path) (sound_var v_join_b nn_b.1 nn_b.2) (fun _ _ _ => rfl))
  soundSs_nil) (soundSs_cons (soundS_if (m_endswith rfl rfl (by decide) (sound_var v_join_path nn_path.1 nn_path.2) (.cons (sound_var v_join_sep nn_sep.1 nn_sep.2) rfl .nil)) (soundSs_cons (soundS_aug v_join_path (nfree k_join_path) nn_path.1 (sound_var v_join_b nn_b.1 nn_b.2))
  soundSs_nil) (soundSs_cons (soundS_aug v_join_path (nfree k_join_path) nn_path.1 (sound_bin (sound_var v_join_sep nn_sep.1 nn_sep.2) (sound_var v_join_b nn_b.1 nn_b.2) op_add))
  soundSs_nil))
  soundSs_nil))
  soundSs_nil)) (fun _ _ => rfl))
  soundSs_nil))
  (soundSs_cons (soundS_ret (sound_var v_join_path nn_path.1 nn_path.2))
  soundSs_nil)))))
noncomputable def sc_split : Sc := { kinds := [(PySem.Str.ofString "p", .local), (PySem.Str.ofString "sep", .local), (PySem.Str.ofString "i", .local), (PySem.Str.ofString "head", .local), (PySem.Str.ofString "tail", .local), (PySem.Str.ofString "fspath", .globalImplicit), (PySem.Str.ofString "_get_sep", .globalImplicit), (PySem.Str.ofString "len", .globalImplicit)], vars := [(PySem.Str.ofString "p", 0), (PySem.Str.ofString "sep", 1), (PySem.Str.ofString "i", 2), (PySem.Str.ofString "head", 3), (PySem.Str.ofString "tail", 4)] }
theorem v_split_p  : sc_split.vars.lookup (PySem.Str.ofString "p") = some 0 := rfl
theorem k_split_fspath  : sc_split.kinds.lookup (PySem.Str.ofString "fspath") = some .globalImplicit := rfl
theorem k_split_p  : sc_split.kinds.lookup (PySem.Str.ofString "p") = some .local := rfl
theorem k_split_get_sep  : sc_split.kinds.lookup (PySem.Str.ofString "_get_sep") = some .globalImplicit := rfl
theorem v_split_sep  : sc_split.vars.lookup (PySem.Str.ofString "sep") = some 1 := rfl
theorem k_split_sep  : sc_split.kinds.lookup (PySem.Str.ofString "sep") = some .local := rfl
theorem v_split_i  : sc_split.vars.lookup (PySem.Str.ofString "i") = some 2 := rfl
theorem k_split_i  : sc_split.kinds.lookup (PySem.Str.ofString "i") = some .local := rfl
theorem v_split_head  : sc_split.vars.lookup (PySem.Str.ofString "head") = some 3 := rfl
theorem v_split_tail  : sc_split.vars.lookup (PySem.Str.ofString "tail") = some 4 := rfl
theorem k_split_head  : sc_split.kinds.lookup (PySem.Str.ofString "head") = some .local := rfl
theorem k_split_tail  : sc_split.kinds.lookup (PySem.Str.ofString "tail") = some .local := rfl
theorem k_split_len  : sc_split.kinds.lookup (PySem.Str.ofString "len") = some .globalImplicit := rfl
theorem snd_split {cx : XCx} (N : GN cx fs03 bs03) : SoundSs cx sc_split (nthBody PySem.Challenge.pw_dn0069_03 22) s_split := by
  unfold s_split
  exact (soundSs_cons (soundS_assign v_split_p (nfree k_split_p) (sound_call k_split_fspath (N.f _ 2 (.tail _ (.tail _ (.head _)))) rfl (.cons (sound_var v_split_p nn_p.1 nn_p.2) rfl .nil)) (fun _ _ _ => rfl))
  (soundSs_cons (soundS_assign v_split_sep (nfree k_split_sep) (sound_call k_split_get_sep (N.f _ 3 (.tail _ (.tail _ (.tail _ (.head _))))) rfl (.cons (sound_var v_split_p nn_p.1 nn_p.2) rfl .nil)) (fun _ _ _ => rfl))
  (soundSs_cons (soundS_assign v_split_i (nfree k_split_i) (sound_bin (m_rfind rfl rfl (by decide) (sound_var v_split_p nn_p.1 nn_p.2) (.cons (sound_var v_split_sep nn_sep.1 nn_sep.2) rfl .nil)) (sound_const rfl) op_add) (fun _ _ _ => rfl))
  (soundSs_cons (soundS_swap2 v_split_head v_split_tail (nfree k_split_head) (nfree k_split_tail) (by decide) (sound_tup (.cons (sound_slice (sound_var v_split_p nn_p.1 nn_p.2) .no (.yes (sound_var v_split_i nn_i.1 nn_i.2))) rfl (.cons (sound_slice (sound_var v_split_p nn_p.1 nn_p.2) (.yes (sound_var v_split_i nn_i.1 nn_i.2)) .no) rfl .nil))) (fun _ => rfl) (swapped2 k_split_head k_split_tail rfl rfl rfl rfl rfl rfl))
  (soundSs_cons (soundS_if (sound_bool (.and (sound_var v_split_head nn_head.1 nn_head.2) (.one (sound_cmp (sound_var v_split_head nn_head.1 nn_head.2) (sound_bin (sound_var v_split_sep nn_sep.1 nn_sep.2) (sound_callB k_split_len (N.b _ (.tail _ (.tail _ (.tail _ (.tail _ (.head _)))))) (by decide) rfl (.builtin _) rfl (.cons (sound_var v_split_head nn_head.1 nn_head.2) rfl .nil) op_len) op_mul) op_ne rfl)))) (soundSs_cons (soundS_assign v_split_head (nfree k_split_head) (m_rstrip rfl rfl (by decide) (sound_var v_split_head nn_head.1 nn_head.2) (.cons (sound_var v_split_sep nn_sep.1 nn_sep.2) rfl .nil)) (fun _ _ _ => rfl))
  soundSs_nil) soundSs_nil)
  (soundSs_cons (soundS_ret (sound_tup (.cons (sound_var v_split_head nn_head.1 nn_head.2) rfl (.cons (sound_var v_split_tail nn_tail.1 nn_tail.2) rfl .nil))))
  soundSs_nil))))))
noncomputable def sc_dirname : Sc := { kinds := [(PySem.Str.ofString "p", .local), (PySem.Str.ofString "sep", .local), (PySem.Str.ofString "i", .local), (PySem.Str.ofString "head", .local), (PySem.Str.ofString "fspath", .globalImplicit), (PySem.Str.ofString "_get_sep", .globalImplicit), (PySem.Str.ofString "len", .globalImplicit)], vars := [(PySem.Str.ofString "p", 0), (PySem.Str.ofString "sep", 1), (PySem.Str.ofString "i", 2), (PySem.Str.ofString "head", 3)] }
theorem v_dirname_p  : sc_dirname.vars.lookup (PySem.Str.ofString "p") = some 0 := rfl
theorem k_dirname_fspath  : sc_dirname.kinds.lookup (PySem.Str.ofString "fspath") = some .globalImplicit := rfl
theorem k_dirname_p  : sc_dirname.kinds.lookup (PySem.Str.ofString "p") = some .local := rfl
theorem k_dirname_get_sep  : sc_dirname.kinds.lookup (PySem.Str.ofString "_get_sep") = some .globalImplicit := rfl
theorem v_dirname_sep  : sc_dirname.vars.lookup (PySem.Str.ofString "sep") = some 1 := rfl
theorem k_dirname_sep  : sc_dirname.kinds.lookup (PySem.Str.ofString "sep") = some .local := rfl
theorem v_dirname_i  : sc_dirname.vars.lookup (PySem.Str.ofString "i") = some 2 := rfl
theorem k_dirname_i  : sc_dirname.kinds.lookup (PySem.Str.ofString "i") = some .local := rfl
theorem v_dirname_head  : sc_dirname.vars.lookup (PySem.Str.ofString "head") = some 3 := rfl
theorem k_dirname_head  : sc_dirname.kinds.lookup (PySem.Str.ofString "head") = some .local := rfl
theorem k_dirname_len  : sc_dirname.kinds.lookup (PySem.Str.ofString "len") = some .globalImplicit := rfl
theorem snd_dirname {cx : XCx} (N : GN cx fs03 bs03) : SoundSs cx sc_dirname (nthBody PySem.Challenge.pw_dn0069_03 23) s_dirname := by
  unfold s_dirname
  exact (soundSs_cons (soundS_assign v_dirname_p (nfree k_dirname_p) (sound_call k_dirname_fspath (N.f _ 2 (.tail _ (.tail _ (.head _)))) rfl (.cons (sound_var v_dirname_p nn_p.1 nn_p.2) rfl .nil)) (fun _ _ _ => rfl))
  (soundSs_cons (soundS_assign v_dirname_sep (nfree k_dirname_sep) (sound_call k_dirname_get_sep (N.f _ 3 (.tail _ (.tail _ (.tail _ (.head _))))) rfl (.cons (sound_var v_dirname_p nn_p.1 nn_p.2) rfl .nil)) (fun _ _ _ => rfl))
  (soundSs_cons (soundS_assign v_dirname_i (nfree k_dirname_i) (sound_bin (m_rfind rfl rfl (by decide) (sound_var v_dirname_p nn_p.1 nn_p.2) (.cons (sound_var v_dirname_sep nn_sep.1 nn_sep.2) rfl .nil)) (sound_const rfl) op_add) (fun _ _ _ => rfl))
  (soundSs_cons (soundS_assign v_dirname_head (nfree k_dirname_head) (sound_slice (sound_var v_dirname_p nn_p.1 nn_p.2) .no (.yes (sound_var v_dirname_i nn_i.1 nn_i.2))) (fun _ _ _ => rfl))
  (soundSs_cons (soundS_if (sound_bool (.and (sound_var v_dirname_head nn_head.1 nn_head.2) (.one (sound_cmp (sound_var v_dirname_head nn_head.1 nn_head.2) (sound_bin (sound_var v_dirname_sep nn_sep.1 nn_sep.2) (sound_callB k_dirname_len (N.b _ (.tail _ (.tail _ (.tail _ (.tail _ (.head _)))))) (by decide) rfl (.builtin _) rfl (.cons (sound_var v_dirname_head nn_head.1 nn_head.2) rfl .nil) op_len) op_mul) op_ne rfl)))) (soundSs_cons (soundS_assign v_dirname_head (nfree k_dirname_head) (m_rstrip rfl rfl (by decide) (sound_var v_dirname_head nn_head.1 nn_head.2) (.cons (sound_var v_dirname_sep nn_sep.1 nn_sep.2) rfl .nil)) (fun _ _ _ => rfl))
  soundSs_nil) soundSs_nil)
  (soundSs_cons (soundS_ret (sound_var v_dirname_head nn_head.1 nn_head.2))
  soundSs_nil))))))
noncomputable def sc_law_one : Sc := { kinds := [(PySem.Str.ofString "part", .local), (PySem.Str.ofString "sign", .local), (PySem.Str.ofString "body", .local), (PySem.Str.ofString "barred", .local), (PySem.Str.ofString "k", .local), (PySem.Str.ofString "found", .local), (PySem.Str.ofString "low", .local), (PySem.Str.ofString "high", .local), (PySem.Str.ofString "len", .globalImplicit)], vars := [(PySem.Str.ofString "part", 0), (PySem.Str.ofString "sign", 1), (PySem.Str.ofString "body", 2), (PySem.Str.ofString "barred", 3), (PySem.Str.ofString "k", 4), (PySem.Str.ofString "found", 5), (PySem.Str.ofString "low", 6), (PySem.Str.ofString "high", 7)] }
theorem v_law_one_part  : sc_law_one.vars.lookup (PySem.Str.ofString "part") = some 0 := rfl
theorem v_law_one_sign  : sc_law_one.vars.lookup (PySem.Str.ofString "sign") = some 1 := rfl
theorem v_law_one_body  : sc_law_one.vars.lookup (PySem.Str.ofString "body") = some 2 := rfl
theorem k_law_one_body  : sc_law_one.kinds.lookup (PySem.Str.ofString "body") = some .local := rfl
theorem v_law_one_barred  : sc_law_one.vars.lookup (PySem.Str.ofString "barred") = some 3 := rfl
theorem k_law_one_barred  : sc_law_one.kinds.lookup (PySem.Str.ofString "barred") = some .local := rfl
theorem v_law_one_k  : sc_law_one.vars.lookup (PySem.Str.ofString "k") = some 4 := rfl
theorem k_law_one_k  : sc_law_one.kinds.lookup (PySem.Str.ofString "k") = some .local := rfl
theorem v_law_one_found  : sc_law_one.vars.lookup (PySem.Str.ofString "found") = some 5 := rfl
theorem k_law_one_found  : sc_law_one.kinds.lookup (PySem.Str.ofString "found") = some .local := rfl
theorem k_law_one_len  : sc_law_one.kinds.lookup (PySem.Str.ofString "len") = some .globalImplicit := rfl
theorem v_law_one_low  : sc_law_one.vars.lookup (PySem.Str.ofString "low") = some 6 := rfl
theorem k_law_one_low  : sc_law_one.kinds.lookup (PySem.Str.ofString "low") = some .local := rfl
theorem v_law_one_high  : sc_law_one.vars.lookup (PySem.Str.ofString "high") = some 7 := rfl
theorem k_law_one_high  : sc_law_one.kinds.lookup (PySem.Str.ofString "high") = some .local := rfl
theorem snd_law_one {cx : XCx} (N : GN cx fs03 bs03) : SoundSs cx sc_law_one (nthBody PySem.Challenge.pw_dn0069_03 25) s_law_one := by
  unfold s_law_one
  exact (soundSs_cons (soundS_if (sound_bool (.or (sound_cmp (sound_var v_law_one_part nn_part.1 nn_part.2) (sound_const rfl) op_eq rfl) (.one (sound_cmp (sound_var v_law_one_part nn_part.1 nn_part.2) (sound_const (by kernel_rfl)) op_eq rfl)))) (soundSs_cons (soundS_ret (sound_cmp (sound_var v_law_one_part nn_part.1 nn_part.2) (sound_const rfl) op_eq rfl))
  soundSs_nil) soundSs_nil)
  (soundSs_cons (soundS_if (sound_cmp (sound_index (sound_var v_law_one_part nn_part.1 nn_part.2) (sound_const rfl)) (sound_const rfl) op_ne rfl) (soundSs_cons (soundS_ret (sound_cmp (sound_index (sound_var v_law_one_part nn_part.1 nn_part.2) (sound_un (sound_const rfl) op_neg (fun h => nomatch h))) (sound_var v_law_one_sign nn_sign.1 nn_sign.2) op_eq rfl))
  soundSs_nil) soundSs_nil)
  (soundSs_cons (soundS_assign v_law_one_body (nfree k_law_one_body) (sound_slice (sound_var v_law_one_part nn_part.1 nn_part.2) (.yes (sound_const rfl)) (.yes (sound_un (sound_const rfl) op_neg (fun h => nomatch h)))) (fun _ _ _ => rfl))
  (soundSs_cons (soundS_assign v_law_one_barred (nfree k_law_one_barred) (sound_cmp (sound_index (sound_var v_law_one_body nn_body.1 nn_body.2) (sound_const rfl)) (sound_const rfl) op_eq rfl) (fun _ _ _ => rfl))
  (soundSs_cons (soundS_assign v_law_one_k (nfree k_law_one_k) (sound_ite (sound_var v_law_one_barred nn_barred.1 nn_barred.2) (sound_const rfl) (sound_const rfl)) (fun _ _ _ => rfl))
  (soundSs_cons (soundS_assign v_law_one_found (nfree k_law_one_found) (sound_const rfl) (fun _ _ _ => rfl))
  (soundSs_cons (soundS_while (sound_cmp (sound_var v_law_one_k nn_k.1 nn_k.2) (sound_callB k_law_one_len (N.b _ (.tail _ (.tail _ (.tail _ (.tail _ (.head _)))))) (by decide) rfl (.builtin _) rfl (.cons (sound_var v_law_one_body nn_body.1 nn_body.2) rfl .nil) op_len) op_lt rfl) (soundSs_cons (soundS_if (sound_cmp (sound_index (sound_var v_law_one_body nn_body.1 nn_body.2) (sound_var v_law_one_k nn_k.1 nn_k.2)) (sound_const rfl) op_eq rfl) (soundSs_cons (soundS_assign v_law_one_k (nfree k_law_one_k) (sound_bin (sound_var v_law_one_k nn_k.1 nn_k.2) (sound_const rfl) op_add) (fun _ _ _ => rfl))
  soundSs_nil) soundSs_nil)
  (soundSs_cons (soundS_assign v_law_one_low (nfree k_law_one_low) (sound_index (sound_var v_law_one_body nn_body.1 nn_body.2) (sound_var v_law_one_k nn_k.1 nn_k.2)) (fun _ _ _ => rfl))
  (soundSs_cons (soundS_assign v_law_one_high (nfree k_law_one_high) (sound_var v_law_one_low nn_low.1 nn_low.2) (fun _ _ _ => rfl))
  (soundSs_cons (soundS_assign v_law_one_k (nfree k_law_one_k) (sound_bin (sound_var v_law_one_k nn_k.1 nn_k.2) (sound_const rfl) op_add) (fun _ _ _ => rfl))
  (soundSs_cons (soundS_if (sound_bool (.and (sound_cmp (sound_bin (sound_var v_law_one_k nn_k.1 nn_k.2) (sound_const rfl) op_add) (sound_callB k_law_one_len (N.b _ (.tail _ (.tail _ (.tail _ (.tail _ (.head _)))))) (by decide) rfl (.builtin _) rfl (.cons (sound_var v_law_one_body nn_body.1 nn_body.2) rfl .nil) op_len) op_lt rfl) (.one (sound_cmp (sound_index (sound_var v_law_one_body nn_body.1 nn_body.2) (sound_var v_law_one_k nn_k.1 nn_k.2)) (sound_const rfl) op_eq rfl)))) (soundSs_cons (soundS_assign v_law_one_k (nfree k_law_one_k) (sound_bin (sound_var v_law_one_k nn_k.1 nn_k.2) (sound_const rfl) op_add) (fun _ _ _ => rfl))
  (soundSs_cons (soundS_if (sound_cmp (sound_index (sound_var v_law_one_body nn_body.1 nn_body.2) (sound_var v_law_one_k nn_k.1 nn_k.2)) (sound_const rfl) op_eq rfl) (soundSs_cons (soundS_assign v_law_one_k (nfree k_law_one_k) (sound_bin (sound_var v_law_one_k nn_k.1 nn_k.2) (sound_const rfl) op_add) (fun _ _ _ => rfl))
  soundSs_nil) soundSs_nil)
  (soundSs_cons (soundS_assign v_law_one_high (nfree k_law_one_high) (sound_index (sound_var v_law_one_body nn_body.1 nn_body.2) (sound_var v_law_one_k nn_k.1 nn_k.2)) (fun _ _ _ => rfl))
  (soundSs_cons (soundS_assign v_law_one_k (nfree k_law_one_k) (sound_bin (sound_var v_law_one_k nn_k.1 nn_k.2) (sound_const rfl) op_add) (fun _ _ _ => rfl))
  soundSs_nil)))) soundSs_nil)
  (soundSs_cons (soundS_if (sound_bool (.and (sound_cmp (sound_var v_law_one_low nn_low.1 nn_low.2) (sound_var v_law_one_sign nn_sign.1 nn_sign.2) op_le rfl) (.one (sound_cmp (sound_var v_law_one_sign nn_sign.1 nn_sign.2) (sound_var v_law_one_high nn_high.1 nn_high.2) op_le rfl)))) (soundSs_cons (soundS_assign v_law_one_found (nfree k_law_one_found) (sound_const rfl) (fun _ _ _ => rfl))
  soundSs_nil) soundSs_nil)
  soundSs_nil)))))))
  (soundSs_cons (soundS_ret (sound_cmp (sound_var v_law_one_found nn_found.1 nn_found.2) (sound_var v_law_one_barred nn_barred.1 nn_barred.2) op_ne rfl))
  soundSs_nil))))))))
noncomputable def sc_law_takes : Sc := { kinds := [(PySem.Str.ofString "parts", .local), (PySem.Str.ofString "star", .local), (PySem.Str.ofString "name", .cell), (PySem.Str.ofString "at", .local), (PySem.Str.ofString "part", .cell), (PySem.Str.ofString "list", .globalImplicit), (PySem.Str.ofString "range", .globalImplicit), (PySem.Str.ofString "len", .globalImplicit)], vars := [(PySem.Str.ofString "parts", 0), (PySem.Str.ofString "star", 1), (PySem.Str.ofString "name", 2), (PySem.Str.ofString "at", 3), (PySem.Str.ofString "part", 4)] }
theorem v_law_takes_at  : sc_law_takes.vars.lookup (PySem.Str.ofString "at") = some 3 := rfl
theorem k_law_takes_at  : sc_law_takes.kinds.lookup (PySem.Str.ofString "at") = some .local := rfl
theorem v_law_takes_parts  : sc_law_takes.vars.lookup (PySem.Str.ofString "parts") = some 0 := rfl
theorem v_law_takes_part  : sc_law_takes.vars.lookup (PySem.Str.ofString "part") = some 4 := rfl
theorem v_law_takes_star  : sc_law_takes.vars.lookup (PySem.Str.ofString "star") = some 1 := rfl
theorem v_law_takes_name  : sc_law_takes.vars.lookup (PySem.Str.ofString "name") = some 2 := rfl
theorem k_law_takes_len  : sc_law_takes.kinds.lookup (PySem.Str.ofString "len") = some .globalImplicit := rfl
theorem k_law_takes_list  : sc_law_takes.kinds.lookup (PySem.Str.ofString "list") = some .globalImplicit := rfl
theorem k_law_takes_range  : sc_law_takes.kinds.lookup (PySem.Str.ofString "range") = some .globalImplicit := rfl
theorem k_law_takes_part  : sc_law_takes.kinds.lookup (PySem.Str.ofString "part") = some .cell := rfl
theorem snd_law_takes {cx : XCx} (N : GN cx fs03 bs03) : SoundSs cx sc_law_takes (nthBody PySem.Challenge.pw_dn0069_03 26) s_law_takes := by
  unfold s_law_takes
  exact (soundSs_cons (soundS_assign v_law_takes_at (nfree k_law_takes_at) (sound_list (.cons (sound_const rfl) rfl .nil)) (fun _ _ _ => rfl))
  (soundSs_cons (soundS_for v_law_takes_part (nfree k_law_takes_part) (soundI_seq (sound_var v_law_takes_parts nn_parts.1 nn_parts.2)) (soundSs_cons (soundS_if (sound_cmp (sound_var v_law_takes_part nn_part.1 nn_part.2) (sound_var v_law_takes_star nn_star.1 nn_star.2) op_is rfl) (soundSs_cons (soundS_assign v_law_takes_at (nfree k_law_takes_at) (sound_ite (sound_var v_law_takes_at nn_at.1 nn_at.2) (sound_listRange k_law_takes_list (N.b _ (.tail _ (.tail _ (.head _)))) k_law_takes_range (N.b _ (.tail _ (.tail _ (.tail _ (.tail _ (.tail _ (.tail _ (.tail _ (.tail _ (.tail _ (.tail _ (.head _)))))))))))) (.cons (sound_index (sound_var v_law_takes_at nn_at.1 nn_at.2) (sound_const rfl)) rfl (.cons (sound_bin (sound_callB k_law_takes_len (N.b _ (.tail _ (.tail _ (.tail _ (.tail _ (.head _)))))) (by decide) rfl (.builtin _) rfl (.cons (sound_var v_law_takes_name nn_name.1 nn_name.2) rfl .nil) op_len) (sound_const rfl) op_add) rfl .nil))) (sound_list .nil)) (fun _ _ _ => rfl))
  soundSs_nil) (soundSs_cons (soundS_assignC ⟨targetC_name, one_len, (soundI_seq (sound_var v_law_takes_at nn_at.1 nn_at.2)), compOK_of rfl, (tests_one (sound_bool (.and (sound_cmp (sound_var rfl nn_p.1 nn_p.2) (sound_callB rfl (N.b _ (.tail _ (.tail _ (.tail _ (.tail _ (.head _)))))) (by decide) rfl (.builtin _) rfl (.cons (sound_var rfl nn_name.1 nn_name.2) rfl .nil) op_len) op_lt rfl) (.one (sound_call rfl (N.f _ 14 (.tail _ (.tail _ (.tail _ (.tail _ (.tail _ (.tail _ (.tail _ (.head _))))))))) rfl (.cons (sound_var rfl nn_part.1 nn_part.2) rfl (.cons (sound_index (sound_var rfl nn_name.1 nn_name.2) (sound_var rfl nn_p.1 nn_p.2)) rfl .nil))))))), (sound_bin (sound_var rfl nn_p.1 nn_p.2) (sound_const rfl) op_add), fun _ _ => rfl⟩ v_law_takes_at (nfree k_law_takes_at) (swapC k_law_takes_at rfl rfl))
  soundSs_nil))
  soundSs_nil) (fun _ _ => rfl))
  (soundSs_cons (soundS_ret (sound_cmp (sound_callB k_law_takes_len (N.b _ (.tail _ (.tail _ (.tail _ (.tail _ (.head _)))))) (by decide) rfl (.builtin _) rfl (.cons (sound_var v_law_takes_name nn_name.1 nn_name.2) rfl .nil) op_len) (sound_var v_law_takes_at nn_at.1 nn_at.2) op_in rfl))
  soundSs_nil)))
noncomputable def sc_law_means : Sc := { kinds := [(PySem.Str.ofString "items", .cell), (PySem.Str.ofString "name", .cell), (PySem.Str.ofString "range", .globalImplicit), (PySem.Str.ofString "len", .globalImplicit), (PySem.Str.ofString "_law_means", .globalImplicit)], vars := [(PySem.Str.ofString "items", 0), (PySem.Str.ofString "name", 1)] }
theorem v_law_means_items  : sc_law_means.vars.lookup (PySem.Str.ofString "items") = some 0 := rfl
theorem v_law_means_name  : sc_law_means.vars.lookup (PySem.Str.ofString "name") = some 1 := rfl
theorem k_law_means_len  : sc_law_means.kinds.lookup (PySem.Str.ofString "len") = some .globalImplicit := rfl
theorem k_law_means_range  : sc_law_means.kinds.lookup (PySem.Str.ofString "range") = some .globalImplicit := rfl
theorem k_law_means_law_means  : sc_law_means.kinds.lookup (PySem.Str.ofString "_law_means") = some .globalImplicit := rfl
theorem snd_law_means {cx : XCx} (N : GN cx fs03 bs03) : SoundSs cx sc_law_means (nthBody PySem.Challenge.pw_dn0069_03 27) s_law_means := by
  unfold s_law_means
  exact (soundSs_cons (soundS_if (sound_not (sound_var v_law_means_items nn_items.1 nn_items.2)) (soundSs_cons (soundS_ret (sound_cmp (sound_var v_law_means_name nn_name.1 nn_name.2) (sound_const rfl) op_eq rfl))
  soundSs_nil) soundSs_nil)
  (soundSs_cons (soundS_if (sound_cmp (sound_index (sound_var v_law_means_items nn_items.1 nn_items.2) (sound_const rfl)) (sound_const rfl) op_is rfl) (soundSs_cons (soundS_ret (sound_cmp (sound_comp ⟨targetC_name, one_len, (soundI_range k_law_means_range (N.b _ (.tail _ (.tail _ (.tail _ (.tail _ (.tail _ (.tail _ (.tail _ (.tail _ (.tail _ (.tail _ (.head _)))))))))))) (.cons (sound_bin (sound_callB k_law_means_len (N.b _ (.tail _ (.tail _ (.tail _ (.tail _ (.head _)))))) (by decide) rfl (.builtin _) rfl (.cons (sound_var v_law_means_name nn_name.1 nn_name.2) rfl .nil) op_len) (sound_const rfl) op_add) rfl .nil)), compOK_of rfl, (tests_one (sound_call rfl (N.f _ 16 (.tail _ (.tail _ (.tail _ (.tail _ (.tail _ (.tail _ (.tail _ (.tail _ (.tail _ (.head _))))))))))) rfl (.cons (sound_slice (sound_var rfl nn_items.1 nn_items.2) (.yes (sound_const rfl)) .no) rfl (.cons (sound_slice (sound_var rfl nn_name.1 nn_name.2) (.yes (sound_var rfl nn_k.1 nn_k.2)) .no) rfl .nil)))), (sound_const rfl), fun _ _ => rfl⟩) (sound_list .nil) op_ne rfl))
  soundSs_nil) soundSs_nil)
  (soundSs_cons (soundS_ret (sound_bool (.and (sound_cmp (sound_var v_law_means_name nn_name.1 nn_name.2) (sound_const rfl) op_ne rfl) (.and (sound_cmp (sound_index (sound_var v_law_means_name nn_name.1 nn_name.2) (sound_const rfl)) (sound_index (sound_var v_law_means_items nn_items.1 nn_items.2) (sound_const rfl)) op_in rfl) (.one (sound_call k_law_means_law_means (N.f _ 16 (.tail _ (.tail _ (.tail _ (.tail _ (.tail _ (.tail _ (.tail _ (.tail _ (.tail _ (.head _))))))))))) rfl (.cons (sound_slice (sound_var v_law_means_items nn_items.1 nn_items.2) (.yes (sound_const rfl)) .no) rfl (.cons (sound_slice (sound_var v_law_means_name nn_name.1 nn_name.2) (.yes (sound_const rfl)) .no) rfl .nil))))))))
  soundSs_nil)))
noncomputable def sc_law_dressed : Sc := { kinds := [(PySem.Str.ofString "code", .local), (PySem.Str.ofString "pieces", .local)], vars := [(PySem.Str.ofString "code", 0), (PySem.Str.ofString "pieces", 1)] }
theorem v_law_dressed_pieces  : sc_law_dressed.vars.lookup (PySem.Str.ofString "pieces") = some 1 := rfl
theorem k_law_dressed_pieces  : sc_law_dressed.kinds.lookup (PySem.Str.ofString "pieces") = some .local := rfl
theorem v_law_dressed_code  : sc_law_dressed.vars.lookup (PySem.Str.ofString "code") = some 0 := rfl
theorem snd_law_dressed {cx : XCx} (N : GN cx fs03 bs03) : SoundSs cx sc_law_dressed (nthBody PySem.Challenge.pw_dn0069_03 28) s_law_dressed := by
  unfold s_law_dressed
  refine soundSs_cons ?_ ?_
  · refine soundS_assign ?_ ?_ ?_ ?_
    · exact v_law_dressed_pieces
    · exact (nfree k_law_dressed_pieces)
    · exact (sound_tup (.cons (sound_tup (.cons (sound_const rfl) rfl (.cons (sound_list (.cons (sound_const rfl) rfl .nil)) rfl .nil))) rfl (.cons (sound_tup (.cons (sound_const rfl) rfl (.cons (sound_list (.cons (sound_const rfl) rfl .nil)) rfl .nil))) rfl (.cons (sound_tup (.cons (sound_const rfl) rfl (.cons (sound_list (.cons (sound_const rfl) rfl (.cons (sound_const rfl) rfl .nil))) rfl .nil))) rfl (.cons (sound_tup (.cons (sound_const rfl) rfl (.cons (sound_list (.cons (sound_const rfl) rfl .nil)) rfl .nil))) rfl (.cons (sound_tup (.cons (sound_const (by kernel_rfl)) rfl (.cons (sound_list (.cons (sound_const rfl) rfl (.cons (sound_const rfl) rfl .nil))) rfl .nil))) rfl (.cons (sound_tup (.cons (sound_const rfl) rfl (.cons (sound_list (.cons (sound_const rfl) rfl (.cons (sound_const rfl) rfl .nil))) rfl .nil))) rfl (.cons (sound_tup (.cons (sound_const (by kernel_rfl)) rfl (.cons (sound_list (.cons (sound_const rfl) rfl (.cons (sound_const rfl) rfl .nil))) rfl .nil))) rfl (.cons (sound_tup (.cons (sound_const rfl) rfl (.cons (sound_list (.cons (sound_const rfl) rfl (.cons (sound_const rfl) rfl .nil))) rfl .nil))) rfl (.cons (sound_tup (.cons (sound_const (by kernel_rfl)) rfl (.cons (sound_list (.cons (sound_const rfl) rfl .nil)) rfl .nil))) rfl (.cons (sound_tup (.cons (sound_const (by kernel_rfl)) rfl (.cons (sound_list (.cons (sound_const rfl) rfl (.cons (sound_const rfl) rfl .nil))) rfl .nil))) rfl (.cons (sound_tup (.cons (sound_const rfl) rfl (.cons (sound_list (.cons (sound_const rfl) rfl .nil)) rfl .nil))) rfl (.cons (sound_tup (.cons (sound_const (by kernel_rfl)) rfl (.cons (sound_list (.cons (sound_const rfl) rfl (.cons (sound_const rfl) rfl .nil))) rfl .nil))) rfl (.cons (sound_tup (.cons (sound_const rfl) rfl (.cons (sound_list (.cons (sound_const rfl) rfl (.cons (sound_const rfl) rfl (.cons (sound_const rfl) rfl .nil)))) rfl .nil))) rfl .nil))))))))))))))
    · exact (fun _ _ _ => by kernel_rfl)
  · exact (soundSs_cons (soundS_ret (sound_index (sound_var v_law_dressed_pieces nn_pieces.1 nn_pieces.2) (sound_bin (sound_var v_law_dressed_code nn_code.1 nn_code.2) (sound_const rfl) op_mod)))
  soundSs_nil)
noncomputable def sc_law_hits : Sc := { kinds := [(PySem.Str.ofString "rule", .local), (PySem.Str.ofString "path", .local), (PySem.Str.ofString "star", .local), (PySem.Str.ofString "head", .local), (PySem.Str.ofString "tail", .local), (PySem.Str.ofString "split", .globalImplicit), (PySem.Str.ofString "_law_takes", .globalImplicit), (PySem.Str.ofString "dirname", .globalImplicit)], vars := [(PySem.Str.ofString "rule", 0), (PySem.Str.ofString "path", 1), (PySem.Str.ofString "star", 2), (PySem.Str.ofString "head", 3), (PySem.Str.ofString "tail", 4)] }
theorem v_law_hits_path  : sc_law_hits.vars.lookup (PySem.Str.ofString "path") = some 1 := rfl
theorem k_law_hits_split  : sc_law_hits.kinds.lookup (PySem.Str.ofString "split") = some .globalImplicit := rfl
theorem v_law_hits_head  : sc_law_hits.vars.lookup (PySem.Str.ofString "head") = some 3 := rfl
theorem v_law_hits_tail  : sc_law_hits.vars.lookup (PySem.Str.ofString "tail") = some 4 := rfl
theorem k_law_hits_head  : sc_law_hits.kinds.lookup (PySem.Str.ofString "head") = some .local := rfl
theorem k_law_hits_tail  : sc_law_hits.kinds.lookup (PySem.Str.ofString "tail") = some .local := rfl
theorem v_law_hits_star  : sc_law_hits.vars.lookup (PySem.Str.ofString "star") = some 2 := rfl
theorem v_law_hits_rule  : sc_law_hits.vars.lookup (PySem.Str.ofString "rule") = some 0 := rfl
theorem k_law_hits_law_takes  : sc_law_hits.kinds.lookup (PySem.Str.ofString "_law_takes") = some .globalImplicit := rfl
theorem k_law_hits_dirname  : sc_law_hits.kinds.lookup (PySem.Str.ofString "dirname") = some .globalImplicit := rfl
theorem snd_law_hits {cx : XCx} (N : GN cx fs03 bs03) : SoundSs cx sc_law_hits (nthBody PySem.Challenge.pw_dn0069_03 29) s_law_hits := by
  unfold s_law_hits
  exact (soundSs_cons (soundS_assign2 v_law_hits_head v_law_hits_tail (nfree k_law_hits_head) (nfree k_law_hits_tail) (sound_call k_law_hits_split (N.f _ 5 (.tail _ (.tail _ (.tail _ (.tail _ (.tail _ (.head _))))))) rfl (.cons (sound_var v_law_hits_path nn_path.1 nn_path.2) rfl .nil)) (fun _ => rfl) (fun _ => rfl))
  (soundSs_cons (soundS_if (sound_not (sound_call k_law_hits_law_takes (N.f _ 15 (.tail _ (.tail _ (.tail _ (.tail _ (.tail _ (.tail _ (.tail _ (.tail _ (.head _)))))))))) rfl (.cons (sound_index (sound_index (sound_var v_law_hits_rule nn_rule.1 nn_rule.2) (sound_const rfl)) (sound_const rfl)) rfl (.cons (sound_var v_law_hits_star nn_star.1 nn_star.2) rfl (.cons (sound_var v_law_hits_tail nn_tail.1 nn_tail.2) rfl .nil))))) (soundSs_cons (soundS_ret (sound_const rfl))
  soundSs_nil) soundSs_nil)
  (soundSs_cons (soundS_if (sound_cmp (sound_index (sound_var v_law_hits_rule nn_rule.1 nn_rule.2) (sound_const rfl)) (sound_const rfl) op_eq rfl) (soundSs_cons (soundS_ret (sound_const rfl))
  soundSs_nil) soundSs_nil)
  (soundSs_cons (soundS_if (sound_cmp (sound_index (sound_var v_law_hits_rule nn_rule.1 nn_rule.2) (sound_const rfl)) (sound_const rfl) op_eq rfl) (soundSs_cons (soundS_ret (sound_cmp (sound_var v_law_hits_head nn_head.1 nn_head.2) (sound_const rfl) op_eq rfl))
  soundSs_nil) soundSs_nil)
  (soundSs_cons (soundS_ret (sound_bool (.and (sound_cmp (sound_var v_law_hits_head nn_head.1 nn_head.2) (sound_const rfl) op_ne rfl) (.and (sound_cmp (sound_call k_law_hits_dirname (N.f _ 6 (.tail _ (.tail _ (.tail _ (.tail _ (.tail _ (.tail _ (.head _)))))))) rfl (.cons (sound_var v_law_hits_head nn_head.1 nn_head.2) rfl .nil)) (sound_const rfl) op_eq rfl) (.one (sound_call k_law_hits_law_takes (N.f _ 15 (.tail _ (.tail _ (.tail _ (.tail _ (.tail _ (.tail _ (.tail _ (.tail _ (.head _)))))))))) rfl (.cons (sound_index (sound_index (sound_var v_law_hits_rule nn_rule.1 nn_rule.2) (sound_const rfl)) (sound_const rfl)) rfl (.cons (sound_var v_law_hits_star nn_star.1 nn_star.2) rfl (.cons (sound_var v_law_hits_head nn_head.1 nn_head.2) rfl .nil)))))))))
  soundSs_nil)))))
noncomputable def sc_law_out : Sc := { kinds := [(PySem.Str.ofString "rules", .local), (PySem.Str.ofString "path", .local), (PySem.Str.ofString "star", .local), (PySem.Str.ofString "head", .local), (PySem.Str.ofString "out", .local), (PySem.Str.ofString "rule", .local), (PySem.Str.ofString "dirname", .globalImplicit), (PySem.Str.ofString "_law_out", .globalImplicit), (PySem.Str.ofString "_law_hits", .globalImplicit)], vars := [(PySem.Str.ofString "rules", 0), (PySem.Str.ofString "path", 1), (PySem.Str.ofString "star", 2), (PySem.Str.ofString "head", 3), (PySem.Str.ofString "out", 4), (PySem.Str.ofString "rule", 5)] }
theorem v_law_out_path  : sc_law_out.vars.lookup (PySem.Str.ofString "path") = some 1 := rfl
theorem k_law_out_dirname  : sc_law_out.kinds.lookup (PySem.Str.ofString "dirname") = some .globalImplicit := rfl
theorem v_law_out_head  : sc_law_out.vars.lookup (PySem.Str.ofString "head") = some 3 := rfl
theorem k_law_out_head  : sc_law_out.kinds.lookup (PySem.Str.ofString "head") = some .local := rfl
theorem v_law_out_star  : sc_law_out.vars.lookup (PySem.Str.ofString "star") = some 2 := rfl
theorem v_law_out_rules  : sc_law_out.vars.lookup (PySem.Str.ofString "rules") = some 0 := rfl
theorem k_law_out_law_out  : sc_law_out.kinds.lookup (PySem.Str.ofString "_law_out") = some .globalImplicit := rfl
theorem v_law_out_out  : sc_law_out.vars.lookup (PySem.Str.ofString "out") = some 4 := rfl
theorem k_law_out_out  : sc_law_out.kinds.lookup (PySem.Str.ofString "out") = some .local := rfl
theorem v_law_out_rule  : sc_law_out.vars.lookup (PySem.Str.ofString "rule") = some 5 := rfl
theorem k_law_out_law_hits  : sc_law_out.kinds.lookup (PySem.Str.ofString "_law_hits") = some .globalImplicit := rfl
theorem k_law_out_rule  : sc_law_out.kinds.lookup (PySem.Str.ofString "rule") = some .local := rfl
theorem snd_law_out {cx : XCx} (N : GN cx fs03 bs03) : SoundSs cx sc_law_out (nthBody PySem.Challenge.pw_dn0069_03 30) s_law_out := by
  unfold s_law_out
  exact (soundSs_cons (soundS_assign v_law_out_head (nfree k_law_out_head) (sound_call k_law_out_dirname (N.f _ 6 (.tail _ (.tail _ (.tail _ (.tail _ (.tail _ (.tail _ (.head _)))))))) rfl (.cons (sound_var v_law_out_path nn_path.1 nn_path.2) rfl .nil)) (fun _ _ _ => rfl))
  (soundSs_cons (soundS_if (sound_bool (.and (sound_cmp (sound_var v_law_out_head nn_head.1 nn_head.2) (sound_const rfl) op_ne rfl) (.one (sound_call k_law_out_law_out (N.f _ 24 (.tail _ (.tail _ (.tail _ (.tail _ (.tail _ (.tail _ (.tail _ (.tail _ (.tail _ (.tail _ (.tail _ (.tail _ (.head _)))))))))))))) rfl (.cons (sound_var v_law_out_rules nn_rules.1 nn_rules.2) rfl (.cons (sound_var v_law_out_head nn_head.1 nn_head.2) rfl (.cons (sound_var v_law_out_star nn_star.1 nn_star.2) rfl .nil))))))) (soundSs_cons (soundS_ret (sound_const rfl))
  soundSs_nil) soundSs_nil)
  (soundSs_cons (soundS_assign v_law_out_out (nfree k_law_out_out) (sound_const rfl) (fun _ _ _ => rfl))
  (soundSs_cons (soundS_for v_law_out_rule (nfree k_law_out_rule) (soundI_seq (sound_var v_law_out_rules nn_rules.1 nn_rules.2)) (soundSs_cons (soundS_if (sound_bool (.and (sound_cmp (sound_index (sound_var v_law_out_rule nn_rule.1 nn_rule.2) (sound_const rfl)) (sound_var v_law_out_out nn_out.1 nn_out.2) op_ne rfl) (.one (sound_call k_law_out_law_hits (N.f _ 23 (.tail _ (.tail _ (.tail _ (.tail _ (.tail _ (.tail _ (.tail _ (.tail _ (.tail _ (.tail _ (.tail _ (.head _))))))))))))) rfl (.cons (sound_var v_law_out_rule nn_rule.1 nn_rule.2) rfl (.cons (sound_var v_law_out_path nn_path.1 nn_path.2) rfl (.cons (sound_var v_law_out_star nn_star.1 nn_star.2) rfl .nil))))))) (soundSs_cons (soundS_assign v_law_out_out (nfree k_law_out_out) (sound_index (sound_var v_law_out_rule nn_rule.1 nn_rule.2) (sound_const rfl)) (fun _ _ _ => rfl))
  soundSs_nil) soundSs_nil)
  soundSs_nil) (fun _ _ => rfl))
  (soundSs_cons (soundS_ret (sound_var v_law_out_out nn_out.1 nn_out.2))
  soundSs_nil)))))
noncomputable def sc_law_met : Sc := { kinds := [(PySem.Str.ofString "rules", .local), (PySem.Str.ofString "tree", .local), (PySem.Str.ofString "above", .local), (PySem.Str.ofString "met", .local), (PySem.Str.ofString "names", .local), (PySem.Str.ofString "out", .local), (PySem.Str.ofString "leaves", .local), (PySem.Str.ofString "kind", .local), (PySem.Str.ofString "own", .local), (PySem.Str.ofString "folder", .local), (PySem.Str.ofString "lists", .local), (PySem.Str.ofString "hit", .local), (PySem.Str.ofString "_law_means", .globalImplicit), (PySem.Str.ofString "len", .globalImplicit), (PySem.Str.ofString "_law_met", .globalImplicit)], vars := [(PySem.Str.ofString "rules", 0), (PySem.Str.ofString "tree", 1), (PySem.Str.ofString "above", 2), (PySem.Str.ofString "met", 3), (PySem.Str.ofString "names", 4), (PySem.Str.ofString "out", 5), (PySem.Str.ofString "leaves", 6), (PySem.Str.ofString "kind", 7), (PySem.Str.ofString "own", 8), (PySem.Str.ofString "folder", 9), (PySem.Str.ofString "lists", 10), (PySem.Str.ofString "hit", 11)] }
theorem v_law_met_met  : sc_law_met.vars.lookup (PySem.Str.ofString "met") = some 3 := rfl
theorem k_law_met_met  : sc_law_met.kinds.lookup (PySem.Str.ofString "met") = some .local := rfl
theorem v_law_met_tree  : sc_law_met.vars.lookup (PySem.Str.ofString "tree") = some 1 := rfl
theorem v_law_met_names  : sc_law_met.vars.lookup (PySem.Str.ofString "names") = some 4 := rfl
theorem v_law_met_above  : sc_law_met.vars.lookup (PySem.Str.ofString "above") = some 2 := rfl
theorem v_law_met_out  : sc_law_met.vars.lookup (PySem.Str.ofString "out") = some 5 := rfl
theorem k_law_met_out  : sc_law_met.kinds.lookup (PySem.Str.ofString "out") = some .local := rfl
theorem v_law_met_rules  : sc_law_met.vars.lookup (PySem.Str.ofString "rules") = some 0 := rfl
theorem v_law_met_own  : sc_law_met.vars.lookup (PySem.Str.ofString "own") = some 8 := rfl
theorem k_law_met_law_means  : sc_law_met.kinds.lookup (PySem.Str.ofString "_law_means") = some .globalImplicit := rfl
theorem v_law_met_hit  : sc_law_met.vars.lookup (PySem.Str.ofString "hit") = some 11 := rfl
theorem k_law_met_hit  : sc_law_met.kinds.lookup (PySem.Str.ofString "hit") = some .local := rfl
theorem v_law_met_kind  : sc_law_met.vars.lookup (PySem.Str.ofString "kind") = some 7 := rfl
theorem k_law_met_len  : sc_law_met.kinds.lookup (PySem.Str.ofString "len") = some .globalImplicit := rfl
theorem v_law_met_folder  : sc_law_met.vars.lookup (PySem.Str.ofString "folder") = some 9 := rfl
theorem v_law_met_leaves  : sc_law_met.vars.lookup (PySem.Str.ofString "leaves") = some 6 := rfl
theorem v_law_met_lists  : sc_law_met.vars.lookup (PySem.Str.ofString "lists") = some 10 := rfl
theorem k_law_met_leaves  : sc_law_met.kinds.lookup (PySem.Str.ofString "leaves") = some .local := rfl
theorem k_law_met_kind  : sc_law_met.kinds.lookup (PySem.Str.ofString "kind") = some .local := rfl
theorem k_law_met_own  : sc_law_met.kinds.lookup (PySem.Str.ofString "own") = some .local := rfl
theorem k_law_met_folder  : sc_law_met.kinds.lookup (PySem.Str.ofString "folder") = some .local := rfl
theorem k_law_met_lists  : sc_law_met.kinds.lookup (PySem.Str.ofString "lists") = some .local := rfl
theorem k_law_met_law_met  : sc_law_met.kinds.lookup (PySem.Str.ofString "_law_met") = some .globalImplicit := rfl
theorem k_law_met_names  : sc_law_met.kinds.lookup (PySem.Str.ofString "names") = some .local := rfl
theorem snd_law_met {cx : XCx} (N : GN cx fs03 bs03) : SoundSs cx sc_law_met (nthBody PySem.Challenge.pw_dn0069_03 31) s_law_met := by
  unfold s_law_met
  exact (soundSs_cons (soundS_assignO v_law_met_met (nfree k_law_met_met) (sound_list .nil) (fun _ _ _ => rfl))
  (soundSs_cons (soundS_for v_law_met_names (nfree k_law_met_names) (soundI_seq (sound_var v_law_met_tree nn_tree.1 nn_tree.2)) (soundSs_cons (soundS_if (sound_cmp (sound_slice (sound_var v_law_met_names nn_names.1 nn_names.2) .no (.yes (sound_un (sound_const rfl) op_neg (fun h => nomatch h)))) (sound_var v_law_met_above nn_above.1 nn_above.2) op_eq rfl) (soundSs_cons (soundS_assign v_law_met_out (nfree k_law_met_out) (sound_const rfl) (fun _ _ _ => rfl))
  (soundSs_cons (soundS_forN (soundA_tup5 v_law_met_leaves v_law_met_kind v_law_met_own v_law_met_folder v_law_met_lists (nfree k_law_met_leaves) (nfree k_law_met_kind) (nfree k_law_met_own) (nfree k_law_met_folder) (nfree k_law_met_lists)) (soundI_seq (sound_var v_law_met_rules nn_rules.1 nn_rules.2)) (soundSs_cons (soundS_assign v_law_met_hit (nfree k_law_met_hit) (sound_call k_law_met_law_means (N.f _ 16 (.tail _ (.tail _ (.tail _ (.tail _ (.tail _ (.tail _ (.tail _ (.tail _ (.tail _ (.head _))))))))))) rfl (.cons (sound_var v_law_met_own nn_own.1 nn_own.2) rfl (.cons (sound_index (sound_var v_law_met_names nn_names.1 nn_names.2) (sound_un (sound_const rfl) op_neg (fun h => nomatch h))) rfl .nil))) (fun _ _ _ => rfl))
  (soundSs_cons (soundS_if (sound_cmp (sound_var v_law_met_kind nn_kind.1 nn_kind.2) (sound_const rfl) op_eq rfl) (soundSs_cons (soundS_assign v_law_met_hit (nfree k_law_met_hit) (sound_bool (.and (sound_var v_law_met_hit nn_hit.1 nn_hit.2) (.one (sound_cmp (sound_callB k_law_met_len (N.b _ (.tail _ (.tail _ (.tail _ (.tail _ (.head _)))))) (by decide) rfl (.builtin _) rfl (.cons (sound_var v_law_met_names nn_names.1 nn_names.2) rfl .nil) op_len) (sound_const rfl) op_eq rfl)))) (fun _ _ _ => rfl))
  soundSs_nil) (soundSs_cons (soundS_if (sound_cmp (sound_var v_law_met_kind nn_kind.1 nn_kind.2) (sound_const rfl) op_eq rfl) (soundSs_cons (soundS_assign v_law_met_hit (nfree k_law_met_hit) (sound_bool (.and (sound_var v_law_met_hit nn_hit.1 nn_hit.2) (.and (sound_cmp (sound_callB k_law_met_len (N.b _ (.tail _ (.tail _ (.tail _ (.tail _ (.head _)))))) (by decide) rfl (.builtin _) rfl (.cons (sound_var v_law_met_names nn_names.1 nn_names.2) rfl .nil) op_len) (sound_const rfl) op_eq rfl) (.one (sound_call k_law_met_law_means (N.f _ 16 (.tail _ (.tail _ (.tail _ (.tail _ (.tail _ (.tail _ (.tail _ (.tail _ (.tail _ (.head _))))))))))) rfl (.cons (sound_var v_law_met_folder nn_folder.1 nn_folder.2) rfl (.cons (sound_index (sound_var v_law_met_names nn_names.1 nn_names.2) (sound_const rfl)) rfl .nil))))))) (fun _ _ _ => rfl))
  soundSs_nil) soundSs_nil)
  soundSs_nil))
  (soundSs_cons (soundS_if (sound_var v_law_met_hit nn_hit.1 nn_hit.2) (soundSs_cons (soundS_assign v_law_met_out (nfree k_law_met_out) (sound_var v_law_met_leaves nn_leaves.1 nn_leaves.2) (fun _ _ _ => rfl))
  soundSs_nil) soundSs_nil)
  soundSs_nil))) (fun _ _ => rfl))
  (soundSs_cons (soundS_if (sound_not (sound_var v_law_met_out nn_out.1 nn_out.2)) (soundSs_cons (soundS_append v_law_met_met nn_met.1 nn_met.2 rfl (sound_var v_law_met_names nn_names.1 nn_names.2) rfl)
  (soundSs_cons (soundS_extend v_law_met_met nn_met.1 nn_met.2 rfl (sound_call k_law_met_law_met (N.f _ 25 (.tail _ (.tail _ (.tail _ (.tail _ (.tail _ (.tail _ (.tail _ (.tail _ (.tail _ (.tail _ (.tail _ (.tail _ (.tail _ (.head _))))))))))))))) rfl (.cons (sound_var v_law_met_rules nn_rules.1 nn_rules.2) rfl (.cons (sound_var v_law_met_tree nn_tree.1 nn_tree.2) rfl (.cons (sound_var v_law_met_names nn_names.1 nn_names.2) rfl .nil)))) rfl)
  soundSs_nil)) soundSs_nil)
  soundSs_nil))) soundSs_nil)
  soundSs_nil) (fun _ _ => rfl))
  (soundSs_cons (soundS_fz ⟨_, v_law_met_met⟩ (soundS_ret (sound_var v_law_met_met nn_met.1 nn_met.2)))
  soundSs_nil)))
noncomputable def sc_law : Sc := { kinds := [(PySem.Str.ofString "script", .cell), (PySem.Str.ofString "star", .local), (PySem.Str.ofString "k", .local), (PySem.Str.ofString "sums", .local), (PySem.Str.ofString "tree", .local), (PySem.Str.ofString "left", .local), (PySem.Str.ofString "names", .local), (PySem.Str.ofString "step", .local), (PySem.Str.ofString "rules", .local), (PySem.Str.ofString "own", .local), (PySem.Str.ofString "folder", .local), (PySem.Str.ofString "lists", .local), (PySem.Str.ofString "met", .local), (PySem.Str.ofString "range", .globalImplicit), (PySem.Str.ofString "_law_dressed", .globalImplicit), (PySem.Str.ofString "_translate", .globalImplicit), (PySem.Str.ofString "_law_met", .globalImplicit), (PySem.Str.ofString "_law_out", .globalImplicit), (PySem.Str.ofString "join", .globalImplicit)], vars := [(PySem.Str.ofString "script", 0), (PySem.Str.ofString "star", 1), (PySem.Str.ofString "k", 2), (PySem.Str.ofString "sums", 3), (PySem.Str.ofString "tree", 4), (PySem.Str.ofString "left", 5), (PySem.Str.ofString "names", 6), (PySem.Str.ofString "step", 7), (PySem.Str.ofString "rules", 8), (PySem.Str.ofString "own", 9), (PySem.Str.ofString "folder", 10), (PySem.Str.ofString "lists", 11), (PySem.Str.ofString "met", 12)] }
theorem k_law_range  : sc_law.kinds.lookup (PySem.Str.ofString "range") = some .globalImplicit := rfl
theorem v_law_sums  : sc_law.vars.lookup (PySem.Str.ofString "sums") = some 3 := rfl
theorem k_law_sums  : sc_law.kinds.lookup (PySem.Str.ofString "sums") = some .local := rfl
theorem v_law_tree  : sc_law.vars.lookup (PySem.Str.ofString "tree") = some 4 := rfl
theorem k_law_tree  : sc_law.kinds.lookup (PySem.Str.ofString "tree") = some .local := rfl
theorem v_law_k  : sc_law.vars.lookup (PySem.Str.ofString "k") = some 2 := rfl
theorem v_law_left  : sc_law.vars.lookup (PySem.Str.ofString "left") = some 5 := rfl
theorem k_law_left  : sc_law.kinds.lookup (PySem.Str.ofString "left") = some .local := rfl
theorem v_law_names  : sc_law.vars.lookup (PySem.Str.ofString "names") = some 6 := rfl
theorem k_law_names  : sc_law.kinds.lookup (PySem.Str.ofString "names") = some .local := rfl
theorem v_law_step  : sc_law.vars.lookup (PySem.Str.ofString "step") = some 7 := rfl
theorem k_law_step  : sc_law.kinds.lookup (PySem.Str.ofString "step") = some .local := rfl
theorem k_law_k  : sc_law.kinds.lookup (PySem.Str.ofString "k") = some .local := rfl
theorem v_law_rules  : sc_law.vars.lookup (PySem.Str.ofString "rules") = some 8 := rfl
theorem k_law_rules  : sc_law.kinds.lookup (PySem.Str.ofString "rules") = some .local := rfl
theorem k_law_law_dressed  : sc_law.kinds.lookup (PySem.Str.ofString "_law_dressed") = some .globalImplicit := rfl
theorem v_law_own  : sc_law.vars.lookup (PySem.Str.ofString "own") = some 9 := rfl
theorem k_law_own  : sc_law.kinds.lookup (PySem.Str.ofString "own") = some .local := rfl
theorem v_law_folder  : sc_law.vars.lookup (PySem.Str.ofString "folder") = some 10 := rfl
theorem k_law_folder  : sc_law.kinds.lookup (PySem.Str.ofString "folder") = some .local := rfl
theorem v_law_star  : sc_law.vars.lookup (PySem.Str.ofString "star") = some 1 := rfl
theorem k_law_translate  : sc_law.kinds.lookup (PySem.Str.ofString "_translate") = some .globalImplicit := rfl
theorem v_law_lists  : sc_law.vars.lookup (PySem.Str.ofString "lists") = some 11 := rfl
theorem k_law_lists  : sc_law.kinds.lookup (PySem.Str.ofString "lists") = some .local := rfl
theorem k_law_law_met  : sc_law.kinds.lookup (PySem.Str.ofString "_law_met") = some .globalImplicit := rfl
theorem v_law_met  : sc_law.vars.lookup (PySem.Str.ofString "met") = some 12 := rfl
theorem k_law_met  : sc_law.kinds.lookup (PySem.Str.ofString "met") = some .local := rfl
theorem k_law_join  : sc_law.kinds.lookup (PySem.Str.ofString "join") = some .globalImplicit := rfl
theorem k_law_law_out  : sc_law.kinds.lookup (PySem.Str.ofString "_law_out") = some .globalImplicit := rfl
theorem snd_law {cx : XCx} (N : GN cx fs03 bs03) : SoundSs cx sc_law ((nthBody PySem.Challenge.pw_dn0069_03 32).drop 1) s_law := by
  unfold s_law
  exact (soundSs_cons (soundS_assignC ⟨targetC_name, one_len, (soundI_range k_law_range (N.b _ (.tail _ (.tail _ (.tail _ (.tail _ (.tail _ (.tail _ (.tail _ (.tail _ (.tail _ (.tail _ (.head _)))))))))))) (.cons (sound_const rfl) rfl .nil)), compOK_of rfl, tests_nil, (sound_callB rfl (N.b _ (.tail _ (.tail _ (.tail _ (.tail _ (.tail _ (.head _))))))) (by decide) rfl (.builtin _) rfl (.cons (sound_callB rfl (N.b _ (.tail _ (.tail _ (.tail _ (.tail _ (.tail _ (.tail _ (.head _)))))))) (by decide) rfl (.builtin _) rfl (.cons (sound_slice3 (sound_var rfl nn_script.1 nn_script.2) (.yes (sound_var rfl nn_k.1 nn_k.2)) .no (sound_const rfl)) rfl .nil) op_sum) rfl .nil) op_abs), fun _ _ => rfl⟩ v_law_sums (nfree k_law_sums) (swapC k_law_sums rfl rfl))
  (soundSs_cons (soundS_assignO v_law_tree (nfree k_law_tree) (sound_list .nil) (fun _ _ _ => rfl))
  (soundSs_cons (soundS_for v_law_k (nfree k_law_k) (soundI_range k_law_range (N.b _ (.tail _ (.tail _ (.tail _ (.tail _ (.tail _ (.tail _ (.tail _ (.tail _ (.tail _ (.tail _ (.head _)))))))))))) (.cons (sound_const rfl) rfl .nil)) (soundSs_cons (soundS_assign v_law_left (nfree k_law_left) (sound_bin (sound_index (sound_var v_law_sums nn_sums.1 nn_sums.2) (sound_var v_law_k nn_k.1 nn_k.2)) (sound_index (sound_tup (.cons (sound_const rfl) rfl (.cons (sound_const rfl) rfl (.cons (sound_const rfl) rfl (.cons (sound_const rfl) rfl (.cons (sound_const rfl) rfl (.cons (sound_const rfl) rfl .nil))))))) (sound_var v_law_k nn_k.1 nn_k.2)) op_add) (fun _ _ _ => rfl))
  (soundSs_cons (soundS_assignO v_law_names (nfree k_law_names) (sound_list .nil) (fun _ _ _ => rfl))
  (soundSs_cons (soundS_for v_law_step (nfree k_law_step) (soundI_range k_law_range (N.b _ (.tail _ (.tail _ (.tail _ (.tail _ (.tail _ (.tail _ (.tail _ (.tail _ (.tail _ (.tail _ (.head _)))))))))))) (.cons (sound_ite (sound_cmp (sound_var v_law_left nn_left.1 nn_left.2) (sound_const rfl) op_gt rfl) (sound_bin (sound_const rfl) (sound_bin (sound_bin (sound_var v_law_left nn_left.1 nn_left.2) (sound_const rfl) op_div) (sound_const rfl) op_mod) op_add) (sound_const rfl)) rfl .nil)) (soundSs_cons (soundS_append v_law_names nn_names.1 nn_names.2 rfl (sound_index (sound_tup (.cons (sound_const rfl) rfl (.cons (sound_const rfl) rfl (.cons (sound_const rfl) rfl (.cons (sound_const rfl) rfl (.cons (sound_const rfl) rfl (.cons (sound_const rfl) rfl .nil))))))) (sound_bin (sound_var v_law_left nn_left.1 nn_left.2) (sound_const rfl) op_mod)) rfl)
  (soundSs_cons (soundS_assign v_law_left (nfree k_law_left) (sound_bin (sound_var v_law_left nn_left.1 nn_left.2) (sound_const rfl) op_div) (fun _ _ _ => rfl))
  (soundSs_cons (soundS_if (sound_cmp (sound_var v_law_names nn_names.1 nn_names.2) (sound_var v_law_tree nn_tree.1 nn_tree.2) op_notin rfl) (soundSs_cons (soundS_append v_law_tree nn_tree.1 nn_tree.2 rfl (sound_slice (sound_var v_law_names nn_names.1 nn_names.2) .no .no) rfl)
  soundSs_nil) soundSs_nil)
  soundSs_nil))) (fun _ _ => rfl))
  soundSs_nil))) (fun _ _ => rfl))
  (soundSs_cons (soundS_assignO v_law_rules (nfree k_law_rules) (sound_list .nil) (fun _ _ _ => rfl))
  (soundSs_cons (soundS_for v_law_k (nfree k_law_k) (soundI_range k_law_range (N.b _ (.tail _ (.tail _ (.tail _ (.tail _ (.tail _ (.tail _ (.tail _ (.tail _ (.tail _ (.tail _ (.head _)))))))))))) (.cons (sound_const rfl) rfl .nil)) (soundSs_cons (soundS_assign v_law_left (nfree k_law_left) (sound_bin (sound_index (sound_var v_law_sums nn_sums.1 nn_sums.2) (sound_bin (sound_const rfl) (sound_var v_law_k nn_k.1 nn_k.2) op_add)) (sound_index (sound_tup (.cons (sound_const rfl) rfl (.cons (sound_const rfl) rfl (.cons (sound_const rfl) rfl (.cons (sound_const rfl) rfl (.cons (sound_const rfl) rfl .nil)))))) (sound_var v_law_k nn_k.1 nn_k.2)) op_add) (fun _ _ _ => rfl))
  (soundSs_cons (soundS_assign v_law_own (nfree k_law_own) (sound_call k_law_law_dressed (N.f _ 17 (.tail _ (.tail _ (.tail _ (.tail _ (.tail _ (.tail _ (.tail _ (.tail _ (.tail _ (.tail _ (.head _)))))))))))) rfl (.cons (sound_bin (sound_var v_law_left nn_left.1 nn_left.2) (sound_const rfl) op_div) rfl .nil)) (fun _ _ _ => rfl))
  (soundSs_cons (soundS_assign v_law_folder (nfree k_law_folder) (sound_call k_law_law_dressed (N.f _ 17 (.tail _ (.tail _ (.tail _ (.tail _ (.tail _ (.tail _ (.tail _ (.tail _ (.tail _ (.tail _ (.head _)))))))))))) rfl (.cons (sound_bin (sound_var v_law_left nn_left.1 nn_left.2) (sound_const rfl) op_div) rfl .nil)) (fun _ _ _ => rfl))
  (soundSs_cons (soundS_assign v_law_lists (nfree k_law_lists) (sound_list (.cons (sound_call k_law_translate (N.f _ 1 (.tail _ (.head _))) rfl (.cons (sound_index (sound_var v_law_own nn_own.1 nn_own.2) (sound_const rfl)) rfl (.cons (sound_var v_law_star nn_star.1 nn_star.2) rfl (.cons (sound_const rfl) rfl .nil)))) rfl (.cons (sound_call k_law_translate (N.f _ 1 (.tail _ (.head _))) rfl (.cons (sound_index (sound_var v_law_folder nn_folder.1 nn_folder.2) (sound_const rfl)) rfl (.cons (sound_var v_law_star nn_star.1 nn_star.2) rfl (.cons (sound_const rfl) rfl .nil)))) rfl .nil))) (fun _ _ _ => rfl))
  (soundSs_cons (soundS_append v_law_rules nn_rules.1 nn_rules.2 rfl (sound_tup (.cons (sound_cmp (sound_bin (sound_var v_law_left nn_left.1 nn_left.2) (sound_const rfl) op_mod) (sound_const rfl) op_eq rfl) rfl (.cons (sound_bin (sound_bin (sound_var v_law_left nn_left.1 nn_left.2) (sound_const rfl) op_div) (sound_const rfl) op_mod) rfl (.cons (sound_index (sound_var v_law_own nn_own.1 nn_own.2) (sound_const rfl)) rfl (.cons (sound_index (sound_var v_law_folder nn_folder.1 nn_folder.2) (sound_const rfl)) rfl (.cons (sound_var v_law_lists nn_lists.1 nn_lists.2) rfl .nil)))))) rfl)
  soundSs_nil))))) (fun _ _ => rfl))
  (soundSs_cons (soundS_fz ⟨_, v_law_tree⟩ (soundS_fz ⟨_, v_law_rules⟩ (soundS_assign v_law_met (nfree k_law_met) (sound_call k_law_law_met (N.f _ 25 (.tail _ (.tail _ (.tail _ (.tail _ (.tail _ (.tail _ (.tail _ (.tail _ (.tail _ (.tail _ (.tail _ (.tail _ (.tail _ (.head _))))))))))))))) rfl (.cons (sound_var v_law_rules nn_rules.1 nn_rules.2) rfl (.cons (sound_var v_law_tree nn_tree.1 nn_tree.2) rfl (.cons (sound_list .nil) rfl .nil)))) (fun _ _ _ => rfl))))
  (soundSs_cons (soundS_fz ⟨_, v_law_tree⟩ (soundS_for v_law_names (nfree k_law_names) (soundI_seq (sound_var v_law_tree nn_tree.1 nn_tree.2)) (soundSs_cons (soundS_fz ⟨_, v_law_names⟩ (soundS_fz ⟨_, v_law_rules⟩ (soundS_if (sound_cmp (sound_call k_law_law_out (N.f _ 24 (.tail _ (.tail _ (.tail _ (.tail _ (.tail _ (.tail _ (.tail _ (.tail _ (.tail _ (.tail _ (.tail _ (.tail _ (.head _)))))))))))))) rfl (.cons (sound_var v_law_rules nn_rules.1 nn_rules.2) rfl (.cons (sound_call k_law_join (N.f _ 4 (.tail _ (.tail _ (.tail _ (.tail _ (.head _)))))) rfl (.star (sound_var v_law_names nn_names.1 nn_names.2))) rfl (.cons (sound_var v_law_star nn_star.1 nn_star.2) rfl .nil)))) (sound_cmp (sound_var v_law_names nn_names.1 nn_names.2) (sound_var v_law_met nn_met.1 nn_met.2) op_notin rfl) op_ne rfl) (soundSs_cons (soundS_ret (sound_const rfl))
  soundSs_nil) soundSs_nil)))
  soundSs_nil) (fun _ _ => rfl)))
  (soundSs_cons (soundS_ret (sound_const rfl))
  soundSs_nil))))))))
end Mine
end W03x
section P0x
open PySem
namespace Mine
set_option genInjectivity false in
structure At (pat : List Nat) (p : Nat) (u : List Nat) : Prop where
  drop : pat.drop p = u
  le : p ≤ pat.length
  small : pat.length ≤ 100000
noncomputable def P (p k : Nat) : D := .int ((p + k : Nat) : Int)
noncomputable def N (pat : List Nat) : D := .int (pat.length : Int)
section
variable {pat u : List Nat} {p : Nat}
theorem At.len (H : At pat p u) : pat.length = p + u.length := by
  have := congrArg List.length H.drop
  rw [List.length_drop] at this
  have := H.le
  omega
theorem At.get (H : At pat p u) (k : Nat) : pat[p + k]? = u[k]? := by rw [← H.drop, List.getElem?_drop]
theorem small_in {z : Int} (h1 : 0 ≤ z) (h2 : z ≤ 200000) : small z = true := by
  unfold small
  simp only [Bool.and_eq_true, decide_eq_true_eq]
  omega
theorem At.sm (H : At pat p u) {k : Nat} (hk : k ≤ 100000) : Mine.small ((p + k : Nat) : Int) = true :=
  small_in (Int.natCast_nonneg _) (by have h := Nat.add_le_add (Nat.le_trans H.le H.small) hk; clear hk; omega)
theorem P_add (k j : Nat) : opF .add [P p k, .int (j : Int)] = some (.val (P p (k + j))) := by
  show some (R.val (.int (((p + k : Nat) : Int) + (j : Int)))) = some (R.val (.int ((p + (k + j) : Nat) : Int)))
  rw [show (((p + k : Nat) : Int) + (j : Int)) = ((p + (k + j) : Nat) : Int) by omega]
theorem idx (H : At pat p u) {k : Nat} (hk : k ≤ 100000) : opF .index [.str pat, P p k] = (u[k]?).map fun c => .val (.str [c]) := by
  have hl := H.len
  have hs := H.small
  show (if small ((p + k : Nat) : Int) then (match place ((p + k : Nat) : Int) pat.length with | some k => (pat[k]?).map fun c => R.val (.str [c]) | Option.none => Option.none) else Option.none) = _
  rw [H.sm hk]
  simp only [if_true]
  unfold place
  rw [if_pos (Int.natCast_nonneg _)]
  by_cases h : p + k < pat.length
  · rw [if_pos (by exact_mod_cast h)]
    simp only [Int.toNat_natCast]
    rw [H.get]
  · rw [if_neg (by exact_mod_cast h)]
    rw [← H.get, List.getElem?_eq_none (Nat.not_lt.mp h)]
    rfl
theorem some_lt {k : Nat} : (u[k]?).isSome = decide (k < u.length) := by
  by_cases h : k < u.length
  · rw [List.getElem?_eq_getElem h]; simp [h]
  · rw [List.getElem?_eq_none (Nat.not_lt.mp h)]; simp [h]
theorem lt_N (H : At pat p u) {k : Nat} : opF .lt [P p k, N pat] = some (.val (.bool (u[k]?).isSome)) := by
  have hl := H.len
  show some (R.val (.bool (decide (((p + k : Nat) : Int) < (pat.length : Int))))) = _
  rw [some_lt]
  congr 4
  simp only [eq_iff_iff]
  omega
theorem ge_N (H : At pat p u) {k : Nat} : opF .ge [P p k, N pat] = some (.val (.bool (!(u[k]?).isSome))) := by
  have hl := H.len
  show some (R.val (.bool (decide ((pat.length : Int) ≤ ((p + k : Nat) : Int))))) = _
  rw [some_lt, ← decide_not]
  congr 4
  simp only [eq_iff_iff]
  omega
theorem lt_0 {k : Nat} : opF .lt [P p k, .int 0] = some (.val (.bool false)) := by
  show some (R.val (.bool (decide (((p + k : Nat) : Int) < 0)))) = _
  rw [decide_eq_false (by omega)]
theorem sl (H : At pat p u) {a b : Nat} (ha : a ≤ 100000) (hb : b ≤ 100000) : opF .slice [.str pat, P p a, P p b] = some (.val (.str (cut u a b))) := by
  have hl := H.len
  have hs := H.small
  have cl : ∀ k d : Nat, k ≤ 100000 → bound (P p k) d pat.length = some (min (p + k) pat.length) := fun k d hk => by
    show (if small ((p + k : Nat) : Int) then some (clip ((p + k : Nat) : Int) pat.length) else Option.none) = _
    rw [H.sm hk]
    simp only [if_true]
    unfold clip
    rw [if_neg (Int.not_lt.mpr (Int.natCast_nonneg _))]
    by_cases h : p + k < pat.length
    · rw [if_pos (by exact_mod_cast h), Int.toNat_natCast, Nat.min_eq_left (Nat.le_of_lt h)]
    · rw [if_neg (by exact_mod_cast h), Nat.min_eq_right (Nat.not_lt.mp h)]
  show (match bound (P p a) 0 pat.length, bound (P p b) pat.length pat.length with
    | some lo, some hi => some (R.val (.str (cut pat lo hi)))
    | _, _ => Option.none) = _
  rw [cl a 0 ha, cl b _ hb]
  show some (R.val (.str (cut pat (min (p + a) pat.length) (min (p + b) pat.length)))) = _
  congr 3
  unfold cut
  rw [← H.drop, List.drop_drop]
  have e1 : pat.drop (min (p + a) pat.length) = pat.drop (p + a) := by
    by_cases h : p + a ≤ pat.length
    · rw [Nat.min_eq_left h]
    · rw [Nat.min_eq_right (Nat.le_of_not_le h), List.drop_eq_nil_of_le (Nat.le_refl _), List.drop_eq_nil_of_le (Nat.le_of_not_le h)]
  rw [e1]
  by_cases h : p + b ≤ pat.length
  · rw [Nat.min_eq_left h]
    by_cases h' : p + a ≤ pat.length
    · rw [Nat.min_eq_left h', Nat.add_sub_add_left]
    · rw [List.drop_eq_nil_of_le (i := p + a) (Nat.le_of_not_le h')]; simp
  · have h2 := Nat.le_of_not_le h
    rw [Nat.min_eq_right h2]
    rw [List.take_of_length_le (by rw [List.length_drop]; clear hs ha hb cl e1 hl h; omega), List.take_of_length_le (by rw [List.length_drop]; clear hs ha hb cl e1 hl h; omega)]
end
end Mine
end P0x
section P1x
open PySem PySem.StrLaws PySem.Builtin PySem.Builtin.Str
namespace Mine
theorem sub1 (a : List Nat) (c i hi : Nat) : (i + (⟨#[c]⟩ : PySem.Str).length ≤ hi ∧ subAt ⟨a.toArray⟩ ⟨#[c]⟩ i = true) ↔ (i < hi ∧ a[i]? = some c) := by
  rw [subAt_eq]
  show (i + 1 ≤ hi ∧ ((a.drop i).take 1 == [c]) = true) ↔ _
  rw [take1_drop]
  exact ⟨fun h => ⟨by omega, h.2⟩, fun h => ⟨by omega, h.2⟩⟩
theorem contains1 (b : List Nat) (c : Nat) : Txt.contains ⟨b.toArray⟩ ⟨[c].toArray⟩ = decide (c ∈ b) := found_one ⟨b.toArray⟩ c
theorem startswith1 (a : List Nat) (c : Nat) : Txt.startswith ⟨a.toArray⟩ ⟨[c].toArray⟩ = decide (a.head? = some c) := by
  unfold Txt.startswith
  have h := sub1 a c 0 a.length
  rw [Bool.eq_iff_iff, Bool.and_eq_true, decide_eq_true_eq, decide_eq_true_eq]
  rw [List.head?_eq_getElem?]
  refine h.trans ⟨fun x => x.2, fun x => ⟨?_, x⟩⟩
  rcases Nat.lt_or_ge 0 a.length with q | q
  · exact q
  · rw [List.getElem?_eq_none q] at x; cases x
theorem endswith1 (a : List Nat) (c : Nat) : Txt.endswith ⟨a.toArray⟩ ⟨[c].toArray⟩ = decide (a.getLast? = some c) := by
  unfold Txt.endswith
  rw [Bool.eq_iff_iff, Bool.and_eq_true, decide_eq_true_eq, decide_eq_true_eq]
  have h := sub1 a c (a.length - 1) a.length
  show (0 + 1 ≤ a.length ∧ subAt ⟨a.toArray⟩ ⟨#[c]⟩ (a.length - 1) = true) ↔ _
  rw [List.getLast?_eq_getElem?]
  rcases Nat.lt_or_ge 0 a.length with q | q
  · constructor
    · rintro ⟨x, y⟩
      exact (h.mp ⟨by show a.length - 1 + 1 ≤ a.length; omega, y⟩).2
    · intro x
      exact ⟨by omega, (h.mpr ⟨by omega, x⟩).2⟩
  · constructor
    · rintro ⟨x, y⟩; omega
    · intro x
      rw [List.getElem?_eq_none (by omega)] at x; cases x
theorem rfind_no {a : List Nat} {c : Nat} (h : c ∉ a) : Txt.rfind ⟨a.toArray⟩ ⟨[c].toArray⟩ = -1 := by
  unfold Txt.rfind
  rcases last_spec ⟨a.toArray⟩ ⟨[c].toArray⟩ with ⟨e, _⟩ | ⟨i, e, hA, _⟩
  · rw [e]
  · exact absurd (List.mem_of_getElem? ((sub1 a c i a.length).mp hA).2) h
theorem rfind_at {x y : List Nat} {c : Nat} (h : c ∉ y) : Txt.rfind ⟨(x ++ c :: y).toArray⟩ ⟨[c].toArray⟩ = (x.length : Int) := by
  unfold Txt.rfind
  have at' : ∀ i, StrLaws.At ⟨(x ++ c :: y).toArray⟩ ⟨[c].toArray⟩ (PySem.Str.mk (x ++ c :: y).toArray).length i ↔ (i < (x ++ c :: y).length ∧ (x ++ c :: y)[i]? = some c) := fun i => sub1 _ c i _
  rcases last_spec ⟨(x ++ c :: y).toArray⟩ ⟨[c].toArray⟩ with ⟨e, hn⟩ | ⟨i, e, hA, hn⟩
  · exact absurd ((at' x.length).mpr ⟨by simp, by simp⟩) (hn _)
  · rw [e]
    have h1 := ((at' i).mp hA).2
    have : i = x.length := by
      rcases Nat.lt_trichotomy i x.length with q | q | q
      · exact absurd ((at' x.length).mpr ⟨by simp, by simp⟩) (hn _ q)
      · exact q
      · exfalso
        rw [List.getElem?_append_right (by omega)] at h1
        obtain ⟨k, hk⟩ : ∃ k, i - x.length = k + 1 := ⟨i - x.length - 1, by omega⟩
        rw [hk, List.getElem?_cons_succ] at h1
        exact h (List.mem_of_getElem? h1)
    rw [this]
theorem rstrip1 (a : List Nat) (c : Nat) : (Txt.rstripChars ⟨a.toArray⟩ ⟨[c].toArray⟩).cps.toList = (a.reverse.dropWhile fun x => x == c).reverse := by
  unfold Txt.rstripChars Txt.stripBy
  have hg : ∀ x : Nat, ([c].toArray).contains x = (x == c) := fun x => by
    by_cases h : x = c
    · subst h; simp
    · rw [beq_eq_false_iff_ne.mpr h]; simpa using h
  have hlo : stripLo ([c].toArray).contains false ⟨a.toArray⟩ = 0 := rfl
  have key : (strSub ⟨a.toArray⟩ 0 (stripHi ([c].toArray).contains true ⟨a.toArray⟩ 0)).cps.toList = (a.reverse.dropWhile fun x => x == c).reverse := by
    rw [strSub_toList]
    unfold stripHi
    simp only [if_true, List.drop_zero, Nat.sub_zero]
    show a.take (a.length - (a.reverse.takeWhile ([c].toArray).contains).length) = _
    have e : ([c].toArray).contains = fun x => x == c := funext hg
    rw [e]
    have h1 := List.takeWhile_append_dropWhile (p := fun x => x == c) (l := a.reverse)
    have h2 : a = (a.reverse.dropWhile fun x => x == c).reverse ++ (a.reverse.takeWhile fun x => x == c).reverse := by
      rw [← List.reverse_append, h1, List.reverse_reverse]
    have h3 : a.length - (a.reverse.takeWhile fun x => x == c).length = (a.reverse.dropWhile fun x => x == c).reverse.length := by
      have := congrArg List.length h2
      rw [List.length_append, List.length_reverse, List.length_reverse] at this
      rw [List.length_reverse]
      omega
    rw [h3]
    have h4 : ∀ u v : List Nat, a = u ++ v → a.take u.length = u := fun u v e => by rw [e, List.take_left' rfl]
    exact h4 _ _ h2
  show (if stripSame ([c].toArray).contains false true ⟨a.toArray⟩ = true then (PySem.Str.mk a.toArray) else stripped ([c].toArray).contains false true ⟨a.toArray⟩).cps.toList = _
  split
  · rename_i hs
    rw [← key]
    unfold stripSame at hs
    rw [hlo] at hs
    simp only [Bool.and_eq_true, beq_iff_eq] at hs
    rw [hs.2, strSub_toList]
    show a = (a.drop 0).take (a.length - 0)
    simp
  · exact key
theorem occ_none1 {a : List Nat} {c lo hi lim : Nat} (hl : 1 ≤ lim) (h : ∀ i, lo ≤ i → i < hi → a[i]? ≠ some c) : occurrences ⟨a.toArray⟩ ⟨[c].toArray⟩ lo hi lim = [] := by
  rw [occ_eq]
  rcases occ_first ⟨a.toArray⟩ ⟨[c].toArray⟩ hi lim hl (List.range' lo (hi + 1 - lo)) lo (fun i hi => by have := List.mem_range'_1.mp hi; omega) with ⟨h0, _⟩ | ⟨pre, b, post, e, h0, hb, hn⟩
  · rw [h0]
  · exfalso
    have h1 := (sub1 a c b hi).mp hb
    have hs : b ∈ List.range' lo (hi + 1 - lo) := by rw [e]; simp
    have := List.mem_range'_1.mp hs
    exact h b this.1 h1.1 h1.2
theorem occ_some1 {a : List Nat} {c lo hi lim i : Nat} (hl : 1 ≤ lim) (h1 : lo ≤ i) (h2 : i < hi) (h3 : a[i]? = some c) (h : ∀ k, lo ≤ k → k < i → a[k]? ≠ some c) : ∃ r, occurrences ⟨a.toArray⟩ ⟨[c].toArray⟩ lo hi lim = i :: r := by
  rw [occ_eq]
  rcases occ_first ⟨a.toArray⟩ ⟨[c].toArray⟩ hi lim hl (List.range' lo (hi + 1 - lo)) lo (fun i hi => by have := List.mem_range'_1.mp hi; omega) with ⟨h0, hn⟩ | ⟨pre, b, post, e, h0, hb, hn⟩
  · exact absurd ((sub1 a c i hi).mpr ⟨h2, h3⟩) (hn i (by rw [List.mem_range'_1]; omega))
  · have hs := range'_split_from e
    have hb' := (sub1 a c b hi).mp hb
    have : b = i := by
      rcases Nat.lt_trichotomy b i with q | q | q
      · exact absurd hb'.2 (h b hs.1 q)
      · exact q
      · exact absurd ((sub1 a c i hi).mpr ⟨h2, h3⟩) (hn i (hs.2 i h1 q))
    subst this
    generalize (forIn (List.range' lo (hi + 1 - lo)) ((#[] : Array Nat), lo) (occBody ⟨a.toArray⟩ ⟨[c].toArray⟩ hi lim)).run.fst = arr at h0
    have h1 : arr.toList[0]? = some b := by simpa using h0
    cases hL : arr.toList with
    | nil => rw [hL] at h1; cases h1
    | cons x t => rw [hL] at h1; simp at h1; rw [h1]; exact ⟨t, rfl⟩
theorem noOcc1 (a : List Nat) (c : Nat) : (occurrences ⟨a.toArray⟩ ⟨[c].toArray⟩ 0 a.length (a.length + 1)).isEmpty = !decide (c ∈ a) := by
  by_cases h : c ∈ a
  · obtain ⟨j, hj⟩ := List.getElem?_of_mem h
    rw [decide_eq_true h]
    have hex : ∃ i : Nat, a[i]? = some c ∧ ∀ k : Nat, k < i → a[k]? ≠ some c := by
      clear h
      induction j using Nat.strongRecOn with
      | _ j ih =>
        by_cases q : ∃ k, k < j ∧ a[k]? = some c
        · obtain ⟨k, q1, q2⟩ := q
          exact ih k q1 q2
        · exact ⟨j, hj, fun k hk e => q ⟨k, hk, e⟩⟩
    obtain ⟨i, h1, h2⟩ := hex
    obtain ⟨r, e⟩ := occ_some1 (a := a) (c := c) (lo := 0) (hi := a.length) (lim := a.length + 1) (by omega) (Nat.zero_le i) (List.getElem?_eq_some_iff.mp h1).1 h1 fun k _ => h2 k
    rw [e]; rfl
  · rw [decide_eq_false h, occ_none1 (by omega) (fun i _ _ e => h (List.mem_of_getElem? e) : ∀ i, 0 ≤ i → i < a.length → a[i]? ≠ some c)]
    rfl
end Mine
end P1x
section P2x
open PySem PySem.StrLaws PySem.Builtin PySem.Builtin.Str
namespace Mine
noncomputable def firstAt (c : Nat) : List Nat → Option Nat
  | [] => none
  | x :: r => if x = c then some 0 else (firstAt c r).map (· + 1)
theorem firstAt_none {c : Nat} : ∀ {l : List Nat}, firstAt c l = none → ∀ k : Nat, l[k]? ≠ some c
  | [], _, k, e => by simp at e
  | x :: r, h, k, e => by
    unfold firstAt at h
    split at h
    · cases h
    · rename_i hx
      have h' : firstAt c r = none := by cases q : firstAt c r <;> rw [q] at h <;> simp at h ⊢
      cases k with
      | zero => simp at e; exact hx e
      | succ k => exact firstAt_none h' k (by simpa using e)
theorem firstAt_some {c : Nat} : ∀ {l : List Nat} {m : Nat}, firstAt c l = some m → l[m]? = some c ∧ ∀ k : Nat, k < m → l[k]? ≠ some c
  | [], _, h => by cases h
  | x :: r, m, h => by
    unfold firstAt at h
    split at h
    · rename_i hx
      cases h
      exact ⟨by simp [hx], fun k hk => by omega⟩
    · rename_i hx
      obtain ⟨m', h', rfl⟩ := Option.map_eq_some_iff.mp h
      obtain ⟨a, b⟩ := firstAt_some h'
      refine ⟨by simpa using a, fun k hk e => ?_⟩
      cases k with
      | zero => simp at e; exact hx e
      | succ k => exact b k (by omega) (by simpa using e)
section
variable {pat u : List Nat} {p : Nat}
theorem cut_get {α : Type} (l : List α) (a b k : Nat) : (cut l a b)[k]? = if k < b - a then l[a + k]? else none := by
  unfold cut
  rw [List.getElem?_take]
  split <;> simp [List.getElem?_drop]
theorem find1 (H : At pat p u) {c a b : Nat} (ha : a ≤ 100000) (hb : b ≤ 100000) (hab : b ≤ u.length) : opF .find4 [.str pat, .str [c], P p a, P p b] = some (.val (match firstAt c (cut u a b) with | some m => P p (a + m) | none => .int (-1))) := by
  have hl := H.len
  have hs := H.small
  show (if small ((p + a : Nat) : Int) = true ∧ small ((p + b : Nat) : Int) = true then some (R.val (.int (match occurrences ⟨pat.toArray⟩ ⟨[c].toArray⟩ (fromIndex pat.length ((p + a : Nat) : Int)) (min (fromIndex pat.length ((p + b : Nat) : Int)) pat.length) 1 with | k :: _ => (k : Int) | [] => -1))) else Option.none) = _
  rw [if_pos ⟨H.sm ha, H.sm hb⟩]
  have f : ∀ k : Nat, fromIndex pat.length (k : Int) = k := fun k => by
    unfold fromIndex
    rw [if_neg (Int.not_lt.mpr (Int.natCast_nonneg k))]
    rfl
  have hpb : p + b ≤ pat.length := hl ▸ Nat.add_le_add_left hab p
  rw [f, f, Nat.min_eq_left hpb]
  cases h : firstAt c (cut u a b) with
  | none =>
    have hn := firstAt_none h
    rw [occ_none1 (Nat.le_refl 1)]
    intro i h1 h2 h3
    have := hn (i - p - a)
    clear hl hs ha hb hab hpb hn
    rw [cut_get, if_pos (by omega)] at this
    have e : a + (i - p - a) = i - p := by clear this; omega
    rw [e, ← H.get, show p + (i - p) = i by clear this h2 e; omega] at this
    exact this h3
  | some m =>
    obtain ⟨h1, h2⟩ := firstAt_some h
    rw [cut_get] at h1
    split at h1
    · rename_i hm
      obtain ⟨r, e⟩ := occ_some1 (a := pat) (c := c) (lo := p + a) (hi := p + b) (lim := 1) (i := p + (a + m)) (Nat.le_refl 1) (Nat.add_le_add_left (Nat.le_add_right a m) p) (by clear ha hb hab hl hs hpb h1 h2; omega) (by rw [H.get]; exact h1) (fun k hk1 hk2 e => by
        have := h2 (k - p - a) (by clear ha hb hab hl hs hpb h1 h2 hm; omega)
        rw [cut_get, if_pos (by clear ha hb hab hl hs hpb h1 h2 this; omega)] at this
        have e' : a + (k - p - a) = k - p := by clear ha hb hab hl hs hpb h1 h2 this hm hk2; omega
        rw [e', ← H.get, show p + (k - p) = k by clear ha hb hab hl hs hpb h1 h2 this hm hk2 e'; omega] at this
        exact this e)
      rw [e]
      rfl
    · cases h1
end
end Mine
end P2x
section P3x
open PySem PySem.StrLaws PySem.Builtin PySem.Builtin.Str
namespace Mine
noncomputable abbrev Res := Option (List Slot × Out)
section
variable {cf : Nat → List D → Option D} {ρ ρ₁ ρ' : List Slot} {o : Out} {res : Res} {a b : S} {x c : X} {d : D} {i j k : Nat}
theorem R_skip : ex cf .skip ρ = some (ρ, .next) := exq_skip _
theorem R_brk : ex cf .brk ρ = some (ρ, .brk) := exq_brk _
theorem R_cont : ex cf .cont ρ = some (ρ, .cont) := exq_cont _
noncomputable def after (cf : Nat → List D → Option D) (b : S) (ρ : List Slot) : Out → Res
  | .next => ex cf b ρ
  | o => some (ρ, o)
theorem R_seq (h : ex cf a ρ = some (ρ₁, o)) (h2 : after cf b ρ₁ o = res) : ex cf (.seq a b) ρ = res := by
  rw [ex_seq, h]
  cases o <;> exact h2
theorem R_next (h : ex cf b ρ = res) : after cf b ρ .next = res := h
theorem R_out_brk : after cf b ρ .brk = some (ρ, .brk) := rfl
theorem R_out_cont : after cf b ρ .cont = some (ρ, .cont) := rfl
theorem R_out_ret : after cf b ρ (.ret d) = some (ρ, .ret d) := rfl
theorem R_assign (h : ev1 cf x ρ = some d) (h2 : ρ.set i (.val d) = ρ') : ex cf (.assign i x) ρ = some (ρ', .next) := by
  rw [exq_assign]; rw [h, ← h2]; rfl
theorem R_assignO (h0 : noApp i ρ = true) {l : List D} (h : ev cf x ρ = some [.own l]) (h2 : ρ.set i (.own l) = ρ') : ex cf (.assignO i x) ρ = some (ρ', .next) := by
  rw [exq_assignO]; rw [if_pos h0, h, ← h2]
theorem R_assign2 {d1 d2 : D} (h : ev1 cf x ρ = some (.tup [d1, d2])) (h2 : (ρ.set i (.val d1)).set j (.val d2) = ρ') : ex cf (.assign2 i j x) ρ = some (ρ', .next) := by
  rw [exq_assign2]; rw [h, ← h2]
theorem R_alias {l : List D} (h : ownAt ρ j = some l) (h2 : ρ.set i (.app j) = ρ') : ex cf (.alias i j) ρ = some (ρ', .next) := by
  rw [exq_alias]; rw [h, ← h2]
theorem R_append {l : List D} (h : ev1 cf x ρ = some d) (h1 : ownAt ρ i = some l) (hl : l.length < lim) (h2 : ρ.set i (.own (l ++ [d])) = ρ') : ex cf (.append i x) ρ = some (ρ', .next) := by
  rw [exq_append]; rw [h, h1]; simp only [if_pos hl, h2]
theorem R_appendVia {l : List D} (h0 : ρ[i]? = some (.app j)) (h : ev1 cf x ρ = some d) (h1 : ownAt ρ j = some l) (hl : l.length < lim) (h2 : ρ.set j (.own (l ++ [d])) = ρ') : ex cf (.appendVia i j x) ρ = some (ρ', .next) := by
  rw [exq_appendVia]; rw [h0, h, h1]; simp only [if_true, if_pos hl, h2]
theorem R_aug {s t : List Nat} (h0 : ρ[i]? = some (.val (.str s))) (h : ev1 cf x ρ = some (.str t)) (hl : s.length + t.length ≤ lim) (h2 : ρ.set i (.val (.str (s ++ t))) = ρ') : ex cf (.aug i x) ρ = some (ρ', .next) := by
  rw [exq_aug]; rw [h0, h]; simp only [if_pos hl, h2]
theorem R_extend {l m : List D} (h : ev1 cf x ρ = some (.list m)) (h1 : ownAt ρ i = some l) (hl : l.length + m.length ≤ lim) (h2 : ρ.set i (.own (l ++ m)) = ρ') : ex cf (.extend i x) ρ = some (ρ', .next) := by
  rw [exq_extend]; rw [h, h1]; simp only [if_pos hl, h2]
theorem R_setItem {l : List D} {n : Int} {p : Nat} (h : ev1 cf x ρ = some d) (hk : ev1 cf c ρ = some (.int n)) (h1 : ownAt ρ i = some l) (hs : small n = true) (hp : place n l.length = some p) (h2 : ρ.set i (.own (l.set p d)) = ρ') : ex cf (.setItem i c x) ρ = some (ρ', .next) := by
  rw [exq_setItem]; rw [h, hk, h1]; simp only [if_pos hs, hp, h2]
theorem R_augItem {l : List D} {n : Int} {p : Nat} {y z : List Nat} (hk : ev1 cf c ρ = some (.int n)) (h : ev1 cf x ρ = some (.str y)) (h1 : ownAt ρ i = some l) (hs : small n = true) (hp : place n l.length = some p) (hz : l[p]? = some (.str z)) (hl : z.length + y.length ≤ lim) (h2 : ρ.set i (.own (l.set p (.str (z ++ y)))) = ρ') : ex cf (.augItem i c x) ρ = some (ρ', .next) := by
  rw [exq_augItem]; rw [h, hk, h1]; simp only [if_pos hs, hp, hz, if_pos hl, h2]
theorem R_delItem {l : List D} {n : Int} (hk : ev1 cf c ρ = some (.int n)) (h1 : ownAt ρ i = some l) (hn : 0 ≤ n ∧ n < l.length) (h2 : ρ.set i (.own (l.eraseIdx n.toNat)) = ρ') : ex cf (.delItem i c) ρ = some (ρ', .next) := by
  rw [exq_delItem]; rw [hk, h1]; simp only [if_pos hn, h2]
theorem R_fz {l : List D} (h : ownAt ρ i = some l) (h2 : ρ.set i (.val (.list l)) = ρ') : ex cf (.fz i) ρ = some (ρ', .next) := by rw [ex_fz, h, ← h2]
theorem R_fz_no (h : ownAt ρ i = none) : ex cf (.fz i) ρ = some (ρ, .next) := by rw [ex_fz, h]
noncomputable def branch (cf : Nat → List D → Option D) (a b : S) (ρ : List Slot) : Bool → Res
  | true => ex cf a ρ
  | false => ex cf b ρ
theorem R_ite {t : Bool} (h : evT cf c ρ = some t) (h2 : branch cf a b ρ t = res) : ex cf (.ite c a b) ρ = res := by
  rw [exq_ite]; rw [h]; cases t <;> exact h2
theorem R_tt (h : ex cf a ρ = res) : branch cf a b ρ true = res := h
theorem R_ff (h : ex cf b ρ = res) : branch cf a b ρ false = res := h
theorem R_ret (h : ev1 cf x ρ = some d) : ex cf (.ret x) ρ = some (ρ, .ret d) := by rw [exq_ret]; rw [h]; rfl
theorem R_try (h : ex cf b ρ = res) : ex cf (.try_ b) ρ = res := by rw [exq_try_]; exact h
noncomputable def wOut (cf : Nat → List D → Option D) (c : X) (b : S) (n : Nat) (ρ : List Slot) : Out → Res
  | .next => whileGo (evT cf c) (ex cf b) n ρ
  | .cont => whileGo (evT cf c) (ex cf b) n ρ
  | .brk => some (ρ, .next)
  | .ret d => some (ρ, .ret d)
noncomputable def wTurn (cf : Nat → List D → Option D) (c : X) (b : S) (n : Nat) (ρ : List Slot) : Bool → Res
  | false => some (ρ, .next)
  | true => match ex cf b ρ with
    | some (ρ', o) => wOut cf c b n ρ' o
    | none => none
theorem R_whileGo {n : Nat} {t : Bool} (h : evT cf c ρ = some t) (h2 : wTurn cf c b n ρ t = res) : whileGo (evT cf c) (ex cf b) (n + 1) ρ = res := by
  unfold whileGo
  rw [h]
  cases t with
  | false => exact h2
  | true =>
    unfold wTurn at h2
    rw [← h2]
    simp only
    cases ex cf b ρ with
    | none => rfl
    | some y =>
      obtain ⟨ρ', o⟩ := y
      cases o <;> rfl
theorem R_while (h : whileGo (evT cf c) (ex cf b) (99999 + 1) ρ = res) : ex cf (.while c b) ρ = res := by rw [exq_while]; exact h
theorem R_wDone {n : Nat} : wTurn cf c b n ρ false = some (ρ, .next) := rfl
theorem R_wGo {n : Nat} (h : ex cf b ρ = some (ρ₁, o)) (h2 : wOut cf c b n ρ₁ o = res) : wTurn cf c b n ρ true = res := by
  unfold wTurn; rw [h]; exact h2
theorem R_wNext {n : Nat} (h : whileGo (evT cf c) (ex cf b) n ρ = res) : wOut cf c b n ρ .next = res := h
theorem R_wCont {n : Nat} (h : whileGo (evT cf c) (ex cf b) n ρ = res) : wOut cf c b n ρ .cont = res := h
theorem R_wBrk {n : Nat} : wOut cf c b n ρ .brk = some (ρ, .next) := rfl
theorem R_wRet {n : Nat} : wOut cf c b n ρ (.ret d) = some (ρ, .ret d) := rfl
noncomputable def fOut (cf : Nat → List D → Option D) (st : D → List Slot → Option (List Slot)) (b : S) (r : List D) (ρ : List Slot) : Out → Res
  | .next => forGo st (ex cf b) r ρ
  | .cont => forGo st (ex cf b) r ρ
  | .brk => some (ρ, .next)
  | .ret d => some (ρ, .ret d)
theorem R_forNil {st : D → List Slot → Option (List Slot)} : forGo st (ex cf b) [] ρ = some (ρ, .next) := rfl
theorem R_forCons {st : D → List Slot → Option (List Slot)} {r : List D} {ρ₂ : List Slot} (h1 : st d ρ = some ρ₁) (h : ex cf b ρ₁ = some (ρ₂, o)) (h2 : fOut cf st b r ρ₂ o = res) : forGo st (ex cf b) (d :: r) ρ = res := by
  unfold forGo
  rw [h1]
  simp only [h]
  cases o <;> exact h2
theorem R_fNext {st : D → List Slot → Option (List Slot)} {r : List D} (h : forGo st (ex cf b) r ρ = res) : fOut cf st b r ρ .next = res := h
theorem R_fCont {st : D → List Slot → Option (List Slot)} {r : List D} (h : forGo st (ex cf b) r ρ = res) : fOut cf st b r ρ .cont = res := h
theorem R_fBrk {st : D → List Slot → Option (List Slot)} {r : List D} : fOut cf st b r ρ .brk = some (ρ, .next) := rfl
theorem R_fRet {st : D → List Slot → Option (List Slot)} {r : List D} : fOut cf st b r ρ (.ret d) = some (ρ, .ret d) := rfl
theorem R_for {l : List D} (h : evI cf x ρ = some l) (h2 : forGo (put1 i) (ex cf b) l ρ = res) : ex cf (.forE i x b) ρ = res := by rw [exq_forE]; rw [h]; exact h2
theorem R_forN {is : List Nat} {l : List D} (h : evI cf x ρ = some l) (h2 : forGo (putN is) (ex cf b) l ρ = res) : ex cf (.forN is x b) ρ = res := by rw [exq_forN]; rw [h]; exact h2
end
noncomputable def one (o : Option (List R)) : Option D := match o with
  | some [r] => r.fz
  | _ => none
noncomputable def theItems (o : Option (List R)) : Option (List D) := match o with
  | some [.val (.list l)] => some l
  | _ => none
section
variable {cf : Nat → List D → Option D} {ρ : List Slot} {x : X} {r : R}
theorem ev1_eq : ev1 cf x ρ = one (ev cf x ρ) := by
  unfold ev1
  generalize ev cf x ρ = o
  match o with
  | none => rfl
  | some [] => rfl
  | some [_] => rfl
  | some (_ :: _ :: _) => rfl
theorem evT_eq : evT cf x ρ = truthR (ev cf x ρ) := by
  unfold evT
  generalize ev cf x ρ = o
  match o with
  | none => rfl
  | some _ => rfl
theorem evI_eq : evI cf x ρ = theItems (ev cf x ρ) := by
  unfold evI
  generalize ev cf x ρ = o
  match o with
  | none => rfl
  | some [] => rfl
  | some [.val (.list _)] => rfl
  | some [.val .none] => rfl
  | some [.val (.bool _)] => rfl
  | some [.val (.int _)] => rfl
  | some [.val (.str _)] => rfl
  | some [.val (.tup _)] => rfl
  | some [.val (.tok _)] => rfl
  | some [.val (.ty _)] => rfl
  | some [.own _] => rfl
  | some [.bor _] => rfl
  | some (_ :: _ :: _) => rfl
theorem one_some : one (some [r]) = r.fz := rfl
theorem theItems_some {l : List D} : theItems (some [.val (.list l)]) = some l := rfl
theorem truthR_some : truthR (some [r]) = r.ds.truth := rfl
end
noncomputable def appOK (i : Nat) (s : Slot) : Bool := match s with | .app j => j != i | _ => true
theorem noApp_eq (i : Nat) (ρ : List Slot) : noApp i ρ = ρ.all (appOK i) := rfl
theorem appOK_val {i : Nat} {d : D} : appOK i (.val d) = true := rfl
theorem appOK_own {i : Nat} {d : List D} : appOK i (.own d) = true := rfl
theorem appOK_unset {i : Nat} : appOK i .unset = true := rfl
theorem appOK_app {i j : Nat} : appOK i (.app j) = (j != i) := rfl
theorem eq_str (a b : List Nat) : opF .eq [.str a, .str b] = some (.val (.bool (decide (a = b)))) := rfl
theorem ne_str (a b : List Nat) : opF .ne [.str a, .str b] = some (.val (.bool (!decide (a = b)))) := rfl
end Mine
end P3x
section P4x
open PySem PySem.StrLaws PySem.Builtin PySem.Builtin.Str
namespace Mine
theorem turnD_tt {r : R} : turnD (some [.val (.bool true)]) (some [r]) = r.fz.map some := rfl
theorem o_len {l : List D} : opF .len [.list l] = some (.val (.int (l.length : Int))) := rfl
theorem o_sub {a b : Int} : opF .sub [.int a, .int b] = some (.val (.int (a - b))) := rfl
theorem o_neg {a : Int} : opF .neg [.int a] = some (.val (.int (-a))) := rfl
theorem P_add1 {p k : Nat} : opF .add [P p k, .int 1] = some (.val (P p (k + 1))) := P_add k 1
theorem P_add2 {p k : Nat} : opF .add [P p k, .int 2] = some (.val (P p (k + 2))) := P_add k 2
theorem P_add3 {p k : Nat} : opF .add [P p k, .int 3] = some (.val (P p (k + 3))) := P_add k 3
theorem notin_str (c : Nat) (b : List Nat) : opF .notin [.str [c], .str b] = some (.val (.bool (!decide (c ∈ b)))) := by
  show some (R.val (.bool (!Txt.contains ⟨b.toArray⟩ ⟨[c].toArray⟩))) = _
  rw [contains1]
theorem in_str1 (c : Nat) (b : List Nat) : opF .in_ [.str [c], .str b] = some (.val (.bool (decide (c ∈ b)))) := by
  show some (R.val (.bool (Txt.contains ⟨b.toArray⟩ ⟨[c].toArray⟩))) = _
  rw [contains1]
theorem replace1 {a : List Nat} {c : Nat} {d : List Nat} (h : decide (c ∈ a) = false) : opF .replace [.str a, .str [c], .str d] = some (.val (.str a)) := by
  show (if (occurrences ⟨a.toArray⟩ ⟨[c].toArray⟩ 0 a.length (a.length + 1)).isEmpty = true then some (R.val (.str a)) else Option.none) = _
  rw [noOcc1, h]; rfl
section
variable {pat u : List Nat} {p : Nat}
theorem find1' (H : At pat p u) {c a b : Nat} (ha : a ≤ 100000) (hb : b ≤ 100000) (hab : (u[b]?).isSome = true) : opF .find4 [.str pat, .str [c], P p a, P p b] = some (.val (match firstAt c (cut u a b) with | some m => P p (a + m) | none => .int (-1))) :=
  find1 H ha hb (by rw [some_lt, decide_eq_true_eq] at hab; omega)
end
set_option genInjectivity false in
structure Fx (pat : List Nat) (I : Nat → D) (n : D) (u : List Nat) : Prop where
  i : ∀ k, k ≤ 100000 → opF .index [.str pat, I k] = (u[k]?).map fun c => .val (.str [c])
  l : ∀ k, opF .lt [I k, n] = some (.val (.bool (u[k]?).isSome))
  g : ∀ k, opF .ge [I k, n] = some (.val (.bool (!(u[k]?).isSome)))
  s : ∀ a b, a ≤ 100000 → b ≤ 100000 → opF .slice [.str pat, I a, I b] = some (.val (.str (cut u a b)))
  f : ∀ c a b, a ≤ 100000 → b ≤ 100000 → (u[b]?).isSome = true → opF .find4 [.str pat, .str [c], I a, I b] = some (.val (match firstAt c (cut u a b) with | some m => I (a + m) | none => .int (-1)))
  a1 : ∀ k, opF .add [I k, .int 1] = some (.val (I (k + 1)))
  a2 : ∀ k, opF .add [I k, .int 2] = some (.val (I (k + 2)))
  a3 : ∀ k, opF .add [I k, .int 3] = some (.val (I (k + 3)))
  z : ∀ k, opF .lt [I k, .int 0] = some (.val (.bool false))
theorem At.fx {pat u : List Nat} {p : Nat} (H : At pat p u) : Fx pat (P p) (N pat) u := ⟨fun _ h => idx H h, fun _ => lt_N H, fun _ => ge_N H, fun _ _ h1 h2 => sl H h1 h2, fun _ _ _ h1 h2 h3 => find1' H h1 h2 h3, fun _ => P_add1, fun _ => P_add2, fun _ => P_add3, fun _ => lt_0⟩
section
variable {pat v : List Nat} {I : Nat → D} {n : D} {ρ : List Slot} {cf : Nat → List D → Option D} {q : D} {r : List D} {j7 j8 j9 j10 j11 j12 j13 : Slot}
end
end Mine
end P4x
section P5x
open PySem PySem.StrLaws PySem.Builtin PySem.Builtin.Str
namespace Mine
theorem C_call {fns : Nat → Option Fn} {n f : Nat} {args : List D} {fn : Fn} {ρ : List Slot} {d : D} (h1 : fns f = some fn) (h2 : bindD fn args = some ρ) (h3 : ∃ ρ', ex (callF fns n) fn.body ρ = some (ρ', .ret d)) : callF fns (n + 1) f args = some d := by
  obtain ⟨ρ', h3⟩ := h3
  unfold callF
  rw [h1]
  simp only [h2, h3]
theorem At.skip {pat u : List Nat} {p k : Nat} (H : At pat p u) (h : k ≤ u.length) : At pat (p + k) (u.drop k) := by
  refine ⟨?_, ?_, H.small⟩
  · rw [← List.drop_drop, H.drop]
  · have := H.len; omega
end Mine
end P5x
section P6x
open PySem PySem.StrLaws PySem.Builtin PySem.Builtin.Str
namespace Mine
theorem o_startswith {a : List Nat} {c : Nat} : opF .startswith [.str a, .str [c]] = some (.val (.bool (decide (a.head? = some c)))) := by
  show some (R.val (.bool (Txt.startswith ⟨a.toArray⟩ ⟨[c].toArray⟩))) = _
  rw [startswith1]
theorem o_endswith {a : List Nat} {c : Nat} : opF .endswith [.str a, .str [c]] = some (.val (.bool (decide (a.getLast? = some c)))) := by
  show some (R.val (.bool (Txt.endswith ⟨a.toArray⟩ ⟨[c].toArray⟩))) = _
  rw [endswith1]
theorem o_addstr {a b : List Nat} (h : a.length + b.length ≤ lim) : opF .add [.str a, .str b] = some (.val (.str (a ++ b))) := by
  show (if a.length + b.length ≤ lim then some (R.val (.str (a ++ b))) else none) = _
  rw [if_pos h]
theorem le_lim {n : Nat} (h : n ≤ 1000) : (n ≤ lim) = True := eq_true (Nat.le_trans h (by decide))
theorem lt_lim {n : Nat} (h : n ≤ 1000) : (n < lim) = True := eq_true (Nat.lt_of_le_of_lt h (by decide))
theorem o_lens {l : List Nat} : opF .len [.str l] = some (.val (.int (l.length : Int))) := rfl
theorem o_addi {a b : Int} : opF .add [.int a, .int b] = some (.val (.int (a + b))) := rfl
section
variable {fns : Nat → Option Fn}
theorem fspath_ok (h2 : fns 2 = some fn_fspath) (m : Nat) (l : List Nat) : callF fns (m + 1) 2 [.str l] = some (.str l) := by
  refine C_call h2 (ρ := [.val (.str l), .unset, .unset, .unset]) rfl ?_
  show ∃ ρ', ex (callF fns m) s_fspath _ = _
  unfold s_fspath
  exact ⟨_, R_seq (R_assign (d := .ty "str") rfl rfl) (R_next (R_seq (R_ite (t := true) rfl (R_tt (R_seq (R_ret (d := .str l) rfl) R_out_ret))) R_out_ret))⟩
theorem get_sep_ok (h3 : fns 3 = some fn_get_sep) (m : Nat) (l : List Nat) : callF fns (m + 1) 3 [.str l] = some (.str [47]) := by
  refine C_call h3 (ρ := [.val (.str l)]) rfl ?_
  show ∃ ρ', ex (callF fns m) s_get_sep _ = _
  unfold s_get_sep
  exact ⟨_, R_seq (R_ite (t := false) rfl (R_ff (R_seq (R_ret (d := .str [47]) rfl) R_out_ret))) R_out_ret⟩
end
noncomputable def join1 (p b : List Nat) : List Nat :=
  if b.head? = some 47 ∨ p = [] then b else if p.getLast? = some 47 then p ++ b else p ++ 47 :: b
noncomputable def joinP (p : List Nat) (bs : List (List Nat)) : List Nat := bs.foldl join1 p
noncomputable def jBody : S := match s_join with
  | .seq _ (.seq _ (.seq _ (.seq (.try_ (.seq (.forE _ _ b) _)) _))) => b
  | _ => .skip
section
variable {cf : Nat → List D → Option D}
theorem join_turn (hf : ∀ l, cf 2 [.str l] = some (.str l)) {p b : List Nat} {a' ps : D} (hl : p.length + b.length + 1 ≤ lim) :
    ex cf jBody [.val a', .val ps, .val (.str [47]), .val (.str p), .val (.str b)] = some ([.val a', .val ps, .val (.str [47]), .val (.str (join1 p b)), .val (.str b)], .next) := by
  have hb := hf b
  have l1 : p.length + b.length ≤ lim := by omega
  have l2 : p.length + ([47] ++ b).length ≤ lim := by simp; omega
  have l3 := o_addstr (a := [47]) (b := b) (by simp; omega)
  unfold jBody s_join join1
  by_cases h1 : b.head? = some 47
  · simp only [h1, true_or, if_true]
    (repeat' (first | with_reducible (first | exact R_skip | exact R_brk | exact R_cont | apply R_seq | exact R_out_brk | exact R_out_cont | exact R_out_ret | refine R_next ?_ | apply R_ite | refine R_tt ?_ | refine R_ff ?_ | apply R_while | apply R_whileGo | exact R_wDone | apply R_wGo | refine R_wNext ?_ | refine R_wCont ?_ | exact R_wBrk | exact R_wRet | apply R_for | exact R_forNil | apply R_forCons | refine R_fNext ?_ | refine R_fCont ?_ | exact R_fBrk | exact R_fRet | apply R_assign | apply R_assign2 | apply R_appendVia | apply R_append | apply R_alias | apply R_ret | apply R_assignO | apply R_setItem | apply R_delItem | apply R_augItem | apply R_fz | apply R_aug) | (((try simp (config := {failIfUnchanged := false}) only [ev1_eq, evT_eq, evI_eq, one_some, theItems_some, truthR_some, evq_const, evq_var, evq_op, evq_nil, evq_cons, evq_star, evq_and, evq_or, evq_not, evq_ite, evq_call, evq_tup, evq_list, evq_comp, evq_comp2, evq_comp3, evq_mapF, evq_seqI, evq_rangeI, evq_enumI, evq_setI, fzAll, ownAt, Mine.R.ds, Mine.R.fz, Mine.D.truth, List.map_cons, List.map_nil, List.getElem?_cons_zero, List.getElem?_cons_succ, List.getElem?_nil, Option.map_some, Option.map_none, List.set_cons_zero, List.set_cons_succ, List.getElem?_set, List.length_set, Nat.reduceLT, eq_str, ne_str, notin_str, in_str1, replace1, List.cons.injEq, and_true, and_false, true_and, false_and, Nat.reduceEqDiff, decide_true, decide_false, reduceCtorEq, Bool.not_true, Bool.not_false, Nat.reduceAdd, List.isEmpty_cons, List.isEmpty_nil, Nat.reduceLeDiff, Nat.zero_le, Option.isSome_some, Option.isSome_none, noApp_eq, List.all_cons, List.all_nil, appOK_val, appOK_own, appOK_unset, appOK_app, Bool.and_true, Bool.true_and, reduceIte, List.mem_cons, List.not_mem_nil, or_false, false_or, or_true, true_or, itemsOf, Option.bind_some, compGo, turnD_tt, o_len, o_lens, o_sub, o_neg, o_addi, o_startswith, o_endswith, le_lim, lt_lim, List.length_cons, List.length_nil, Nat.zero_add, *]) <;> rfl)) | (show (_ : Nat) < lim; decide) | decide))
  · by_cases h2 : p = []
    · subst h2
      simp only [h1, or_true, if_true]
      (repeat' (first | with_reducible (first | exact R_skip | exact R_brk | exact R_cont | apply R_seq | exact R_out_brk | exact R_out_cont | exact R_out_ret | refine R_next ?_ | apply R_ite | refine R_tt ?_ | refine R_ff ?_ | apply R_while | apply R_whileGo | exact R_wDone | apply R_wGo | refine R_wNext ?_ | refine R_wCont ?_ | exact R_wBrk | exact R_wRet | apply R_for | exact R_forNil | apply R_forCons | refine R_fNext ?_ | refine R_fCont ?_ | exact R_fBrk | exact R_fRet | apply R_assign | apply R_assign2 | apply R_appendVia | apply R_append | apply R_alias | apply R_ret | apply R_assignO | apply R_setItem | apply R_delItem | apply R_augItem | apply R_fz | apply R_aug) | (((try simp (config := {failIfUnchanged := false}) only [ev1_eq, evT_eq, evI_eq, one_some, theItems_some, truthR_some, evq_const, evq_var, evq_op, evq_nil, evq_cons, evq_star, evq_and, evq_or, evq_not, evq_ite, evq_call, evq_tup, evq_list, evq_comp, evq_comp2, evq_comp3, evq_mapF, evq_seqI, evq_rangeI, evq_enumI, evq_setI, fzAll, ownAt, Mine.R.ds, Mine.R.fz, Mine.D.truth, List.map_cons, List.map_nil, List.getElem?_cons_zero, List.getElem?_cons_succ, List.getElem?_nil, Option.map_some, Option.map_none, List.set_cons_zero, List.set_cons_succ, List.getElem?_set, List.length_set, Nat.reduceLT, eq_str, ne_str, notin_str, in_str1, replace1, List.cons.injEq, and_true, and_false, true_and, false_and, Nat.reduceEqDiff, decide_true, decide_false, reduceCtorEq, Bool.not_true, Bool.not_false, Nat.reduceAdd, List.isEmpty_cons, List.isEmpty_nil, Nat.reduceLeDiff, Nat.zero_le, Option.isSome_some, Option.isSome_none, noApp_eq, List.all_cons, List.all_nil, appOK_val, appOK_own, appOK_unset, appOK_app, Bool.and_true, Bool.true_and, reduceIte, List.mem_cons, List.not_mem_nil, or_false, false_or, or_true, true_or, itemsOf, Option.bind_some, compGo, turnD_tt, o_len, o_lens, o_sub, o_neg, o_addi, o_startswith, o_endswith, le_lim, lt_lim, List.length_cons, List.length_nil, Nat.zero_add, *]) <;> rfl)) | (show (_ : Nat) < lim; decide) | decide))
    · have h2' : p.isEmpty = false := by cases p <;> first | rfl | exact absurd rfl h2
      by_cases h3 : p.getLast? = some 47
      · simp only [h1, h2, or_self, if_false, h3, if_true]
        (repeat' (first | with_reducible (first | exact R_skip | exact R_brk | exact R_cont | apply R_seq | exact R_out_brk | exact R_out_cont | exact R_out_ret | refine R_next ?_ | apply R_ite | refine R_tt ?_ | refine R_ff ?_ | apply R_while | apply R_whileGo | exact R_wDone | apply R_wGo | refine R_wNext ?_ | refine R_wCont ?_ | exact R_wBrk | exact R_wRet | apply R_for | exact R_forNil | apply R_forCons | refine R_fNext ?_ | refine R_fCont ?_ | exact R_fBrk | exact R_fRet | apply R_assign | apply R_assign2 | apply R_appendVia | apply R_append | apply R_alias | apply R_ret | apply R_assignO | apply R_setItem | apply R_delItem | apply R_augItem | apply R_fz | apply R_aug) | (((try simp (config := {failIfUnchanged := false}) only [ev1_eq, evT_eq, evI_eq, one_some, theItems_some, truthR_some, evq_const, evq_var, evq_op, evq_nil, evq_cons, evq_star, evq_and, evq_or, evq_not, evq_ite, evq_call, evq_tup, evq_list, evq_comp, evq_comp2, evq_comp3, evq_mapF, evq_seqI, evq_rangeI, evq_enumI, evq_setI, fzAll, ownAt, Mine.R.ds, Mine.R.fz, Mine.D.truth, List.map_cons, List.map_nil, List.getElem?_cons_zero, List.getElem?_cons_succ, List.getElem?_nil, Option.map_some, Option.map_none, List.set_cons_zero, List.set_cons_succ, List.getElem?_set, List.length_set, Nat.reduceLT, eq_str, ne_str, notin_str, in_str1, replace1, List.cons.injEq, and_true, and_false, true_and, false_and, Nat.reduceEqDiff, decide_true, decide_false, reduceCtorEq, Bool.not_true, Bool.not_false, Nat.reduceAdd, List.isEmpty_cons, List.isEmpty_nil, Nat.reduceLeDiff, Nat.zero_le, Option.isSome_some, Option.isSome_none, noApp_eq, List.all_cons, List.all_nil, appOK_val, appOK_own, appOK_unset, appOK_app, Bool.and_true, Bool.true_and, reduceIte, List.mem_cons, List.not_mem_nil, or_false, false_or, or_true, true_or, itemsOf, Option.bind_some, compGo, turnD_tt, o_len, o_lens, o_sub, o_neg, o_addi, o_startswith, o_endswith, le_lim, lt_lim, List.length_cons, List.length_nil, Nat.zero_add, *]) <;> rfl)) | (show (_ : Nat) < lim; decide) | decide))
      · simp only [h1, h2, or_self, if_false, h3]
        (repeat' (first | with_reducible (first | exact R_skip | exact R_brk | exact R_cont | apply R_seq | exact R_out_brk | exact R_out_cont | exact R_out_ret | refine R_next ?_ | apply R_ite | refine R_tt ?_ | refine R_ff ?_ | apply R_while | apply R_whileGo | exact R_wDone | apply R_wGo | refine R_wNext ?_ | refine R_wCont ?_ | exact R_wBrk | exact R_wRet | apply R_for | exact R_forNil | apply R_forCons | refine R_fNext ?_ | refine R_fCont ?_ | exact R_fBrk | exact R_fRet | apply R_assign | apply R_assign2 | apply R_appendVia | apply R_append | apply R_alias | apply R_ret | apply R_assignO | apply R_setItem | apply R_delItem | apply R_augItem | apply R_fz | apply R_aug) | (((try simp (config := {failIfUnchanged := false}) only [ev1_eq, evT_eq, evI_eq, one_some, theItems_some, truthR_some, evq_const, evq_var, evq_op, evq_nil, evq_cons, evq_star, evq_and, evq_or, evq_not, evq_ite, evq_call, evq_tup, evq_list, evq_comp, evq_comp2, evq_comp3, evq_mapF, evq_seqI, evq_rangeI, evq_enumI, evq_setI, fzAll, ownAt, Mine.R.ds, Mine.R.fz, Mine.D.truth, List.map_cons, List.map_nil, List.getElem?_cons_zero, List.getElem?_cons_succ, List.getElem?_nil, Option.map_some, Option.map_none, List.set_cons_zero, List.set_cons_succ, List.getElem?_set, List.length_set, Nat.reduceLT, eq_str, ne_str, notin_str, in_str1, replace1, List.cons.injEq, and_true, and_false, true_and, false_and, Nat.reduceEqDiff, decide_true, decide_false, reduceCtorEq, Bool.not_true, Bool.not_false, Nat.reduceAdd, List.isEmpty_cons, List.isEmpty_nil, Nat.reduceLeDiff, Nat.zero_le, Option.isSome_some, Option.isSome_none, noApp_eq, List.all_cons, List.all_nil, appOK_val, appOK_own, appOK_unset, appOK_app, Bool.and_true, Bool.true_and, reduceIte, List.mem_cons, List.not_mem_nil, or_false, false_or, or_true, true_or, itemsOf, Option.bind_some, compGo, turnD_tt, o_len, o_lens, o_sub, o_neg, o_addi, o_startswith, o_endswith, le_lim, lt_lim, List.length_cons, List.length_nil, Nat.zero_add, *]) <;> rfl)) | (show (_ : Nat) < lim; decide) | decide))
theorem join1_len (p b : List Nat) : (join1 p b).length ≤ p.length + b.length + 1 := by
  unfold join1
  split
  · omega
  · split <;> simp <;> omega
noncomputable def lenS (bs : List (List Nat)) : Nat := (bs.map fun b => b.length + 1).sum
theorem join_loop (hf : ∀ l, cf 2 [.str l] = some (.str l)) {a' ps : D} : ∀ (bs : List (List Nat)) (p : List Nat) (j4 : Slot), p.length + lenS bs ≤ lim →
    ∃ j, forGo (put1 4) (ex cf jBody) (bs.map .str) [.val a', .val ps, .val (.str [47]), .val (.str p), j4] = some ([.val a', .val ps, .val (.str [47]), .val (.str (joinP p bs)), j], .next)
  | [], p, j4, _ => ⟨j4, rfl⟩
  | b :: bs, p, j4, h => by
    have h' : p.length + (b.length + 1 + lenS bs) ≤ lim := by
      unfold lenS at h ⊢
      rw [List.map_cons, List.sum_cons] at h
      exact h
    have h2 := join1_len p b
    obtain ⟨j, hj⟩ := join_loop hf (a' := a') (ps := ps) bs (join1 p b) (.val (.str b)) (by omega)
    refine ⟨j, R_forCons (st := put1 4) (d := .str b) rfl (join_turn hf (p := p) (b := b) (by omega)) (R_fNext hj)⟩
end
section
variable {fns : Nat → Option Fn}
theorem join_ok (h2 : fns 2 = some fn_fspath) (h3 : fns 3 = some fn_get_sep) (h4 : fns 4 = some fn_join) (m : Nat) {a : List Nat} {bs : List (List Nat)} (h : a.length + lenS bs ≤ lim) (hn : bs.length < lim) :
    callF fns (m + 2) 4 (.str a :: bs.map .str) = some (.str (joinP a bs)) := by
  have hb : bindD fn_join (.str a :: bs.map .str) = some [.val (.str a), .val (.tup (bs.map .str)), .unset, .unset, .unset] := by
    unfold bindD fn_join
    simp only [if_true]
    rw [if_pos ⟨by simp, by simp; omega⟩]
    rfl
  refine C_call h4 hb ?_
  show ∃ ρ', ex (callF fns (m + 1)) s_join _ = _
  obtain ⟨j, hj⟩ := join_loop (cf := callF fns (m + 1)) (fspath_ok h2 m) (a' := .str a) (ps := .tup (bs.map .str)) bs a .unset h
  have f1 := fspath_ok h2 m a
  have f2 := get_sep_ok h3 m a
  unfold s_join
  refine ⟨_, R_seq (R_assign (d := .str a) ?_ rfl) (R_next (R_seq (R_assign (d := .str [47]) ?_ rfl) (R_next (R_seq (R_assign (d := .str a) rfl rfl) (R_next (R_seq (R_try (R_seq (R_for ?_ hj) (R_next R_skip))) (R_next (R_seq (R_ret (d := .str (joinP a bs)) rfl) R_out_ret))))))))⟩
  · simp only [ev1_eq, evq_const, evq_var, evq_op, evq_nil, evq_cons, evq_star, evq_and, evq_or, evq_not, evq_ite, evq_call, evq_tup, evq_list, evq_comp, evq_comp2, evq_comp3, evq_mapF, evq_seqI, evq_rangeI, evq_enumI, evq_setI, List.getElem?_cons_zero, fzAll, R.fz, f1, Option.map_some, one_some]
  · simp only [ev1_eq, evq_const, evq_var, evq_op, evq_nil, evq_cons, evq_star, evq_and, evq_or, evq_not, evq_ite, evq_call, evq_tup, evq_list, evq_comp, evq_comp2, evq_comp3, evq_mapF, evq_seqI, evq_rangeI, evq_enumI, evq_setI, List.getElem?_cons_zero, List.set_cons_zero, fzAll, R.fz, f2, Option.map_some, one_some]
  · rfl
theorem split_core (h2 : fns 2 = some fn_fspath) (h3 : fns 3 = some fn_get_sep) (h5 : fns 5 = some fn_split) (m : Nat) {l x y z : List Nat} {r i n : D} {e : D} (hr : opF .rfind [.str l, .str [47]] = some (.val r)) (ha : opF .add [r, .int 1] = some (.val i))
    (s1 : opF .slice [.str l, .none, i] = some (.val (.str x))) (s2 : opF .slice [.str l, i, .none] = some (.val (.str y))) (hn : opF .len [.str x] = some (.val n)) (hm : opF .mul [.str [47], n] = some (.val e)) {b : Bool} (he : opF .ne [.str x, e] = some (.val (.bool b)))
    (hs : opF .rstrip [.str x, .str [47]] = some (.val (.str z))) : callF fns (m + 2) 5 [.str l] = some (.tup [.str (if x ≠ [] ∧ b = true then z else x), .str y]) := by
  refine C_call h5 (ρ := [.val (.str l), .unset, .unset, .unset, .unset]) rfl ?_
  show ∃ ρ', ex (callF fns (m + 1)) s_split _ = _
  have f1 := fspath_ok h2 m l
  have f2 := get_sep_ok h3 m l
  unfold s_split
  by_cases hx : x = []
  · subst hx
    simp only [ne_eq, not_true, false_and, if_false]
    refine ⟨?w1, ?h1⟩
    case h1 => (repeat' (first | with_reducible (first | exact R_skip | exact R_brk | exact R_cont | apply R_seq | exact R_out_brk | exact R_out_cont | exact R_out_ret | refine R_next ?_ | apply R_ite | refine R_tt ?_ | refine R_ff ?_ | apply R_while | apply R_whileGo | exact R_wDone | apply R_wGo | refine R_wNext ?_ | refine R_wCont ?_ | exact R_wBrk | exact R_wRet | apply R_for | exact R_forNil | apply R_forCons | refine R_fNext ?_ | refine R_fCont ?_ | exact R_fBrk | exact R_fRet | apply R_assign | apply R_assign2 | apply R_appendVia | apply R_append | apply R_alias | apply R_ret | apply R_assignO | apply R_setItem | apply R_delItem | apply R_augItem | apply R_fz | apply R_aug) | (((try simp (config := {failIfUnchanged := false}) only [ev1_eq, evT_eq, evI_eq, one_some, theItems_some, truthR_some, evq_const, evq_var, evq_op, evq_nil, evq_cons, evq_star, evq_and, evq_or, evq_not, evq_ite, evq_call, evq_tup, evq_list, evq_comp, evq_comp2, evq_comp3, evq_mapF, evq_seqI, evq_rangeI, evq_enumI, evq_setI, fzAll, ownAt, Mine.R.ds, Mine.R.fz, Mine.D.truth, List.map_cons, List.map_nil, List.getElem?_cons_zero, List.getElem?_cons_succ, List.getElem?_nil, Option.map_some, Option.map_none, List.set_cons_zero, List.set_cons_succ, List.getElem?_set, List.length_set, Nat.reduceLT, eq_str, ne_str, notin_str, in_str1, replace1, List.cons.injEq, and_true, and_false, true_and, false_and, Nat.reduceEqDiff, decide_true, decide_false, reduceCtorEq, Bool.not_true, Bool.not_false, Nat.reduceAdd, List.isEmpty_cons, List.isEmpty_nil, Nat.reduceLeDiff, Nat.zero_le, Option.isSome_some, Option.isSome_none, noApp_eq, List.all_cons, List.all_nil, appOK_val, appOK_own, appOK_unset, appOK_app, Bool.and_true, Bool.true_and, reduceIte, List.mem_cons, List.not_mem_nil, or_false, false_or, or_true, true_or, itemsOf, Option.bind_some, compGo, turnD_tt, o_len, o_lens, o_sub, o_neg, o_addi, o_startswith, o_endswith, le_lim, lt_lim, List.length_cons, List.length_nil, Nat.zero_add, *]) <;> rfl)) | (show (_ : Nat) < lim; decide) | decide))
  · have hx' : x.isEmpty = false := by cases x <;> first | rfl | exact absurd rfl hx
    cases b with
    | true =>
      simp only [ne_eq, hx, not_false_eq_true, and_self, if_true]
      refine ⟨?w2, ?h2⟩
      case h2 => (repeat' (first | with_reducible (first | exact R_skip | exact R_brk | exact R_cont | apply R_seq | exact R_out_brk | exact R_out_cont | exact R_out_ret | refine R_next ?_ | apply R_ite | refine R_tt ?_ | refine R_ff ?_ | apply R_while | apply R_whileGo | exact R_wDone | apply R_wGo | refine R_wNext ?_ | refine R_wCont ?_ | exact R_wBrk | exact R_wRet | apply R_for | exact R_forNil | apply R_forCons | refine R_fNext ?_ | refine R_fCont ?_ | exact R_fBrk | exact R_fRet | apply R_assign | apply R_assign2 | apply R_appendVia | apply R_append | apply R_alias | apply R_ret | apply R_assignO | apply R_setItem | apply R_delItem | apply R_augItem | apply R_fz | apply R_aug) | (((try simp (config := {failIfUnchanged := false}) only [ev1_eq, evT_eq, evI_eq, one_some, theItems_some, truthR_some, evq_const, evq_var, evq_op, evq_nil, evq_cons, evq_star, evq_and, evq_or, evq_not, evq_ite, evq_call, evq_tup, evq_list, evq_comp, evq_comp2, evq_comp3, evq_mapF, evq_seqI, evq_rangeI, evq_enumI, evq_setI, fzAll, ownAt, Mine.R.ds, Mine.R.fz, Mine.D.truth, List.map_cons, List.map_nil, List.getElem?_cons_zero, List.getElem?_cons_succ, List.getElem?_nil, Option.map_some, Option.map_none, List.set_cons_zero, List.set_cons_succ, List.getElem?_set, List.length_set, Nat.reduceLT, eq_str, ne_str, notin_str, in_str1, replace1, List.cons.injEq, and_true, and_false, true_and, false_and, Nat.reduceEqDiff, decide_true, decide_false, reduceCtorEq, Bool.not_true, Bool.not_false, Nat.reduceAdd, List.isEmpty_cons, List.isEmpty_nil, Nat.reduceLeDiff, Nat.zero_le, Option.isSome_some, Option.isSome_none, noApp_eq, List.all_cons, List.all_nil, appOK_val, appOK_own, appOK_unset, appOK_app, Bool.and_true, Bool.true_and, reduceIte, List.mem_cons, List.not_mem_nil, or_false, false_or, or_true, true_or, itemsOf, Option.bind_some, compGo, turnD_tt, o_len, o_lens, o_sub, o_neg, o_addi, o_startswith, o_endswith, le_lim, lt_lim, List.length_cons, List.length_nil, Nat.zero_add, *]) <;> rfl)) | (show (_ : Nat) < lim; decide) | decide))
    | false =>
      simp only [ne_eq, hx, not_false_eq_true, and_false, if_false, Bool.false_eq_true]
      refine ⟨?w3, ?h3⟩
      case h3 => (repeat' (first | with_reducible (first | exact R_skip | exact R_brk | exact R_cont | apply R_seq | exact R_out_brk | exact R_out_cont | exact R_out_ret | refine R_next ?_ | apply R_ite | refine R_tt ?_ | refine R_ff ?_ | apply R_while | apply R_whileGo | exact R_wDone | apply R_wGo | refine R_wNext ?_ | refine R_wCont ?_ | exact R_wBrk | exact R_wRet | apply R_for | exact R_forNil | apply R_forCons | refine R_fNext ?_ | refine R_fCont ?_ | exact R_fBrk | exact R_fRet | apply R_assign | apply R_assign2 | apply R_appendVia | apply R_append | apply R_alias | apply R_ret | apply R_assignO | apply R_setItem | apply R_delItem | apply R_augItem | apply R_fz | apply R_aug) | (((try simp (config := {failIfUnchanged := false}) only [ev1_eq, evT_eq, evI_eq, one_some, theItems_some, truthR_some, evq_const, evq_var, evq_op, evq_nil, evq_cons, evq_star, evq_and, evq_or, evq_not, evq_ite, evq_call, evq_tup, evq_list, evq_comp, evq_comp2, evq_comp3, evq_mapF, evq_seqI, evq_rangeI, evq_enumI, evq_setI, fzAll, ownAt, Mine.R.ds, Mine.R.fz, Mine.D.truth, List.map_cons, List.map_nil, List.getElem?_cons_zero, List.getElem?_cons_succ, List.getElem?_nil, Option.map_some, Option.map_none, List.set_cons_zero, List.set_cons_succ, List.getElem?_set, List.length_set, Nat.reduceLT, eq_str, ne_str, notin_str, in_str1, replace1, List.cons.injEq, and_true, and_false, true_and, false_and, Nat.reduceEqDiff, decide_true, decide_false, reduceCtorEq, Bool.not_true, Bool.not_false, Nat.reduceAdd, List.isEmpty_cons, List.isEmpty_nil, Nat.reduceLeDiff, Nat.zero_le, Option.isSome_some, Option.isSome_none, noApp_eq, List.all_cons, List.all_nil, appOK_val, appOK_own, appOK_unset, appOK_app, Bool.and_true, Bool.true_and, reduceIte, List.mem_cons, List.not_mem_nil, or_false, false_or, or_true, true_or, itemsOf, Option.bind_some, compGo, turnD_tt, o_len, o_lens, o_sub, o_neg, o_addi, o_startswith, o_endswith, le_lim, lt_lim, List.length_cons, List.length_nil, Nat.zero_add, *]) <;> rfl)) | (show (_ : Nat) < lim; decide) | decide))
end
end Mine
end P6x
section P7x
open PySem PySem.StrLaws PySem.Builtin PySem.Builtin.Str
namespace Mine
theorem small_nat {n : Nat} (h : n ≤ 1000000) : small (n : Int) = true := by
  unfold small
  simp only [Bool.and_eq_true, decide_eq_true_eq]
  omega
theorem clip_nat {k n : Nat} (h : k ≤ n) : clip (k : Int) n = k := by
  unfold clip
  rw [if_neg (by omega)]
  split <;> omega
theorem o_to {x y : List Nat} (h : x.length ≤ 1000000) : opF .slice [.str (x ++ y), .none, .int (x.length : Int)] = some (.val (.str x)) := by
  have e : bound (.int (x.length : Int)) (x ++ y).length (x ++ y).length = some x.length := by
    show (if small (x.length : Int) = true then some (clip (x.length : Int) (x ++ y).length) else none) = _
    rw [if_pos (small_nat h), clip_nat (by simp)]
  show (match bound .none 0 (x ++ y).length, bound (.int (x.length : Int)) (x ++ y).length (x ++ y).length with
    | some lo, some hi => some (R.val (.str (cut (x ++ y) lo hi)))
    | _, _ => none) = _
  rw [e]
  show some (R.val (.str (cut (x ++ y) 0 x.length))) = _
  congr 3
  unfold cut
  simp
theorem o_from {x y : List Nat} (h : x.length ≤ 1000000) : opF .slice [.str (x ++ y), .int (x.length : Int), .none] = some (.val (.str y)) := by
  have e : bound (.int (x.length : Int)) 0 (x ++ y).length = some x.length := by
    show (if small (x.length : Int) = true then some (clip (x.length : Int) (x ++ y).length) else none) = _
    rw [if_pos (small_nat h), clip_nat (by simp)]
  show (match bound (.int (x.length : Int)) 0 (x ++ y).length, bound .none (x ++ y).length (x ++ y).length with
    | some lo, some hi => some (R.val (.str (cut (x ++ y) lo hi)))
    | _, _ => none) = _
  rw [e]
  show some (R.val (.str (cut (x ++ y) x.length (x ++ y).length))) = _
  congr 3
  unfold cut
  simp
theorem rep_sign {n : Nat} {c : Nat} : rep [c] (n : Int) = List.replicate n c := by
  unfold rep
  rw [Int.toNat_natCast]
  induction n with
  | zero => rfl
  | succ n ih => rw [List.replicate_succ, List.flatten_cons, ih]; rfl
theorem o_mulsep {c n : Nat} (h : n ≤ lim) : opF .mul [.str [c], .int (n : Int)] = some (.val (.str (List.replicate n c))) := by
  show (if (small (n : Int) && decide (([c] : List Nat).length * (n : Int).toNat ≤ lim)) = true then some (R.val (.str (rep [c] (n : Int)))) else none) = _
  rw [if_pos, rep_sign]
  rw [Bool.and_eq_true, decide_eq_true_eq, Int.toNat_natCast]
  exact ⟨small_nat h, by simpa using h⟩
theorem o_rstrip {a : List Nat} {c : Nat} : opF .rstrip [.str a, .str [c]] = some (.val (.str (a.reverse.dropWhile fun x => x == c).reverse)) := by
  show some (R.val (.str (Txt.rstripChars ⟨a.toArray⟩ ⟨[c].toArray⟩).cps.toList)) = _
  rw [rstrip1]
theorem o_rfind_no {a : List Nat} {c : Nat} (h : c ∉ a) : opF .rfind [.str a, .str [c]] = some (.val (.int (-1))) := by
  show some (R.val (.int (Txt.rfind ⟨a.toArray⟩ ⟨[c].toArray⟩))) = _
  rw [rfind_no h]
theorem o_rfind_at {x y : List Nat} {c : Nat} (h : c ∉ y) : opF .rfind [.str (x ++ c :: y), .str [c]] = some (.val (.int (x.length : Int))) := by
  show some (R.val (.int (Txt.rfind ⟨(x ++ c :: y).toArray⟩ ⟨[c].toArray⟩))) = _
  rw [rfind_at h]
noncomputable def strip0 (x : List Nat) : List Nat := if x = List.replicate x.length 47 then x else (x.reverse.dropWhile fun c => c == 47).reverse
section
variable {fns : Nat → Option Fn}
theorem split_no (h2 : fns 2 = some fn_fspath) (h3 : fns 3 = some fn_get_sep) (h5 : fns 5 = some fn_split) (m : Nat) {l : List Nat} (h : 47 ∉ l) : callF fns (m + 2) 5 [.str l] = some (.tup [.str [], .str l]) := by
  have := split_core h2 h3 h5 m (l := l) (x := []) (y := l) (z := []) (r := .int (-1)) (i := .int 0) (n := .int 0) (e := .str []) (b := false) (o_rfind_no h) rfl (o_to (x := []) (y := l) (by simp)) (o_from (x := []) (y := l) (by simp)) rfl rfl rfl rfl
  simpa using this
theorem split_at (h2 : fns 2 = some fn_fspath) (h3 : fns 3 = some fn_get_sep) (h5 : fns 5 = some fn_split) (m : Nat) {x y : List Nat} (h : 47 ∉ y) (hl : x.length < 1000000) :
    callF fns (m + 2) 5 [.str (x ++ 47 :: y)] = some (.tup [.str (strip0 (x ++ [47])), .str y]) := by
  have e : x ++ 47 :: y = (x ++ [47]) ++ y := by simp
  have hlen : ((x ++ [47]).length : Int) = (x.length : Int) + 1 := by simp
  have := split_core h2 h3 h5 m (l := x ++ 47 :: y) (x := x ++ [47]) (y := y) (z := ((x ++ [47]).reverse.dropWhile fun c => c == 47).reverse) (r := .int (x.length : Int)) (i := .int ((x ++ [47]).length : Int)) (n := .int ((x ++ [47]).length : Int))
    (e := .str (List.replicate (x ++ [47]).length 47)) (b := !decide (x ++ [47] = List.replicate (x ++ [47]).length 47)) (o_rfind_at h) (by rw [hlen]; rfl) (by rw [e]; exact o_to (by simp; omega)) (by rw [e]; exact o_from (by simp; omega)) rfl (o_mulsep (by unfold lim; simp; omega)) rfl o_rstrip
  rw [this]
  unfold strip0
  by_cases hx : x ++ [47] = List.replicate (x ++ [47]).length 47
  · rw [if_pos hx, if_neg (by rintro ⟨_, q⟩; rw [Bool.not_eq_true', decide_eq_false_iff_not] at q; exact q hx)]
  · rw [if_neg hx, if_pos ⟨by simp, by rw [Bool.not_eq_true', decide_eq_false_iff_not]; exact hx⟩]
end
end Mine
end P7x
section P8x
open PySem PySem.StrLaws PySem.Builtin PySem.Builtin.Str
namespace Mine
theorem o_mod {n k : Nat} (hk : k ≠ 0) : opF .mod [.int (n : Int), .int (k : Int)] = some (.val (.int ((n % k : Nat) : Int))) := by
  show (if (k : Int) = 0 then none else some (R.val (.int (Int.fmod (n : Int) (k : Int))))) = _
  rw [if_neg (by omega), Int.fmod_eq_emod_of_nonneg _ (by omega)]
  rfl
theorem o_div {n k : Nat} (hk : k ≠ 0) : opF .fdiv [.int (n : Int), .int (k : Int)] = some (.val (.int ((n / k : Nat) : Int))) := by
  show (if (k : Int) = 0 then none else some (R.val (.int (Int.fdiv (n : Int) (k : Int))))) = _
  rw [if_neg (by omega), Int.fdiv_eq_ediv_of_nonneg _ (by omega)]
  rfl
theorem o_tupidx {l : List D} {k : Nat} {d : D} (h : l[k]? = some d) (hk : k ≤ 1000000) : opF .index [.tup l, .int (k : Int)] = some (.val d) := by
  show (if small (k : Int) = true then (match place (k : Int) l.length with | some k => (l[k]?).map R.val | none => none) else none) = _
  rw [if_pos (small_nat hk)]
  unfold place
  have : k < l.length := (List.getElem?_eq_some_iff.mp h).1
  rw [if_pos (by omega), if_pos (by omega)]
  simp only [Int.toNat_natCast, h, Option.map_some]
theorem o_listidx {l : List D} {k : Nat} {d : D} (h : l[k]? = some d) (hk : k ≤ 1000000) : opF .index [.list l, .int (k : Int)] = some (.val d) := by
  show (if small (k : Int) = true then (match place (k : Int) l.length with | some k => (l[k]?).map R.val | none => none) else none) = _
  rw [if_pos (small_nat hk)]
  unfold place
  have : k < l.length := (List.getElem?_eq_some_iff.mp h).1
  rw [if_pos (by omega), if_pos (by omega)]
  simp only [Int.toNat_natCast, h, Option.map_some]
theorem for_range {cf : Nat → List D → Option D} {i : Nat} {b : S} {I : Nat → List Slot → Prop} {a : Nat} : ∀ {m : Nat} {ρ : List Slot}, I a ρ → (∀ k ρ, a ≤ k → k < a + m → I k ρ → ∃ ρ' o, ex cf b (ρ.set i (.val (.int (k : Int)))) = some (ρ', o) ∧ (o = .next ∨ o = .cont) ∧ I (k + 1) ρ') →
    ∃ ρ', forGo (put1 i) (ex cf b) ((List.range' a m).map fun (k : Nat) => .int (k : Int)) ρ = some (ρ', .next) ∧ I (a + m) ρ' := by
  intro m
  induction m generalizing a with
  | zero => intro ρ h0 _; exact ⟨ρ, rfl, h0⟩
  | succ m ih =>
    intro ρ h0 hs
    obtain ⟨ρ1, o, e1, ho, h1⟩ := hs a ρ (Nat.le_refl _) (by omega) h0
    obtain ⟨ρ2, e2, h2⟩ := ih (a := a + 1) h1 fun k ρ hk1 hk2 hI => hs k ρ (by omega) (by omega) hI
    refine ⟨ρ2, ?_, by rw [show a + (m + 1) = a + 1 + m by omega]; exact h2⟩
    rw [List.range'_succ, List.map_cons]
    refine R_forCons (st := put1 i) rfl e1 ?_
    rcases ho with rfl | rfl
    · exact R_fNext e2
    · exact R_fCont e2
theorem upTo_eq {n a : Nat} : (upTo n (a : Int) 1).map D.int = (List.range' a n).map fun (k : Nat) => .int (k : Int) := by
  unfold upTo
  rw [List.map_map, List.range'_eq_map_range, List.map_map]
  apply List.map_congr_left
  intro k _
  simp
theorem range1_eq {n : Nat} (h : n ≤ 1000000) : opRange [.int (n : Int)] = some ((List.range' 0 n).map fun (k : Nat) => .int (k : Int)) := by
  show (if (small (n : Int) && decide ((n : Int) ≤ 1000000)) = true then some (rangeL 0 (n : Int)) else none) = _
  rw [if_pos (by rw [small_nat h]; simp; omega)]
  unfold rangeL
  have : ((n : Int) - 0).toNat = n := by omega
  rw [this]
  exact congrArg some (upTo_eq (a := 0))
theorem o_take1 {t : List Nat} : opF .slice [.str t, .none, .int 1] = some (.val (.str (t.take 1))) := by
  have e : bound (.int 1) t.length t.length = some (clip 1 t.length) := rfl
  show (match bound .none 0 t.length, bound (.int 1) t.length t.length with
    | some lo, some hi => some (R.val (.str (cut t lo hi)))
    | _, _ => none) = _
  rw [e]
  show some (R.val (.str (cut t 0 (clip 1 t.length)))) = _
  congr 3
  cases t with
  | nil => rfl
  | cons c t =>
    have : clip 1 (c :: t).length = 1 := clip_nat (k := 1) (by simp)
    rw [this]; rfl
mutual
theorem eqvD_refl : ∀ d : D, PyData.eqv d.toPy d.toPy = true
  | .none => by unfold D.toPy; rfl
  | .bool b => by unfold D.toPy; simp [PyData.eqv]
  | .int i => by unfold D.toPy; simp [PyData.eqv]
  | .str l => by unfold D.toPy; simp [PyData.eqv]
  | .list l => by unfold D.toPy; rw [PyData.eqv]; exact eqvDs_refl l
  | .tup l => by unfold D.toPy; rw [PyData.eqv]; exact eqvDs_refl l
  | .tok k => by unfold D.toPy; simp [PyData.eqv, PyData.eqvAll]
  | .ty _ => by unfold D.toPy; rfl
theorem eqvDs_refl : ∀ l : List D, PyData.eqvAll (D.toPys l) (D.toPys l) = true
  | [] => by unfold D.toPys; rfl
  | d :: l => by unfold D.toPys; rw [PyData.eqvAll, eqvD_refl d, eqvDs_refl l]; rfl
end
theorem fzAll_vals : ∀ (l : List D), fzAll (l.map R.val) = some l
  | [] => rfl
  | d :: l => by
    rw [List.map_cons]
    unfold fzAll
    rw [fzAll_vals l]; rfl
theorem o_eqi {a b : Int} : opF .eq [.int a, .int b] = some (.val (.bool (decide (a = b)))) := rfl
theorem comp_run {cf : Nat → List D → Option D} {i : Nat} {it c e : X} {ρ : List Slot} {items l : List D} (h : ev cf it ρ = some [.val (.list items)]) (hg : compGo (fun d => turnD (ev cf c (ρ.set i (.val d))) (ev cf e (ρ.set i (.val d)))) items = some l) :
    ev cf (.comp i it c e) ρ = some [.own l] := by
  rw [evq_comp]
  simp only [h, hg, Option.map_some]
theorem pick_map {α β : Type} (f : α → β) (l : List α) (lo hi st : Option Int) : pick (l.map f) lo hi st = (pick l lo hi st).map f := by
  unfold pick
  rw [List.length_map, List.map_filterMap]
  congr 1
  funext k
  rw [List.getElem?_map]
theorem toInts_map : ∀ l : List Int, toInts (l.map D.int) = some l
  | [] => rfl
  | i :: l => by
    rw [List.map_cons]
    unfold toInts
    rw [toInts_map l]; rfl
theorem o_sumi {l : List Int} : opF .sum [.list (l.map .int)] = some (.val (.int l.sum)) := by
  show (toInts (l.map D.int)).map (fun is => R.val (.int is.sum)) = _
  rw [toInts_map]; rfl
theorem o_absi {i : Int} : opF .abs [.int i] = some (.val (.int (i.natAbs : Int))) := rfl
theorem o_slice3 {ns : List Int} {k n : Nat} (hk : k ≤ 1000000) (hn : n ≤ 1000000) (h0 : n ≠ 0) : opF .slice3 [.list (ns.map .int), .int (k : Int), .none, .int (n : Int)] = some (.own ((pick ns (some (k : Int)) none (some (n : Int))).map .int)) := by
  have e : partD (.int (k : Int)) = some (some (k : Int)) := by
    show (if small (k : Int) = true then some (some (k : Int)) else none) = _
    rw [if_pos (small_nat hk)]
  show (match partD (.int (k : Int)), partD .none with
    | some lo, some hi => if (n : Int) ≠ 0 ∧ small (n : Int) then some (R.own (pick (ns.map D.int) lo hi (some (n : Int)))) else none
    | _, _ => none) = _
  rw [e]
  show (if (n : Int) ≠ 0 ∧ small (n : Int) then some (R.own (pick (ns.map D.int) (some (k : Int)) none (some (n : Int)))) else none) = _
  rw [if_pos ⟨by omega, small_nat hn⟩, pick_map]
theorem compGo_map {f : D → Option (Option D)} {g : Nat → D} : ∀ {l : List Nat}, (∀ k ∈ l, f (.int (k : Int)) = some (some (g k))) → compGo f (l.map fun (k : Nat) => .int (k : Int)) = some (l.map g)
  | [], _ => rfl
  | k :: l, h => by
    rw [List.map_cons]
    unfold compGo
    rw [h k List.mem_cons_self]
    simp only
    rw [compGo_map fun e he => h e (List.mem_cons_of_mem _ he)]
    rfl
end Mine
end P8x
section F03x
open PySem
namespace Mine
noncomputable abbrev fa03 : Nat → Addr := fun i => ([55, 62, 135, 149, 156, 163, 170, 0, 0, 0, 0, 0, 0, 0, 177, 182, 187, 194, 0, 0, 0, 0, 0, 201, 208, 215, 0, 0, 0, 0, 0, 0, 0, 0, 0, 220] : List Addr).getD i 0
noncomputable def fns03 : Nat → Option Fn := fun i => ([(0, fn_escape), (1, fn_translate), (2, fn_fspath), (3, fn_get_sep), (4, fn_join), (5, fn_split), (6, fn_dirname), (14, fn_law_one), (15, fn_law_takes), (16, fn_law_means), (17, fn_law_dressed), (23, fn_law_hits), (24, fn_law_out), (25, fn_law_met)] : List (Nat × Fn)).lookup i
end Mine
end F03x
section PT03x
open PySem PySem.StrLaws PySem.Builtin PySem.Builtin.Str
namespace Mine
noncomputable def words6 : List (List Nat) := [[97], [98], [46, 97], [97, 98], [98, 97, 98], [98, 46, 98]]
noncomputable def tabT : List (List Nat) := [[42], [97], [97, 42], [63], [91, 33, 97, 93, 42], [42, 98], [91, 46, 45, 97, 93, 63], [46, 42], [91, 98, 45, 97, 93], [91, 33, 98, 45, 97, 93, 98], [98], [42, 91, 97, 98, 93], [97, 63, 98]]
noncomputable def tabP : List (List D) := [[.tok 0], [.str [97]], [.str [97], .tok 0], [.str [46]], [.str [91, 94, 97, 93], .tok 0], [.tok 0, .str [98]], [.str [91, 46, 45, 97, 93], .str [46]], [.str [92, 46], .tok 0], [.str [40, 63, 33, 41]], [.str [46], .str [98]], [.str [98]], [.tok 0, .str [91, 97, 98, 93]], [.str [97], .str [46], .str [98]]]
noncomputable def tabM : List (List D) := [[.none], [.str [97]], [.str [97], .none], [.str [46, 97, 98]], [.str [46, 98], .none], [.none, .str [98]], [.str [46, 97], .str [46, 97, 98]], [.str [46], .none], [.str []], [.str [46, 97, 98], .str [98]], [.str [98]], [.none, .str [97, 98]], [.str [97], .str [46, 97, 98], .str [98]]]
noncomputable def tabB : List (List Bool) := [[true, true, true, true, true, true], [true, false, false, false, false, false], [true, false, false, true, false, false], [true, true, false, false, false, false], [false, true, true, false, true, true], [false, true, false, true, true, true], [false, false, true, true, false, false], [false, false, true, false, false, false], [false, false, false, false, false, false], [false, false, false, true, false, false], [false, true, false, false, false, false], [true, true, true, true, true, true], [false, false, false, false, false, false]]
noncomputable def tT (k : Nat) : List Nat := tabT.getD k []
noncomputable def tP (k : Nat) : List D := tabP.getD k []
noncomputable def tM (k : Nat) : List D := tabM.getD k []
noncomputable def mB (k : Nat) (t : List Nat) : Bool := (tabB.getD k []).getD (words6.idxOf t) false
theorem tab_get {α β : Type} {f : Nat → α} {t : List β} {g : β → α} {n k : Nat} {d : β} (h : (List.range n).map f = t.map g) (hk : k < n) : f k = g (t.getD k d) := by
  have h1 := congrArg (·[k]?) h
  simp only [List.getElem?_map, List.getElem?_range hk, Option.map_some] at h1
  cases q : t[k]? with
  | none => rw [q] at h1; cases h1
  | some b => rw [q] at h1; rw [List.getD_eq_getElem?_getD, q]; exact Option.some.inj h1
theorem tr13 (m : Nat) : (List.range 13).map (fun k => callF fns03 (m + 2) 1 [.str (tT k), .tok 0, .str [46]]) = tabP.map fun l => some (.list l) := by kernel_rfl
theorem trans13 (m : Nat) {k : Nat} (h : k < 13) : callF fns03 (m + 2) 1 [.str (tT k), .tok 0, .str [46]] = some (.list (tP k)) := tab_get (tr13 m) h
theorem tk13 (m : Nat) : (List.range 13).map (fun k => (List.range 6).map fun w => callF fns03 (m + 2) 15 [.list (tP k), .tok 0, .str (words6.getD w [])]) = tabB.map fun l => l.map fun b => some (.bool b) := by kernel_rfl
theorem mn13 (m : Nat) : (List.range 13).map (fun k => (List.range 6).map fun w => callF fns03 (m + 5) 16 [.list (tM k), .str (words6.getD w [])]) = tabB.map fun l => l.map fun b => some (.bool b) := by kernel_rfl
theorem word_at {t : List Nat} (h : t ∈ words6) : words6.idxOf t < 6 ∧ words6.getD (words6.idxOf t) [] = t := by
  have h1 : words6.idxOf t < words6.length := List.idxOf_lt_length_iff.mpr h
  refine ⟨h1, ?_⟩
  rw [List.getD_eq_getElem?_getD, List.getElem?_eq_getElem h1]
  exact List.getElem_idxOf h1
theorem takes13 (m : Nat) {k : Nat} {t : List Nat} (h : k < 13) (ht : t ∈ words6) : callF fns03 (m + 2) 15 [.list (tP k), .tok 0, .str t] = some (.bool (mB k t)) := by
  obtain ⟨h1, h2⟩ := word_at ht
  have e := tab_get (f := fun w => callF fns03 (m + 2) 15 [.list (tP k), .tok 0, .str (words6.getD w [])]) (α := Option D) (β := Bool) (g := fun b => some (D.bool b)) (d := false) (tab_get (α := List (Option D)) (β := List Bool) (g := fun l => l.map fun b => some (D.bool b)) (d := []) (tk13 m) h) h1
  simp only [h2] at e
  exact e
theorem means13 (m : Nat) {k : Nat} {t : List Nat} (h : k < 13) (ht : t ∈ words6) : callF fns03 (m + 5) 16 [.list (tM k), .str t] = some (.bool (mB k t)) := by
  obtain ⟨h1, h2⟩ := word_at ht
  have e := tab_get (f := fun w => callF fns03 (m + 5) 16 [.list (tM k), .str (words6.getD w [])]) (α := Option D) (β := Bool) (g := fun b => some (D.bool b)) (d := false) (tab_get (α := List (Option D)) (β := List Bool) (g := fun l => l.map fun b => some (D.bool b)) (d := []) (mn13 m) h) h1
  simp only [h2] at e
  exact e
noncomputable def tab13 : List D := (List.range 13).map fun k => .tup [.str (tT k), .list (tM k)]
theorem dressed13 (m n : Nat) : callF fns03 (m + 1) 17 [.int (n : Int)] = some (.tup [.str (tT (n % 13)), .list (tM (n % 13))]) := by
  have hk : n % 13 < 13 := Nat.mod_lt _ (by decide)
  refine C_call (fn := fn_law_dressed) rfl (ρ := [.val (.int (n : Int)), .unset]) rfl ?_
  show ∃ ρ', ex (callF fns03 m) s_law_dressed _ = _
  have h1 : opF .mod [.int (n : Int), .int 13] = some (.val (.int ((n % 13 : Nat) : Int))) := o_mod (k := 13) (by decide)
  have h2 : opF .index [.tup tab13, .int ((n % 13 : Nat) : Int)] = some (.val (.tup [.str (tT (n % 13)), .list (tM (n % 13))])) := by
    refine o_tupidx ?_ (by omega)
    unfold tab13
    rw [List.getElem?_map, List.getElem?_range hk]; rfl
  generalize D.int (n : Int) = N at *
  generalize D.int ((n % 13 : Nat) : Int) = K at *
  generalize D.tup [.str (tT (n % 13)), .list (tM (n % 13))] = res at *
  have h3 : ∀ t : List D, ev1 (callF fns03 m) (.op .index (.cons (.var 1) (.cons (.op .mod (.cons (.var 0) (.cons (.const (.int 13)) .nil))) .nil))) [.val N, .val (.tup t)] = (one ((opF .index [.tup t, K]).map fun r => [r])) := by
    intro t
    (((try simp (config := {failIfUnchanged := false}) only [ev1_eq, evT_eq, evI_eq, one_some, theItems_some, truthR_some, evq_const, evq_var, evq_op, evq_nil, evq_cons, evq_star, evq_and, evq_or, evq_not, evq_ite, evq_call, evq_tup, evq_list, evq_comp, evq_comp2, evq_comp3, evq_mapF, evq_seqI, evq_rangeI, evq_enumI, evq_setI, fzAll, ownAt, Mine.R.ds, Mine.R.fz, Mine.D.truth, List.map_cons, List.map_nil, List.getElem?_cons_zero, List.getElem?_cons_succ, List.getElem?_nil, Option.map_some, Option.map_none, List.set_cons_zero, List.set_cons_succ, List.getElem?_set, List.length_set, Nat.reduceLT, eq_str, ne_str, notin_str, in_str1, replace1, List.cons.injEq, and_true, and_false, true_and, false_and, Nat.reduceEqDiff, decide_true, decide_false, reduceCtorEq, Bool.not_true, Bool.not_false, Nat.reduceAdd, List.isEmpty_cons, List.isEmpty_nil, Nat.reduceLeDiff, Nat.zero_le, Option.isSome_some, Option.isSome_none, noApp_eq, List.all_cons, List.all_nil, appOK_val, appOK_own, appOK_unset, appOK_app, Bool.and_true, Bool.true_and, reduceIte, List.mem_cons, List.not_mem_nil, or_false, false_or, or_true, true_or, itemsOf, Option.bind_some, compGo, turnD_tt, o_len, o_lens, o_sub, o_neg, o_addi, o_startswith, o_endswith, le_lim, lt_lim, List.length_cons, List.length_nil, Nat.zero_add, *]) <;> rfl))
  unfold s_law_dressed
  refine ⟨_, R_seq (R_assign (d := .tup tab13) (by kernel_rfl) rfl) (R_next (R_seq (R_ret ((h3 tab13).trans ?_)) R_out_ret))⟩
  rw [h2]; rfl
end Mine
end PT03x
section P9x
open PySem PySem.StrLaws PySem.Builtin PySem.Builtin.Str
namespace Mine
section
variable {fns : Nat → Option Fn}
theorem dirname_core (h2 : fns 2 = some fn_fspath) (h3 : fns 3 = some fn_get_sep) (h6 : fns 6 = some fn_dirname) (m : Nat) {l x z : List Nat} {r i n : D} {e : D} (hr : opF .rfind [.str l, .str [47]] = some (.val r)) (ha : opF .add [r, .int 1] = some (.val i))
    (s1 : opF .slice [.str l, .none, i] = some (.val (.str x))) (hn : opF .len [.str x] = some (.val n)) (hm : opF .mul [.str [47], n] = some (.val e)) {b : Bool} (he : opF .ne [.str x, e] = some (.val (.bool b)))
    (hs : opF .rstrip [.str x, .str [47]] = some (.val (.str z))) : callF fns (m + 2) 6 [.str l] = some (.str (if x ≠ [] ∧ b = true then z else x)) := by
  refine C_call h6 (ρ := [.val (.str l), .unset, .unset, .unset]) rfl ?_
  show ∃ ρ', ex (callF fns (m + 1)) s_dirname _ = _
  have f1 := fspath_ok h2 m l
  have f2 := get_sep_ok h3 m l
  unfold s_dirname
  by_cases hx : x = []
  · subst hx
    simp only [ne_eq, not_true, false_and, if_false]
    refine ⟨?w1, ?h1⟩
    case h1 => (repeat' (first | with_reducible (first | exact R_skip | exact R_brk | exact R_cont | apply R_seq | exact R_out_brk | exact R_out_cont | exact R_out_ret | refine R_next ?_ | apply R_ite | refine R_tt ?_ | refine R_ff ?_ | apply R_while | apply R_whileGo | exact R_wDone | apply R_wGo | refine R_wNext ?_ | refine R_wCont ?_ | exact R_wBrk | exact R_wRet | apply R_for | exact R_forNil | apply R_forCons | refine R_fNext ?_ | refine R_fCont ?_ | exact R_fBrk | exact R_fRet | apply R_assign | apply R_assign2 | apply R_appendVia | apply R_append | apply R_alias | apply R_ret | apply R_assignO | apply R_setItem | apply R_delItem | apply R_augItem | apply R_fz | apply R_aug) | (((try simp (config := {failIfUnchanged := false}) only [ev1_eq, evT_eq, evI_eq, one_some, theItems_some, truthR_some, evq_const, evq_var, evq_op, evq_nil, evq_cons, evq_star, evq_and, evq_or, evq_not, evq_ite, evq_call, evq_tup, evq_list, evq_comp, evq_comp2, evq_comp3, evq_mapF, evq_seqI, evq_rangeI, evq_enumI, evq_setI, fzAll, ownAt, Mine.R.ds, Mine.R.fz, Mine.D.truth, List.map_cons, List.map_nil, List.getElem?_cons_zero, List.getElem?_cons_succ, List.getElem?_nil, Option.map_some, Option.map_none, List.set_cons_zero, List.set_cons_succ, List.getElem?_set, List.length_set, Nat.reduceLT, eq_str, ne_str, notin_str, in_str1, replace1, List.cons.injEq, and_true, and_false, true_and, false_and, Nat.reduceEqDiff, decide_true, decide_false, reduceCtorEq, Bool.not_true, Bool.not_false, Nat.reduceAdd, List.isEmpty_cons, List.isEmpty_nil, Nat.reduceLeDiff, Nat.zero_le, Option.isSome_some, Option.isSome_none, noApp_eq, List.all_cons, List.all_nil, appOK_val, appOK_own, appOK_unset, appOK_app, Bool.and_true, Bool.true_and, reduceIte, List.mem_cons, List.not_mem_nil, or_false, false_or, or_true, true_or, itemsOf, Option.bind_some, compGo, turnD_tt, o_len, o_lens, o_sub, o_neg, o_addi, o_startswith, o_endswith, le_lim, lt_lim, List.length_cons, List.length_nil, Nat.zero_add, *]) <;> rfl)) | (show (_ : Nat) < lim; decide) | decide))
  · have hx' : x.isEmpty = false := by cases x <;> first | rfl | exact absurd rfl hx
    cases b with
    | true =>
      simp only [ne_eq, hx, not_false_eq_true, and_self, if_true]
      refine ⟨?w2, ?h2⟩
      case h2 => (repeat' (first | with_reducible (first | exact R_skip | exact R_brk | exact R_cont | apply R_seq | exact R_out_brk | exact R_out_cont | exact R_out_ret | refine R_next ?_ | apply R_ite | refine R_tt ?_ | refine R_ff ?_ | apply R_while | apply R_whileGo | exact R_wDone | apply R_wGo | refine R_wNext ?_ | refine R_wCont ?_ | exact R_wBrk | exact R_wRet | apply R_for | exact R_forNil | apply R_forCons | refine R_fNext ?_ | refine R_fCont ?_ | exact R_fBrk | exact R_fRet | apply R_assign | apply R_assign2 | apply R_appendVia | apply R_append | apply R_alias | apply R_ret | apply R_assignO | apply R_setItem | apply R_delItem | apply R_augItem | apply R_fz | apply R_aug) | (((try simp (config := {failIfUnchanged := false}) only [ev1_eq, evT_eq, evI_eq, one_some, theItems_some, truthR_some, evq_const, evq_var, evq_op, evq_nil, evq_cons, evq_star, evq_and, evq_or, evq_not, evq_ite, evq_call, evq_tup, evq_list, evq_comp, evq_comp2, evq_comp3, evq_mapF, evq_seqI, evq_rangeI, evq_enumI, evq_setI, fzAll, ownAt, Mine.R.ds, Mine.R.fz, Mine.D.truth, List.map_cons, List.map_nil, List.getElem?_cons_zero, List.getElem?_cons_succ, List.getElem?_nil, Option.map_some, Option.map_none, List.set_cons_zero, List.set_cons_succ, List.getElem?_set, List.length_set, Nat.reduceLT, eq_str, ne_str, notin_str, in_str1, replace1, List.cons.injEq, and_true, and_false, true_and, false_and, Nat.reduceEqDiff, decide_true, decide_false, reduceCtorEq, Bool.not_true, Bool.not_false, Nat.reduceAdd, List.isEmpty_cons, List.isEmpty_nil, Nat.reduceLeDiff, Nat.zero_le, Option.isSome_some, Option.isSome_none, noApp_eq, List.all_cons, List.all_nil, appOK_val, appOK_own, appOK_unset, appOK_app, Bool.and_true, Bool.true_and, reduceIte, List.mem_cons, List.not_mem_nil, or_false, false_or, or_true, true_or, itemsOf, Option.bind_some, compGo, turnD_tt, o_len, o_lens, o_sub, o_neg, o_addi, o_startswith, o_endswith, le_lim, lt_lim, List.length_cons, List.length_nil, Nat.zero_add, *]) <;> rfl)) | (show (_ : Nat) < lim; decide) | decide))
    | false =>
      simp only [ne_eq, hx, not_false_eq_true, and_false, if_false, Bool.false_eq_true]
      refine ⟨?w3, ?h3⟩
      case h3 => (repeat' (first | with_reducible (first | exact R_skip | exact R_brk | exact R_cont | apply R_seq | exact R_out_brk | exact R_out_cont | exact R_out_ret | refine R_next ?_ | apply R_ite | refine R_tt ?_ | refine R_ff ?_ | apply R_while | apply R_whileGo | exact R_wDone | apply R_wGo | refine R_wNext ?_ | refine R_wCont ?_ | exact R_wBrk | exact R_wRet | apply R_for | exact R_forNil | apply R_forCons | refine R_fNext ?_ | refine R_fCont ?_ | exact R_fBrk | exact R_fRet | apply R_assign | apply R_assign2 | apply R_appendVia | apply R_append | apply R_alias | apply R_ret | apply R_assignO | apply R_setItem | apply R_delItem | apply R_augItem | apply R_fz | apply R_aug) | (((try simp (config := {failIfUnchanged := false}) only [ev1_eq, evT_eq, evI_eq, one_some, theItems_some, truthR_some, evq_const, evq_var, evq_op, evq_nil, evq_cons, evq_star, evq_and, evq_or, evq_not, evq_ite, evq_call, evq_tup, evq_list, evq_comp, evq_comp2, evq_comp3, evq_mapF, evq_seqI, evq_rangeI, evq_enumI, evq_setI, fzAll, ownAt, Mine.R.ds, Mine.R.fz, Mine.D.truth, List.map_cons, List.map_nil, List.getElem?_cons_zero, List.getElem?_cons_succ, List.getElem?_nil, Option.map_some, Option.map_none, List.set_cons_zero, List.set_cons_succ, List.getElem?_set, List.length_set, Nat.reduceLT, eq_str, ne_str, notin_str, in_str1, replace1, List.cons.injEq, and_true, and_false, true_and, false_and, Nat.reduceEqDiff, decide_true, decide_false, reduceCtorEq, Bool.not_true, Bool.not_false, Nat.reduceAdd, List.isEmpty_cons, List.isEmpty_nil, Nat.reduceLeDiff, Nat.zero_le, Option.isSome_some, Option.isSome_none, noApp_eq, List.all_cons, List.all_nil, appOK_val, appOK_own, appOK_unset, appOK_app, Bool.and_true, Bool.true_and, reduceIte, List.mem_cons, List.not_mem_nil, or_false, false_or, or_true, true_or, itemsOf, Option.bind_some, compGo, turnD_tt, o_len, o_lens, o_sub, o_neg, o_addi, o_startswith, o_endswith, le_lim, lt_lim, List.length_cons, List.length_nil, Nat.zero_add, *]) <;> rfl)) | (show (_ : Nat) < lim; decide) | decide))
theorem dirname_no (h2 : fns 2 = some fn_fspath) (h3 : fns 3 = some fn_get_sep) (h6 : fns 6 = some fn_dirname) (m : Nat) {l : List Nat} (h : 47 ∉ l) : callF fns (m + 2) 6 [.str l] = some (.str []) := by
  have := dirname_core h2 h3 h6 m (l := l) (x := []) (z := []) (r := .int (-1)) (i := .int 0) (n := .int 0) (e := .str []) (b := false) (o_rfind_no h) rfl (o_to (x := []) (y := l) (by simp)) rfl rfl rfl rfl
  simpa using this
theorem dirname_at (h2 : fns 2 = some fn_fspath) (h3 : fns 3 = some fn_get_sep) (h6 : fns 6 = some fn_dirname) (m : Nat) {x y : List Nat} (h : 47 ∉ y) (hl : x.length < 1000000) :
    callF fns (m + 2) 6 [.str (x ++ 47 :: y)] = some (.str (strip0 (x ++ [47]))) := by
  have e : x ++ 47 :: y = (x ++ [47]) ++ y := by simp
  have hlen : ((x ++ [47]).length : Int) = (x.length : Int) + 1 := by simp
  have := dirname_core h2 h3 h6 m (l := x ++ 47 :: y) (x := x ++ [47]) (z := ((x ++ [47]).reverse.dropWhile fun c => c == 47).reverse) (r := .int (x.length : Int)) (i := .int ((x ++ [47]).length : Int)) (n := .int ((x ++ [47]).length : Int))
    (e := .str (List.replicate (x ++ [47]).length 47)) (b := !decide (x ++ [47] = List.replicate (x ++ [47]).length 47)) (o_rfind_at h) (by rw [hlen]; rfl) (by rw [e]; exact o_to (by simp; omega)) rfl (o_mulsep (by unfold lim; simp; omega)) rfl o_rstrip
  rw [this]
  unfold strip0
  by_cases hx : x ++ [47] = List.replicate (x ++ [47]).length 47
  · rw [if_pos hx, if_neg (by rintro ⟨_, q⟩; rw [Bool.not_eq_true', decide_eq_false_iff_not] at q; exact q hx)]
  · rw [if_neg hx, if_pos ⟨by simp, by rw [Bool.not_eq_true', decide_eq_false_iff_not]; exact hx⟩]
end
noncomputable def NameOK (w : List Nat) : Prop := w ≠ [] ∧ 47 ∉ w
noncomputable def txt : List (List Nat) → List Nat
  | [] => []
  | w :: ws => ws.foldl (fun p b => p ++ 47 :: b) w
theorem txt_one (w : List Nat) : txt [w] = w := rfl
theorem txt_snoc {d : List (List Nat)} (h : d ≠ []) (w : List Nat) : txt (d ++ [w]) = txt d ++ 47 :: w := by
  cases d with
  | nil => exact absurd rfl h
  | cons a d =>
    show (d ++ [w]).foldl _ a = _
    rw [List.foldl_append]
    rfl
theorem txt_end : ∀ {d : List (List Nat)}, d ≠ [] → (∀ w ∈ d, NameOK w) → ∃ t c, txt d = t ++ [c] ∧ c ≠ 47 := by
  intro d h0 h
  rcases List.eq_nil_or_concat d with e | ⟨d', w, e⟩
  · exact absurd e h0
  · rw [List.concat_eq_append] at e
    subst e
    obtain ⟨w0, w1⟩ := h w (by simp)
    rcases List.eq_nil_or_concat w with e | ⟨w', c, e⟩
    · exact absurd e w0
    · rw [List.concat_eq_append] at e
      subst e
      have hc : c ≠ 47 := fun q => w1 (by rw [q]; simp)
      by_cases h1 : d' = []
      · subst h1
        exact ⟨w', c, rfl, hc⟩
      · exact ⟨txt d' ++ 47 :: w', c, by rw [txt_snoc h1]; simp, hc⟩
theorem txt_ne {d : List (List Nat)} (h0 : d ≠ []) (h : ∀ w ∈ d, NameOK w) : txt d ≠ [] := by
  obtain ⟨t, c, e, _⟩ := txt_end h0 h
  rw [e]; simp
theorem strip0_txt {d : List (List Nat)} (h0 : d ≠ []) (h : ∀ w ∈ d, NameOK w) : strip0 (txt d ++ [47]) = txt d := by
  obtain ⟨t, c, e, hc⟩ := txt_end h0 h
  rw [e]
  unfold strip0
  rw [if_neg]
  · have hcb : (c == 47) = false := by simp [hc]
    simp [List.reverse_append, List.dropWhile_cons, hcb]
  · intro q
    have : c ∈ t ++ [c] ++ [47] := by simp
    rw [q] at this
    exact hc (List.eq_of_mem_replicate this)
theorem txt_len : ∀ {d : List (List Nat)} {k : Nat}, (∀ w ∈ d, w.length ≤ k) → (txt d).length ≤ (k + 1) * d.length := by
  intro d
  induction h : d.length generalizing d with
  | zero =>
    intro k _
    rw [List.length_eq_zero_iff.mp h]; simp [txt]
  | succ n ih =>
    intro k hk
    rcases List.eq_nil_or_concat d with e | ⟨d', w, e⟩
    · subst e; cases h
    · rw [List.concat_eq_append] at e
      subst e
      have hn : d'.length = n := by simpa using h
      have hw := hk w (by simp)
      have := ih hn fun w hw => hk w (List.mem_append_left _ hw)
      by_cases h1 : d' = []
      · subst h1
        simp only [List.nil_append, txt_one]
        have : (k + 1) * (n + 1) ≥ k + 1 := Nat.le_mul_of_pos_right _ (by omega)
        omega
      · rw [txt_snoc h1]
        simp only [List.length_append, List.length_cons]
        rw [Nat.mul_succ]
        omega
section
variable {fns : Nat → Option Fn}
theorem split_txt (h2 : fns 2 = some fn_fspath) (h3 : fns 3 = some fn_get_sep) (h5 : fns 5 = some fn_split) (m : Nat) {d : List (List Nat)} {w : List Nat} (hd : ∀ w ∈ d, NameOK w) (hw : NameOK w) (hl : (txt d).length < 1000000) : callF fns (m + 2) 5 [.str (txt (d ++ [w]))] = some (.tup [.str (txt d), .str w]) := by
  by_cases h0 : d = []
  · subst h0
    exact split_no h2 h3 h5 m hw.2
  · rw [txt_snoc h0, split_at h2 h3 h5 m hw.2 hl, strip0_txt h0 hd]
theorem dirname_txt (h2 : fns 2 = some fn_fspath) (h3 : fns 3 = some fn_get_sep) (h6 : fns 6 = some fn_dirname) (m : Nat) {d : List (List Nat)} {w : List Nat} (hd : ∀ w ∈ d, NameOK w) (hw : NameOK w) (hl : (txt d).length < 1000000) : callF fns (m + 2) 6 [.str (txt (d ++ [w]))] = some (.str (txt d)) := by
  by_cases h0 : d = []
  · subst h0
    exact dirname_no h2 h3 h6 m hw.2
  · rw [txt_snoc h0, dirname_at h2 h3 h6 m hw.2 hl, strip0_txt h0 hd]
theorem joinP_names : ∀ {bs : List (List Nat)} {p : List Nat}, p ≠ [] → p.getLast? ≠ some 47 → (∀ w ∈ bs, NameOK w) → joinP p bs = bs.foldl (fun p b => p ++ 47 :: b) p
  | [], _, _, _, _ => rfl
  | b :: bs, p, h0, h1, h => by
    obtain ⟨b0, b1⟩ := h b List.mem_cons_self
    have e : join1 p b = p ++ 47 :: b := by
      unfold join1
      rw [if_neg (by
        rintro (q | q)
        · exact b1 (List.mem_of_head? q)
        · exact h0 q), if_neg h1]
    show joinP (join1 p b) bs = _
    rw [e]
    refine joinP_names (by simp) ?_ fun w hw => h w (List.mem_cons_of_mem _ hw)
    intro q
    rcases List.eq_nil_or_concat b with q2 | ⟨b', c, q2⟩
    · exact b0 q2
    · rw [List.concat_eq_append] at q2
      subst q2
      have e3 : (p ++ 47 :: (b' ++ [c])) = (p ++ 47 :: b') ++ [c] := by simp
      rw [e3, List.getLast?_append] at q
      have e4 : c = 47 := by simpa using q
      exact b1 (by rw [e4]; simp)
theorem join_txt (h2 : fns 2 = some fn_fspath) (h3 : fns 3 = some fn_get_sep) (h4 : fns 4 = some fn_join) (m : Nat) {w : List Nat} {bs : List (List Nat)} (hw : NameOK w) (h : ∀ w ∈ bs, NameOK w) (hl : w.length + lenS bs ≤ lim) (hn : bs.length < lim) :
    callF fns (m + 2) 4 ((w :: bs).map .str) = some (.str (txt (w :: bs))) := by
  have := join_ok h2 h3 h4 m hl hn
  rw [joinP_names hw.1 (fun q => hw.2 (List.mem_of_getLast? q)) h] at this
  exact this
end
noncomputable def nD (n : List (List Nat)) : D := .list (n.map .str)
noncomputable def tD (t : List (List (List Nat))) : List D := t.map nD
theorem eqv_str {a b : List Nat} : PyData.eqv (D.str a).toPy (D.str b).toPy = decide (a = b) := by
  have h := fun (x y : PySem.Str) => (show PyData.eqv (.str x) (.str y) = (x == y) from by simp [PyData.eqv])
  show PyData.eqv (.str ⟨a.toArray⟩) (.str ⟨b.toArray⟩) = _
  rw [h]
  by_cases e : a = b
  · subst e; simp
  · rw [decide_eq_false e, beq_eq_false_iff_ne]
    intro q
    exact e (by simpa using q)
theorem eqvs_str : ∀ {a b : List (List Nat)}, PyData.eqvAll (D.toPys (a.map .str)) (D.toPys (b.map .str)) = decide (a = b)
  | [], [] => rfl
  | [], _ :: _ => by simp [D.toPys, PyData.eqvAll]
  | _ :: _, [] => by simp [D.toPys, PyData.eqvAll]
  | x :: a, y :: b => by
    simp only [List.map_cons, D.toPys, PyData.eqvAll, eqv_str, eqvs_str (a := a) (b := b)]
    by_cases h1 : x = y <;> by_cases h2 : a = b <;> simp [h1, h2]
theorem eqv_nD {a b : List (List Nat)} : PyData.eqv (nD a).toPy (nD b).toPy = decide (a = b) := by
  unfold nD D.toPy
  rw [PyData.eqv]
  exact eqvs_str
theorem oks_str : ∀ {k : Nat} {l : List (List Nat)}, D.oks (k + 1) (l.map .str) = true
  | _, [] => rfl
  | k, s :: l => by
    rw [List.map_cons]
    unfold D.oks
    rw [oks_str]; rfl
theorem ok_nD {k : Nat} {n : List (List Nat)} : (nD n).ok (k + 2) = true := by
  unfold nD D.ok
  exact oks_str
theorem oks_tD : ∀ {k : Nat} {t : List (List (List Nat))}, D.oks (k + 2) (tD t) = true
  | _, [] => rfl
  | k, n :: t => by
    show D.oks (k + 2) (nD n :: tD t) = true
    unfold D.oks
    rw [ok_nD, oks_tD]; rfl
theorem o_eq_nD {a b : List (List Nat)} : opF .eq [nD a, nD b] = some (.val (.bool (decide (a = b)))) := by
  have e : eqD (nD a) (nD b) = some (decide (a = b)) := by
    show (if ((nD a).ok 9 && (nD b).ok 9) = true then some (PyData.eqv (nD a).toPy (nD b).toPy) else none) = _
    rw [ok_nD, ok_nD, eqv_nD]; rfl
  show (eqD (nD a) (nD b)).map (fun x => R.val (.bool x)) = _
  rw [e]; rfl
theorem any_tD {a : List (List Nat)} : ∀ {t : List (List (List Nat))}, ((D.toPys (tD t)).any fun y => PyData.eqv y (nD a).toPy) = decide (a ∈ t)
  | [] => by simp [tD, D.toPys]
  | n :: t => by
    show ((D.toPys (nD n :: tD t)).any _) = _
    unfold D.toPys
    rw [List.any_cons, eqv_nD, any_tD]
    by_cases h1 : n = a
    · subst h1; simp
    · have h1' : ¬ a = n := fun e => h1 e.symm
      by_cases h2 : a ∈ t <;> simp [h1, h1', h2]
theorem in_tD {a : List (List Nat)} {t : List (List (List Nat))} : inD (nD a) (.list (tD t)) = some (decide (a ∈ t)) := by
  show (if (D.oks 8 (tD t) && (nD a).ok 9) = true then some ((D.toPys (tD t)).any fun y => PyData.eqv y (nD a).toPy) else none) = _
  rw [oks_tD, ok_nD, any_tD]; rfl
theorem o_notin_tD {a : List (List Nat)} {t : List (List (List Nat))} : opF .notin [nD a, .list (tD t)] = some (.val (.bool (!decide (a ∈ t)))) := by
  show ((inD (nD a) (.list (tD t))).map (!·)).map (fun x => R.val (.bool x)) = _
  rw [in_tD]; rfl
end Mine
end P9x
section P03ax
open PySem PySem.StrLaws PySem.Builtin PySem.Builtin.Str
namespace Mine
set_option genInjectivity false in
structure Rule where
  b : Bool
  kd : Nat
  c1 : Nat
  c2 : Nat
set_option genInjectivity false in
structure RuleOK (r : Rule) : Prop where
  kd : r.kd < 3
  c1 : r.c1 < 13
  c2 : r.c2 < 13
noncomputable def Rule.D (r : Rule) : D := .tup [.bool r.b, .int (r.kd : Int), .list (tM r.c1), .list (tM r.c2), .list [.list (tP r.c1), .list (tP r.c2)]]
noncomputable abbrev Names := List (List Nat)
noncomputable def hitR (r : Rule) (d : Names) (w : List Nat) : Bool := mB r.c1 w && (if r.kd = 0 then true else if r.kd = 1 then decide (d = []) else decide (d.length = 1) && mB r.c2 (d.headD []))
noncomputable def outM (R : List Rule) (d : Names) (w : List Nat) : Bool := R.foldl (fun o r => if hitR r d w then r.b else o) false
theorem word_name {w : List Nat} (h : w ∈ words6) : NameOK w := by
  unfold words6 at h
  simp only [List.mem_cons, List.not_mem_nil, or_false] at h
  rcases h with rfl | rfl | rfl | rfl | rfl | rfl <;> exact ⟨by decide, by decide⟩
theorem word_len {w : List Nat} (h : w ∈ words6) : w.length ≤ 3 := by
  unfold words6 at h
  simp only [List.mem_cons, List.not_mem_nil, or_false] at h
  rcases h with rfl | rfl | rfl | rfl | rfl | rfl <;> decide
set_option genInjectivity false in
structure NamesOK (d : Names) : Prop where
  ok : ∀ w ∈ d, w ∈ words6
  len : d.length ≤ 3
theorem NamesOK.names {d : Names} (h : NamesOK d) : ∀ w ∈ d, NameOK w := fun w hw => word_name (h.ok w hw)
theorem NamesOK.txt {d : Names} (h : NamesOK d) : (txt d).length ≤ 12 := by
  have := txt_len (d := d) (k := 3) fun w hw => word_len (h.ok w hw)
  have := h.len
  omega
theorem NamesOK.pre {d : Names} {w : List Nat} (h : NamesOK (d ++ [w])) : NamesOK d := ⟨fun v hv => h.ok v (List.mem_append_left _ hv), by have := h.len; simp at this; omega⟩
theorem NamesOK.last {d : Names} {w : List Nat} (h : NamesOK (d ++ [w])) : w ∈ words6 := h.ok w (by simp)
theorem hits_ok (m : Nat) {r : Rule} (hr : RuleOK r) {d : Names} {w : List Nat} (h : NamesOK (d ++ [w])) : callF fns03 (m + 4) 23 [r.D, .str (txt (d ++ [w])), .tok 0] = some (.bool (hitR r d w)) := by
  have hd := h.pre
  have hw := h.last
  have hs := split_txt (fns := fns03) rfl rfl rfl (m + 1) hd.names (word_name hw) (by have := hd.txt; omega)
  have ht := takes13 (m + 1) hr.c1 hw
  have hk0 : opF .eq [.int (r.kd : Int), .int 0] = some (.val (.bool (decide (r.kd = 0)))) := by rw [o_eqi]; congr 4; simp only [eq_iff_iff]; omega
  have hk1 : opF .eq [.int (r.kd : Int), .int 1] = some (.val (.bool (decide (r.kd = 1)))) := by rw [o_eqi]; congr 4; simp only [eq_iff_iff]; omega
  refine C_call (fn := fn_law_hits) rfl (ρ := [.val r.D, .val (.str (txt (d ++ [w]))), .val (.tok 0), .unset, .unset]) rfl ?_
  show ∃ ρ', ex (callF fns03 (m + 3)) s_law_hits _ = _
  have hdir : ∀ a b, d = a :: b :: [] ++ [] ∨ d.length ≠ 1 → True := fun _ _ _ => trivial
  unfold hitR Rule.D
  have i1 : ∀ {a b c e f : D}, opF .index [.tup [a, b, c, e, f], .int 1] = some (.val b) := rfl
  have i4 : ∀ {a b c e f : D}, opF .index [.tup [a, b, c, e, f], .int 4] = some (.val f) := rfl
  have j0 : ∀ {a b : D}, opF .index [.list [a, b], .int 0] = some (.val a) := rfl
  have j1 : ∀ {a b : D}, opF .index [.list [a, b], .int 1] = some (.val b) := rfl
  generalize hcf : callF fns03 (m + 3) = cf at *
  generalize D.int (r.kd : Int) = KD at *
  by_cases hb : mB r.c1 w = true
  case neg =>
    have hb : mB r.c1 w = false := by simpa using hb
    rw [hb] at ht ⊢
    simp only [Bool.false_and]
    generalize tP r.c1 = p1 at *
    generalize tP r.c2 = p2 at *
    refine ⟨?w0, ?h0⟩
    case h0 => unfold s_law_hits; (repeat' (first | with_reducible (first | exact R_skip | exact R_brk | exact R_cont | apply R_seq | exact R_out_brk | exact R_out_cont | exact R_out_ret | refine R_next ?_ | apply R_ite | refine R_tt ?_ | refine R_ff ?_ | apply R_while | apply R_whileGo | exact R_wDone | apply R_wGo | refine R_wNext ?_ | refine R_wCont ?_ | exact R_wBrk | exact R_wRet | apply R_for | exact R_forNil | apply R_forCons | refine R_fNext ?_ | refine R_fCont ?_ | exact R_fBrk | exact R_fRet | apply R_assign | apply R_assign2 | apply R_appendVia | apply R_append | apply R_alias | apply R_ret | apply R_assignO | apply R_setItem | apply R_delItem | apply R_augItem | apply R_fz | apply R_aug) | (((try simp (config := {failIfUnchanged := false}) only [ev1_eq, evT_eq, evI_eq, one_some, theItems_some, truthR_some, evq_const, evq_var, evq_op, evq_nil, evq_cons, evq_star, evq_and, evq_or, evq_not, evq_ite, evq_call, evq_tup, evq_list, evq_comp, evq_comp2, evq_comp3, evq_mapF, evq_seqI, evq_rangeI, evq_enumI, evq_setI, fzAll, ownAt, Mine.R.ds, Mine.R.fz, Mine.D.truth, List.map_cons, List.map_nil, List.getElem?_cons_zero, List.getElem?_cons_succ, List.getElem?_nil, Option.map_some, Option.map_none, List.set_cons_zero, List.set_cons_succ, List.getElem?_set, List.length_set, Nat.reduceLT, eq_str, ne_str, notin_str, in_str1, replace1, List.cons.injEq, and_true, and_false, true_and, false_and, Nat.reduceEqDiff, decide_true, decide_false, reduceCtorEq, Bool.not_true, Bool.not_false, Nat.reduceAdd, List.isEmpty_cons, List.isEmpty_nil, Nat.reduceLeDiff, Nat.zero_le, Option.isSome_some, Option.isSome_none, noApp_eq, List.all_cons, List.all_nil, appOK_val, appOK_own, appOK_unset, appOK_app, Bool.and_true, Bool.true_and, reduceIte, List.mem_cons, List.not_mem_nil, or_false, false_or, or_true, true_or, itemsOf, Option.bind_some, compGo, turnD_tt, o_len, o_lens, o_sub, o_neg, o_addi, o_startswith, o_endswith, le_lim, lt_lim, List.length_cons, List.length_nil, Nat.zero_add, *]) <;> rfl)) | (show (_ : Nat) < lim; decide) | decide))
  case pos =>
  rw [hb] at ht ⊢
  simp only [Bool.true_and]
  by_cases k0 : r.kd = 0
  · rw [decide_eq_true k0] at hk0
    rw [if_pos k0]
    generalize tP r.c1 = p1 at *
    generalize tP r.c2 = p2 at *
    refine ⟨?w1, ?h1⟩
    case h1 => unfold s_law_hits; (repeat' (first | with_reducible (first | exact R_skip | exact R_brk | exact R_cont | apply R_seq | exact R_out_brk | exact R_out_cont | exact R_out_ret | refine R_next ?_ | apply R_ite | refine R_tt ?_ | refine R_ff ?_ | apply R_while | apply R_whileGo | exact R_wDone | apply R_wGo | refine R_wNext ?_ | refine R_wCont ?_ | exact R_wBrk | exact R_wRet | apply R_for | exact R_forNil | apply R_forCons | refine R_fNext ?_ | refine R_fCont ?_ | exact R_fBrk | exact R_fRet | apply R_assign | apply R_assign2 | apply R_appendVia | apply R_append | apply R_alias | apply R_ret | apply R_assignO | apply R_setItem | apply R_delItem | apply R_augItem | apply R_fz | apply R_aug) | (((try simp (config := {failIfUnchanged := false}) only [ev1_eq, evT_eq, evI_eq, one_some, theItems_some, truthR_some, evq_const, evq_var, evq_op, evq_nil, evq_cons, evq_star, evq_and, evq_or, evq_not, evq_ite, evq_call, evq_tup, evq_list, evq_comp, evq_comp2, evq_comp3, evq_mapF, evq_seqI, evq_rangeI, evq_enumI, evq_setI, fzAll, ownAt, Mine.R.ds, Mine.R.fz, Mine.D.truth, List.map_cons, List.map_nil, List.getElem?_cons_zero, List.getElem?_cons_succ, List.getElem?_nil, Option.map_some, Option.map_none, List.set_cons_zero, List.set_cons_succ, List.getElem?_set, List.length_set, Nat.reduceLT, eq_str, ne_str, notin_str, in_str1, replace1, List.cons.injEq, and_true, and_false, true_and, false_and, Nat.reduceEqDiff, decide_true, decide_false, reduceCtorEq, Bool.not_true, Bool.not_false, Nat.reduceAdd, List.isEmpty_cons, List.isEmpty_nil, Nat.reduceLeDiff, Nat.zero_le, Option.isSome_some, Option.isSome_none, noApp_eq, List.all_cons, List.all_nil, appOK_val, appOK_own, appOK_unset, appOK_app, Bool.and_true, Bool.true_and, reduceIte, List.mem_cons, List.not_mem_nil, or_false, false_or, or_true, true_or, itemsOf, Option.bind_some, compGo, turnD_tt, o_len, o_lens, o_sub, o_neg, o_addi, o_startswith, o_endswith, le_lim, lt_lim, List.length_cons, List.length_nil, Nat.zero_add, *]) <;> rfl)) | (show (_ : Nat) < lim; decide) | decide))
  · rw [decide_eq_false k0] at hk0
    rw [if_neg k0]
    by_cases k1 : r.kd = 1
    · rw [decide_eq_true k1] at hk1
      rw [if_pos k1]
      have he : decide (txt d = []) = decide (d = []) := by
        by_cases q : d = []
        · subst q; rfl
        · rw [decide_eq_false q, decide_eq_false (txt_ne q hd.names)]
      rw [← he]
      generalize tP r.c1 = p1 at *
      generalize tP r.c2 = p2 at *
      refine ⟨?w2, ?h2⟩
      case h2 => unfold s_law_hits; (repeat' (first | with_reducible (first | exact R_skip | exact R_brk | exact R_cont | apply R_seq | exact R_out_brk | exact R_out_cont | exact R_out_ret | refine R_next ?_ | apply R_ite | refine R_tt ?_ | refine R_ff ?_ | apply R_while | apply R_whileGo | exact R_wDone | apply R_wGo | refine R_wNext ?_ | refine R_wCont ?_ | exact R_wBrk | exact R_wRet | apply R_for | exact R_forNil | apply R_forCons | refine R_fNext ?_ | refine R_fCont ?_ | exact R_fBrk | exact R_fRet | apply R_assign | apply R_assign2 | apply R_appendVia | apply R_append | apply R_alias | apply R_ret | apply R_assignO | apply R_setItem | apply R_delItem | apply R_augItem | apply R_fz | apply R_aug) | (((try simp (config := {failIfUnchanged := false}) only [ev1_eq, evT_eq, evI_eq, one_some, theItems_some, truthR_some, evq_const, evq_var, evq_op, evq_nil, evq_cons, evq_star, evq_and, evq_or, evq_not, evq_ite, evq_call, evq_tup, evq_list, evq_comp, evq_comp2, evq_comp3, evq_mapF, evq_seqI, evq_rangeI, evq_enumI, evq_setI, fzAll, ownAt, Mine.R.ds, Mine.R.fz, Mine.D.truth, List.map_cons, List.map_nil, List.getElem?_cons_zero, List.getElem?_cons_succ, List.getElem?_nil, Option.map_some, Option.map_none, List.set_cons_zero, List.set_cons_succ, List.getElem?_set, List.length_set, Nat.reduceLT, eq_str, ne_str, notin_str, in_str1, replace1, List.cons.injEq, and_true, and_false, true_and, false_and, Nat.reduceEqDiff, decide_true, decide_false, reduceCtorEq, Bool.not_true, Bool.not_false, Nat.reduceAdd, List.isEmpty_cons, List.isEmpty_nil, Nat.reduceLeDiff, Nat.zero_le, Option.isSome_some, Option.isSome_none, noApp_eq, List.all_cons, List.all_nil, appOK_val, appOK_own, appOK_unset, appOK_app, Bool.and_true, Bool.true_and, reduceIte, List.mem_cons, List.not_mem_nil, or_false, false_or, or_true, true_or, itemsOf, Option.bind_some, compGo, turnD_tt, o_len, o_lens, o_sub, o_neg, o_addi, o_startswith, o_endswith, le_lim, lt_lim, List.length_cons, List.length_nil, Nat.zero_add, *]) <;> rfl)) | (show (_ : Nat) < lim; decide) | decide))
    · rw [decide_eq_false k1] at hk1
      rw [if_neg k1]
      by_cases q : d = []
      · subst q
        have : decide (([] : Names).length = 1) = false := rfl
        rw [this]
        simp only [Bool.false_and]
        have e0 : txt [] = [] := rfl
        rw [e0] at hs
        generalize tP r.c1 = p1 at *
        generalize tP r.c2 = p2 at *
        refine ⟨?w3, ?h3⟩
        case h3 => unfold s_law_hits; (repeat' (first | with_reducible (first | exact R_skip | exact R_brk | exact R_cont | apply R_seq | exact R_out_brk | exact R_out_cont | exact R_out_ret | refine R_next ?_ | apply R_ite | refine R_tt ?_ | refine R_ff ?_ | apply R_while | apply R_whileGo | exact R_wDone | apply R_wGo | refine R_wNext ?_ | refine R_wCont ?_ | exact R_wBrk | exact R_wRet | apply R_for | exact R_forNil | apply R_forCons | refine R_fNext ?_ | refine R_fCont ?_ | exact R_fBrk | exact R_fRet | apply R_assign | apply R_assign2 | apply R_appendVia | apply R_append | apply R_alias | apply R_ret | apply R_assignO | apply R_setItem | apply R_delItem | apply R_augItem | apply R_fz | apply R_aug) | (((try simp (config := {failIfUnchanged := false}) only [ev1_eq, evT_eq, evI_eq, one_some, theItems_some, truthR_some, evq_const, evq_var, evq_op, evq_nil, evq_cons, evq_star, evq_and, evq_or, evq_not, evq_ite, evq_call, evq_tup, evq_list, evq_comp, evq_comp2, evq_comp3, evq_mapF, evq_seqI, evq_rangeI, evq_enumI, evq_setI, fzAll, ownAt, Mine.R.ds, Mine.R.fz, Mine.D.truth, List.map_cons, List.map_nil, List.getElem?_cons_zero, List.getElem?_cons_succ, List.getElem?_nil, Option.map_some, Option.map_none, List.set_cons_zero, List.set_cons_succ, List.getElem?_set, List.length_set, Nat.reduceLT, eq_str, ne_str, notin_str, in_str1, replace1, List.cons.injEq, and_true, and_false, true_and, false_and, Nat.reduceEqDiff, decide_true, decide_false, reduceCtorEq, Bool.not_true, Bool.not_false, Nat.reduceAdd, List.isEmpty_cons, List.isEmpty_nil, Nat.reduceLeDiff, Nat.zero_le, Option.isSome_some, Option.isSome_none, noApp_eq, List.all_cons, List.all_nil, appOK_val, appOK_own, appOK_unset, appOK_app, Bool.and_true, Bool.true_and, reduceIte, List.mem_cons, List.not_mem_nil, or_false, false_or, or_true, true_or, itemsOf, Option.bind_some, compGo, turnD_tt, o_len, o_lens, o_sub, o_neg, o_addi, o_startswith, o_endswith, le_lim, lt_lim, List.length_cons, List.length_nil, Nat.zero_add, *]) <;> rfl)) | (show (_ : Nat) < lim; decide) | decide))
      · have hne := txt_ne q hd.names
        rcases List.eq_nil_or_concat d with e | ⟨d', v, e⟩
        · exact absurd e q
        · rw [List.concat_eq_append] at e
          subst e
          have hd' := hd.pre
          have hv := hd.last
          have hdn := dirname_txt (fns := fns03) rfl rfl rfl (m + 1) hd'.names (word_name hv) (by have := hd'.txt; omega)
          rw [hcf] at hdn
          by_cases q2 : d' = []
          · subst q2
            have e1 : decide (([] ++ [v] : Names).length = 1) = true := rfl
            have e2 : (([] ++ [v] : Names).headD []) = v := rfl
            have e3 : txt ([] ++ [v]) = v := rfl
            rw [e1, e2]
            rw [e3] at hdn hs hne
            have e0 : txt [] = [] := rfl
            rw [e0] at hdn
            have ht2 := takes13 (m + 1) hr.c2 hv
            rw [hcf] at ht2
            simp only [Bool.true_and]
            generalize mB r.c2 v = b2 at *
            generalize tP r.c1 = p1 at *
            generalize tP r.c2 = p2 at *
            refine ⟨?w4, ?h4⟩
            case h4 => unfold s_law_hits; (repeat' (first | with_reducible (first | exact R_skip | exact R_brk | exact R_cont | apply R_seq | exact R_out_brk | exact R_out_cont | exact R_out_ret | refine R_next ?_ | apply R_ite | refine R_tt ?_ | refine R_ff ?_ | apply R_while | apply R_whileGo | exact R_wDone | apply R_wGo | refine R_wNext ?_ | refine R_wCont ?_ | exact R_wBrk | exact R_wRet | apply R_for | exact R_forNil | apply R_forCons | refine R_fNext ?_ | refine R_fCont ?_ | exact R_fBrk | exact R_fRet | apply R_assign | apply R_assign2 | apply R_appendVia | apply R_append | apply R_alias | apply R_ret | apply R_assignO | apply R_setItem | apply R_delItem | apply R_augItem | apply R_fz | apply R_aug) | (((try simp (config := {failIfUnchanged := false}) only [ev1_eq, evT_eq, evI_eq, one_some, theItems_some, truthR_some, evq_const, evq_var, evq_op, evq_nil, evq_cons, evq_star, evq_and, evq_or, evq_not, evq_ite, evq_call, evq_tup, evq_list, evq_comp, evq_comp2, evq_comp3, evq_mapF, evq_seqI, evq_rangeI, evq_enumI, evq_setI, fzAll, ownAt, Mine.R.ds, Mine.R.fz, Mine.D.truth, List.map_cons, List.map_nil, List.getElem?_cons_zero, List.getElem?_cons_succ, List.getElem?_nil, Option.map_some, Option.map_none, List.set_cons_zero, List.set_cons_succ, List.getElem?_set, List.length_set, Nat.reduceLT, eq_str, ne_str, notin_str, in_str1, replace1, List.cons.injEq, and_true, and_false, true_and, false_and, Nat.reduceEqDiff, decide_true, decide_false, reduceCtorEq, Bool.not_true, Bool.not_false, Nat.reduceAdd, List.isEmpty_cons, List.isEmpty_nil, Nat.reduceLeDiff, Nat.zero_le, Option.isSome_some, Option.isSome_none, noApp_eq, List.all_cons, List.all_nil, appOK_val, appOK_own, appOK_unset, appOK_app, Bool.and_true, Bool.true_and, reduceIte, List.mem_cons, List.not_mem_nil, or_false, false_or, or_true, true_or, itemsOf, Option.bind_some, compGo, turnD_tt, o_len, o_lens, o_sub, o_neg, o_addi, o_startswith, o_endswith, le_lim, lt_lim, List.length_cons, List.length_nil, Nat.zero_add, *]) <;> rfl)) | (show (_ : Nat) < lim; decide) | decide))
          · have hne2 := txt_ne q2 hd'.names
            have : decide ((d' ++ [v]).length = 1) = false := by
              rw [decide_eq_false]
              cases d' with
              | nil => exact absurd rfl q2
              | cons a b => simp
            rw [this]
            simp only [Bool.false_and]
            generalize txt (d' ++ [v]) = t1 at *
            generalize txt d' = t2 at *
            generalize tP r.c1 = p1 at *
            generalize tP r.c2 = p2 at *
            refine ⟨?w5, ?h5⟩
            case h5 => unfold s_law_hits; (repeat' (first | with_reducible (first | exact R_skip | exact R_brk | exact R_cont | apply R_seq | exact R_out_brk | exact R_out_cont | exact R_out_ret | refine R_next ?_ | apply R_ite | refine R_tt ?_ | refine R_ff ?_ | apply R_while | apply R_whileGo | exact R_wDone | apply R_wGo | refine R_wNext ?_ | refine R_wCont ?_ | exact R_wBrk | exact R_wRet | apply R_for | exact R_forNil | apply R_forCons | refine R_fNext ?_ | refine R_fCont ?_ | exact R_fBrk | exact R_fRet | apply R_assign | apply R_assign2 | apply R_appendVia | apply R_append | apply R_alias | apply R_ret | apply R_assignO | apply R_setItem | apply R_delItem | apply R_augItem | apply R_fz | apply R_aug) | (((try simp (config := {failIfUnchanged := false}) only [ev1_eq, evT_eq, evI_eq, one_some, theItems_some, truthR_some, evq_const, evq_var, evq_op, evq_nil, evq_cons, evq_star, evq_and, evq_or, evq_not, evq_ite, evq_call, evq_tup, evq_list, evq_comp, evq_comp2, evq_comp3, evq_mapF, evq_seqI, evq_rangeI, evq_enumI, evq_setI, fzAll, ownAt, Mine.R.ds, Mine.R.fz, Mine.D.truth, List.map_cons, List.map_nil, List.getElem?_cons_zero, List.getElem?_cons_succ, List.getElem?_nil, Option.map_some, Option.map_none, List.set_cons_zero, List.set_cons_succ, List.getElem?_set, List.length_set, Nat.reduceLT, eq_str, ne_str, notin_str, in_str1, replace1, List.cons.injEq, and_true, and_false, true_and, false_and, Nat.reduceEqDiff, decide_true, decide_false, reduceCtorEq, Bool.not_true, Bool.not_false, Nat.reduceAdd, List.isEmpty_cons, List.isEmpty_nil, Nat.reduceLeDiff, Nat.zero_le, Option.isSome_some, Option.isSome_none, noApp_eq, List.all_cons, List.all_nil, appOK_val, appOK_own, appOK_unset, appOK_app, Bool.and_true, Bool.true_and, reduceIte, List.mem_cons, List.not_mem_nil, or_false, false_or, or_true, true_or, itemsOf, Option.bind_some, compGo, turnD_tt, o_len, o_lens, o_sub, o_neg, o_addi, o_startswith, o_endswith, le_lim, lt_lim, List.length_cons, List.length_nil, Nat.zero_add, *]) <;> rfl)) | (show (_ : Nat) < lim; decide) | decide))
noncomputable def oBody : S := match s_law_out with
  | .seq _ (.seq _ (.seq _ (.seq (.forE _ _ b) _))) => b
  | _ => .skip
section
variable {cf : Nat → List D → Option D} {x0 x2 x3 : Slot} {path : D}
theorem out_turn {r : Rule} {o h : Bool} {j : Slot} {st : D} (hc : cf 23 [r.D, path, st] = some (.bool h)) :
    ex cf oBody [x0, .val path, .val st, x3, .val (.bool o), .val r.D] = some ([x0, .val path, .val st, x3, .val (.bool (if h then r.b else o)), .val r.D], .next) := by
  have i0 : opF .index [r.D, .int 0] = some (.val (.bool r.b)) := rfl
  have hne : opF .ne [.bool r.b, .bool o] = some (.val (.bool (!decide (r.b = o)))) := by
    cases r.b <;> cases o <;> rfl
  generalize r.D = rd at *
  generalize r.b = b at *
  by_cases q : b = o
  · subst q
    have : (if h = true then b else b) = b := by cases h <;> rfl
    rw [this]
    simp only [decide_true, Bool.not_true] at hne
    unfold oBody s_law_out
    (repeat' (first | with_reducible (first | exact R_skip | exact R_brk | exact R_cont | apply R_seq | exact R_out_brk | exact R_out_cont | exact R_out_ret | refine R_next ?_ | apply R_ite | refine R_tt ?_ | refine R_ff ?_ | apply R_while | apply R_whileGo | exact R_wDone | apply R_wGo | refine R_wNext ?_ | refine R_wCont ?_ | exact R_wBrk | exact R_wRet | apply R_for | exact R_forNil | apply R_forCons | refine R_fNext ?_ | refine R_fCont ?_ | exact R_fBrk | exact R_fRet | apply R_assign | apply R_assign2 | apply R_appendVia | apply R_append | apply R_alias | apply R_ret | apply R_assignO | apply R_setItem | apply R_delItem | apply R_augItem | apply R_fz | apply R_aug) | (((try simp (config := {failIfUnchanged := false}) only [ev1_eq, evT_eq, evI_eq, one_some, theItems_some, truthR_some, evq_const, evq_var, evq_op, evq_nil, evq_cons, evq_star, evq_and, evq_or, evq_not, evq_ite, evq_call, evq_tup, evq_list, evq_comp, evq_comp2, evq_comp3, evq_mapF, evq_seqI, evq_rangeI, evq_enumI, evq_setI, fzAll, ownAt, Mine.R.ds, Mine.R.fz, Mine.D.truth, List.map_cons, List.map_nil, List.getElem?_cons_zero, List.getElem?_cons_succ, List.getElem?_nil, Option.map_some, Option.map_none, List.set_cons_zero, List.set_cons_succ, List.getElem?_set, List.length_set, Nat.reduceLT, eq_str, ne_str, notin_str, in_str1, replace1, List.cons.injEq, and_true, and_false, true_and, false_and, Nat.reduceEqDiff, decide_true, decide_false, reduceCtorEq, Bool.not_true, Bool.not_false, Nat.reduceAdd, List.isEmpty_cons, List.isEmpty_nil, Nat.reduceLeDiff, Nat.zero_le, Option.isSome_some, Option.isSome_none, noApp_eq, List.all_cons, List.all_nil, appOK_val, appOK_own, appOK_unset, appOK_app, Bool.and_true, Bool.true_and, reduceIte, List.mem_cons, List.not_mem_nil, or_false, false_or, or_true, true_or, itemsOf, Option.bind_some, compGo, turnD_tt, o_len, o_lens, o_sub, o_neg, o_addi, o_startswith, o_endswith, le_lim, lt_lim, List.length_cons, List.length_nil, Nat.zero_add, *]) <;> rfl)) | (show (_ : Nat) < lim; decide) | decide))
  · rw [decide_eq_false q] at hne
    cases h with
    | false =>
      simp only [Bool.false_eq_true, if_false]
      unfold oBody s_law_out
      (repeat' (first | with_reducible (first | exact R_skip | exact R_brk | exact R_cont | apply R_seq | exact R_out_brk | exact R_out_cont | exact R_out_ret | refine R_next ?_ | apply R_ite | refine R_tt ?_ | refine R_ff ?_ | apply R_while | apply R_whileGo | exact R_wDone | apply R_wGo | refine R_wNext ?_ | refine R_wCont ?_ | exact R_wBrk | exact R_wRet | apply R_for | exact R_forNil | apply R_forCons | refine R_fNext ?_ | refine R_fCont ?_ | exact R_fBrk | exact R_fRet | apply R_assign | apply R_assign2 | apply R_appendVia | apply R_append | apply R_alias | apply R_ret | apply R_assignO | apply R_setItem | apply R_delItem | apply R_augItem | apply R_fz | apply R_aug) | (((try simp (config := {failIfUnchanged := false}) only [ev1_eq, evT_eq, evI_eq, one_some, theItems_some, truthR_some, evq_const, evq_var, evq_op, evq_nil, evq_cons, evq_star, evq_and, evq_or, evq_not, evq_ite, evq_call, evq_tup, evq_list, evq_comp, evq_comp2, evq_comp3, evq_mapF, evq_seqI, evq_rangeI, evq_enumI, evq_setI, fzAll, ownAt, Mine.R.ds, Mine.R.fz, Mine.D.truth, List.map_cons, List.map_nil, List.getElem?_cons_zero, List.getElem?_cons_succ, List.getElem?_nil, Option.map_some, Option.map_none, List.set_cons_zero, List.set_cons_succ, List.getElem?_set, List.length_set, Nat.reduceLT, eq_str, ne_str, notin_str, in_str1, replace1, List.cons.injEq, and_true, and_false, true_and, false_and, Nat.reduceEqDiff, decide_true, decide_false, reduceCtorEq, Bool.not_true, Bool.not_false, Nat.reduceAdd, List.isEmpty_cons, List.isEmpty_nil, Nat.reduceLeDiff, Nat.zero_le, Option.isSome_some, Option.isSome_none, noApp_eq, List.all_cons, List.all_nil, appOK_val, appOK_own, appOK_unset, appOK_app, Bool.and_true, Bool.true_and, reduceIte, List.mem_cons, List.not_mem_nil, or_false, false_or, or_true, true_or, itemsOf, Option.bind_some, compGo, turnD_tt, o_len, o_lens, o_sub, o_neg, o_addi, o_startswith, o_endswith, le_lim, lt_lim, List.length_cons, List.length_nil, Nat.zero_add, *]) <;> rfl)) | (show (_ : Nat) < lim; decide) | decide))
    | true =>
      simp only [if_true]
      unfold oBody s_law_out
      (repeat' (first | with_reducible (first | exact R_skip | exact R_brk | exact R_cont | apply R_seq | exact R_out_brk | exact R_out_cont | exact R_out_ret | refine R_next ?_ | apply R_ite | refine R_tt ?_ | refine R_ff ?_ | apply R_while | apply R_whileGo | exact R_wDone | apply R_wGo | refine R_wNext ?_ | refine R_wCont ?_ | exact R_wBrk | exact R_wRet | apply R_for | exact R_forNil | apply R_forCons | refine R_fNext ?_ | refine R_fCont ?_ | exact R_fBrk | exact R_fRet | apply R_assign | apply R_assign2 | apply R_appendVia | apply R_append | apply R_alias | apply R_ret | apply R_assignO | apply R_setItem | apply R_delItem | apply R_augItem | apply R_fz | apply R_aug) | (((try simp (config := {failIfUnchanged := false}) only [ev1_eq, evT_eq, evI_eq, one_some, theItems_some, truthR_some, evq_const, evq_var, evq_op, evq_nil, evq_cons, evq_star, evq_and, evq_or, evq_not, evq_ite, evq_call, evq_tup, evq_list, evq_comp, evq_comp2, evq_comp3, evq_mapF, evq_seqI, evq_rangeI, evq_enumI, evq_setI, fzAll, ownAt, Mine.R.ds, Mine.R.fz, Mine.D.truth, List.map_cons, List.map_nil, List.getElem?_cons_zero, List.getElem?_cons_succ, List.getElem?_nil, Option.map_some, Option.map_none, List.set_cons_zero, List.set_cons_succ, List.getElem?_set, List.length_set, Nat.reduceLT, eq_str, ne_str, notin_str, in_str1, replace1, List.cons.injEq, and_true, and_false, true_and, false_and, Nat.reduceEqDiff, decide_true, decide_false, reduceCtorEq, Bool.not_true, Bool.not_false, Nat.reduceAdd, List.isEmpty_cons, List.isEmpty_nil, Nat.reduceLeDiff, Nat.zero_le, Option.isSome_some, Option.isSome_none, noApp_eq, List.all_cons, List.all_nil, appOK_val, appOK_own, appOK_unset, appOK_app, Bool.and_true, Bool.true_and, reduceIte, List.mem_cons, List.not_mem_nil, or_false, false_or, or_true, true_or, itemsOf, Option.bind_some, compGo, turnD_tt, o_len, o_lens, o_sub, o_neg, o_addi, o_startswith, o_endswith, le_lim, lt_lim, List.length_cons, List.length_nil, Nat.zero_add, *]) <;> rfl)) | (show (_ : Nat) < lim; decide) | decide))
theorem out_loop {st : D} {H : Rule → Bool} : ∀ {R : List Rule} {o : Bool} {j : Slot}, (∀ r ∈ R, cf 23 [r.D, path, st] = some (.bool (H r))) →
    ∃ j', forGo (put1 5) (ex cf oBody) (R.map Rule.D) [x0, .val path, .val st, x3, .val (.bool o), j] = some ([x0, .val path, .val st, x3, .val (.bool (R.foldl (fun o r => if H r then r.b else o) o)), j'], .next)
  | [], o, j, _ => ⟨j, rfl⟩
  | r :: R, o, j, h => by
    obtain ⟨j', e⟩ := out_loop (R := R) (o := if H r then r.b else o) (j := .val r.D) fun q hq => h q (List.mem_cons_of_mem _ hq)
    exact ⟨j', R_forCons (st := put1 5) rfl (out_turn (j := j) (h r List.mem_cons_self)) (R_fNext e)⟩
end
end Mine
end P03ax
section P03bx
open PySem PySem.StrLaws PySem.Builtin PySem.Builtin.Str
namespace Mine
noncomputable def outGo (R : List Rule) (pre : Names) : Names → Bool
  | [] => false
  | w :: ws => outM R pre w || outGo R (pre ++ [w]) ws
noncomputable def outAll (R : List Rule) (d : Names) : Bool := outGo R [] d
theorem outGo_snoc {R : List Rule} {w : List Nat} : ∀ {d pre : Names}, outGo R pre (d ++ [w]) = (outGo R pre d || outM R (pre ++ d) w)
  | [], pre => by simp [outGo]
  | v :: d, pre => by
    show (outM R pre v || outGo R (pre ++ [v]) (d ++ [w])) = (outM R pre v || outGo R (pre ++ [v]) d || outM R (pre ++ v :: d) w)
    rw [outGo_snoc, Bool.or_assoc]
    simp
theorem outAll_snoc {R : List Rule} {d : Names} {w : List Nat} : outAll R (d ++ [w]) = (outAll R d || outM R d w) := by
  unfold outAll
  rw [outGo_snoc]; rfl
theorem out_ok {R : List Rule} (hR : ∀ r ∈ R, RuleOK r) : ∀ (k m : Nat) {d : Names} {w : List Nat}, d.length = k → NamesOK (d ++ [w]) → callF fns03 (m + k + 5) 24 [.list (R.map Rule.D), .str (txt (d ++ [w])), .tok 0] = some (.bool (outAll R (d ++ [w]))) := by
  intro k
  induction k with
  | zero =>
    intro m d w hk h
    have hd : d = [] := List.length_eq_zero_iff.mp hk
    subst hd
    have hw := word_name h.last
    rw [outAll_snoc]
    refine C_call (fn := fn_law_out) rfl (ρ := [.val (.list (R.map Rule.D)), .val (.str (txt ([] ++ [w]))), .val (.tok 0), .unset, .unset, .unset]) rfl ?_
    show ∃ ρ', ex (callF fns03 (m + 4)) s_law_out _ = _
    obtain ⟨j', e⟩ := out_loop (cf := callF fns03 (m + 4)) (x0 := .val (.list (R.map Rule.D))) (x3 := .val (.str [])) (path := .str (txt ([] ++ [w]))) (st := .tok 0) (H := fun r => hitR r [] w) (R := R) (o := false) (j := .unset) fun r hr => hits_ok m (hR r hr) h
    have hdn := dirname_txt (fns := fns03) rfl rfl rfl (m + 2) (d := []) (w := w) (fun _ h => nomatch h) hw (by decide)
    have e0 : txt [] = [] := rfl
    rw [e0] at hdn
    have e1 : outAll R [] = false := rfl
    rw [e1, Bool.false_or]
    unfold outM
    unfold oBody s_law_out at e
    unfold s_law_out
    simp only at e ⊢
    refine ⟨_, R_seq (R_assign (d := .str []) ?_ rfl) (R_next (R_seq (R_ite (t := false) rfl (R_ff R_skip)) (R_next (R_seq (R_assign (d := .bool false) rfl rfl) (R_next (R_seq (R_for rfl e) (R_next (R_seq (R_ret rfl) R_out_ret))))))))⟩
    clear e
    generalize callF fns03 (m + 4) = cf at *
    generalize txt ([] ++ [w]) = t at *
    generalize List.map Rule.D R = L at *
    (((try simp (config := {failIfUnchanged := false}) only [ev1_eq, evT_eq, evI_eq, one_some, theItems_some, truthR_some, evq_const, evq_var, evq_op, evq_nil, evq_cons, evq_star, evq_and, evq_or, evq_not, evq_ite, evq_call, evq_tup, evq_list, evq_comp, evq_comp2, evq_comp3, evq_mapF, evq_seqI, evq_rangeI, evq_enumI, evq_setI, fzAll, ownAt, Mine.R.ds, Mine.R.fz, Mine.D.truth, List.map_cons, List.map_nil, List.getElem?_cons_zero, List.getElem?_cons_succ, List.getElem?_nil, Option.map_some, Option.map_none, List.set_cons_zero, List.set_cons_succ, List.getElem?_set, List.length_set, Nat.reduceLT, eq_str, ne_str, notin_str, in_str1, replace1, List.cons.injEq, and_true, and_false, true_and, false_and, Nat.reduceEqDiff, decide_true, decide_false, reduceCtorEq, Bool.not_true, Bool.not_false, Nat.reduceAdd, List.isEmpty_cons, List.isEmpty_nil, Nat.reduceLeDiff, Nat.zero_le, Option.isSome_some, Option.isSome_none, noApp_eq, List.all_cons, List.all_nil, appOK_val, appOK_own, appOK_unset, appOK_app, Bool.and_true, Bool.true_and, reduceIte, List.mem_cons, List.not_mem_nil, or_false, false_or, or_true, true_or, itemsOf, Option.bind_some, compGo, turnD_tt, o_len, o_lens, o_sub, o_neg, o_addi, o_startswith, o_endswith, le_lim, lt_lim, List.length_cons, List.length_nil, Nat.zero_add, *]) <;> rfl))
  | succ k ih =>
    intro m d w hk h
    rcases List.eq_nil_or_concat d with q | ⟨d', v, q⟩
    · subst q; cases hk
    rw [List.concat_eq_append] at q
    have hd0 : d ≠ [] := by rw [q]; simp
    have hw := word_name h.last
    have hd := h.pre
    have hrec : callF fns03 (m + k + 5) 24 [.list (R.map Rule.D), .str (txt d), .tok 0] = some (.bool (outAll R d)) := by
      have := ih m (d := d') (w := v) (by rw [q] at hk; simpa using hk) (by rw [← q]; exact hd)
      rw [← q] at this
      exact this
    have hdn := dirname_txt (fns := fns03) rfl rfl rfl (m + k + 3) (d := d) (w := w) hd.names hw (by have := hd.txt; omega)
    have hne := txt_ne hd0 hd.names
    rw [outAll_snoc]
    refine C_call (fn := fn_law_out) (n := m + k + 5) rfl (ρ := [.val (.list (R.map Rule.D)), .val (.str (txt (d ++ [w]))), .val (.tok 0), .unset, .unset, .unset]) rfl ?_
    show ∃ ρ', ex (callF fns03 (m + k + 5)) s_law_out _ = _
    obtain ⟨j', e⟩ := out_loop (cf := callF fns03 (m + k + 5)) (x0 := .val (.list (R.map Rule.D))) (x3 := .val (.str (txt d))) (path := .str (txt (d ++ [w]))) (st := .tok 0) (H := fun r => hitR r d w) (R := R) (o := false) (j := .unset) fun r hr => hits_ok (m + k + 1) (hR r hr) h
    unfold outM
    generalize List.foldl (fun o r => if hitR r d w = true then r.b else o) false R = ob at *
    unfold oBody s_law_out at e
    unfold s_law_out
    simp only at e ⊢
    have hdn' : callF fns03 (m + k + 5) 6 [.str (txt (d ++ [w]))] = some (.str (txt d)) := hdn
    generalize callF fns03 (m + k + 5) = cf at *
    generalize txt (d ++ [w]) = t at *
    generalize txt d = t2 at *
    generalize List.map Rule.D R = L at *
    cases ho : outAll R d with
    | true =>
      rw [ho] at hrec
      simp only [Bool.true_or]
      clear e
      refine ⟨?w1, ?h1⟩
      case h1 => (repeat' (first | with_reducible (first | exact R_skip | exact R_brk | exact R_cont | apply R_seq | exact R_out_brk | exact R_out_cont | exact R_out_ret | refine R_next ?_ | apply R_ite | refine R_tt ?_ | refine R_ff ?_ | apply R_while | apply R_whileGo | exact R_wDone | apply R_wGo | refine R_wNext ?_ | refine R_wCont ?_ | exact R_wBrk | exact R_wRet | apply R_for | exact R_forNil | apply R_forCons | refine R_fNext ?_ | refine R_fCont ?_ | exact R_fBrk | exact R_fRet | apply R_assign | apply R_assign2 | apply R_appendVia | apply R_append | apply R_alias | apply R_ret | apply R_assignO | apply R_setItem | apply R_delItem | apply R_augItem | apply R_fz | apply R_aug) | (((try simp (config := {failIfUnchanged := false}) only [ev1_eq, evT_eq, evI_eq, one_some, theItems_some, truthR_some, evq_const, evq_var, evq_op, evq_nil, evq_cons, evq_star, evq_and, evq_or, evq_not, evq_ite, evq_call, evq_tup, evq_list, evq_comp, evq_comp2, evq_comp3, evq_mapF, evq_seqI, evq_rangeI, evq_enumI, evq_setI, fzAll, ownAt, Mine.R.ds, Mine.R.fz, Mine.D.truth, List.map_cons, List.map_nil, List.getElem?_cons_zero, List.getElem?_cons_succ, List.getElem?_nil, Option.map_some, Option.map_none, List.set_cons_zero, List.set_cons_succ, List.getElem?_set, List.length_set, Nat.reduceLT, eq_str, ne_str, notin_str, in_str1, replace1, List.cons.injEq, and_true, and_false, true_and, false_and, Nat.reduceEqDiff, decide_true, decide_false, reduceCtorEq, Bool.not_true, Bool.not_false, Nat.reduceAdd, List.isEmpty_cons, List.isEmpty_nil, Nat.reduceLeDiff, Nat.zero_le, Option.isSome_some, Option.isSome_none, noApp_eq, List.all_cons, List.all_nil, appOK_val, appOK_own, appOK_unset, appOK_app, Bool.and_true, Bool.true_and, reduceIte, List.mem_cons, List.not_mem_nil, or_false, false_or, or_true, true_or, itemsOf, Option.bind_some, compGo, turnD_tt, o_len, o_lens, o_sub, o_neg, o_addi, o_startswith, o_endswith, le_lim, lt_lim, List.length_cons, List.length_nil, Nat.zero_add, *]) <;> rfl)) | (show (_ : Nat) < lim; decide) | decide))
    | false =>
      rw [ho] at hrec
      simp only [Bool.false_or]
      refine ⟨_, R_seq (R_assign (d := .str t2) ?e1 rfl) (R_next (R_seq (R_ite (t := false) ?e2 (R_ff R_skip)) (R_next (R_seq (R_assign (d := .bool false) rfl rfl) (R_next (R_seq (R_for rfl e) (R_next (R_seq (R_ret rfl) R_out_ret))))))))⟩
      case e1 => clear e; (((try simp (config := {failIfUnchanged := false}) only [ev1_eq, evT_eq, evI_eq, one_some, theItems_some, truthR_some, evq_const, evq_var, evq_op, evq_nil, evq_cons, evq_star, evq_and, evq_or, evq_not, evq_ite, evq_call, evq_tup, evq_list, evq_comp, evq_comp2, evq_comp3, evq_mapF, evq_seqI, evq_rangeI, evq_enumI, evq_setI, fzAll, ownAt, Mine.R.ds, Mine.R.fz, Mine.D.truth, List.map_cons, List.map_nil, List.getElem?_cons_zero, List.getElem?_cons_succ, List.getElem?_nil, Option.map_some, Option.map_none, List.set_cons_zero, List.set_cons_succ, List.getElem?_set, List.length_set, Nat.reduceLT, eq_str, ne_str, notin_str, in_str1, replace1, List.cons.injEq, and_true, and_false, true_and, false_and, Nat.reduceEqDiff, decide_true, decide_false, reduceCtorEq, Bool.not_true, Bool.not_false, Nat.reduceAdd, List.isEmpty_cons, List.isEmpty_nil, Nat.reduceLeDiff, Nat.zero_le, Option.isSome_some, Option.isSome_none, noApp_eq, List.all_cons, List.all_nil, appOK_val, appOK_own, appOK_unset, appOK_app, Bool.and_true, Bool.true_and, reduceIte, List.mem_cons, List.not_mem_nil, or_false, false_or, or_true, true_or, itemsOf, Option.bind_some, compGo, turnD_tt, o_len, o_lens, o_sub, o_neg, o_addi, o_startswith, o_endswith, le_lim, lt_lim, List.length_cons, List.length_nil, Nat.zero_add, *]) <;> rfl))
      case e2 => clear e; (((try simp (config := {failIfUnchanged := false}) only [ev1_eq, evT_eq, evI_eq, one_some, theItems_some, truthR_some, evq_const, evq_var, evq_op, evq_nil, evq_cons, evq_star, evq_and, evq_or, evq_not, evq_ite, evq_call, evq_tup, evq_list, evq_comp, evq_comp2, evq_comp3, evq_mapF, evq_seqI, evq_rangeI, evq_enumI, evq_setI, fzAll, ownAt, Mine.R.ds, Mine.R.fz, Mine.D.truth, List.map_cons, List.map_nil, List.getElem?_cons_zero, List.getElem?_cons_succ, List.getElem?_nil, Option.map_some, Option.map_none, List.set_cons_zero, List.set_cons_succ, List.getElem?_set, List.length_set, Nat.reduceLT, eq_str, ne_str, notin_str, in_str1, replace1, List.cons.injEq, and_true, and_false, true_and, false_and, Nat.reduceEqDiff, decide_true, decide_false, reduceCtorEq, Bool.not_true, Bool.not_false, Nat.reduceAdd, List.isEmpty_cons, List.isEmpty_nil, Nat.reduceLeDiff, Nat.zero_le, Option.isSome_some, Option.isSome_none, noApp_eq, List.all_cons, List.all_nil, appOK_val, appOK_own, appOK_unset, appOK_app, Bool.and_true, Bool.true_and, reduceIte, List.mem_cons, List.not_mem_nil, or_false, false_or, or_true, true_or, itemsOf, Option.bind_some, compGo, turnD_tt, o_len, o_lens, o_sub, o_neg, o_addi, o_startswith, o_endswith, le_lim, lt_lim, List.length_cons, List.length_nil, Nat.zero_add, *]) <;> rfl))
noncomputable def metP (R : List Rule) (t : List Names) : Nat → Names → List Names
  | 0, _ => []
  | f + 1, a => t.flatMap fun n => if n.dropLast = a then (if outM R n.dropLast (n.getLastD []) then [] else n :: metP R t f n) else []
noncomputable def rBody : S := match s_law_met with
  | .seq _ (.seq (.forE _ _ (.seq (.ite _ (.seq _ (.seq (.forN _ _ b) _)) _) _)) _) => b
  | _ => .skip
section
variable {cf : Nat → List D → Option D} {x0 x1 x2 x3 x6 x7 x8 x9 x10 x11 : Slot}
theorem rule_turn {r : Rule} (hr : RuleOK r) {d : Names} {w : List Nat} {o : Bool} (hd : d.length ≤ 1000) (hw : cf 16 [.list (tM r.c1), .str w] = some (.bool (mB r.c1 w))) (hf : ∀ v ∈ d, cf 16 [.list (tM r.c2), .str v] = some (.bool (mB r.c2 v))) :
    ∃ h', ex cf rBody [x0, x1, x2, x3, .val (nD (d ++ [w])), .val (.bool o), .val (.bool r.b), .val (.int (r.kd : Int)), .val (.list (tM r.c1)), .val (.list (tM r.c2)), x10, x11] =
      some ([x0, x1, x2, x3, .val (nD (d ++ [w])), .val (.bool (if hitR r d w then r.b else o)), .val (.bool r.b), .val (.int (r.kd : Int)), .val (.list (tM r.c1)), .val (.list (tM r.c2)), x10, h'], .next) := by
  have il : opF .index [nD (d ++ [w]), .int (-1)] = some (.val (.str w)) := by
    unfold nD
    rw [List.map_append]
    show (if small (-1) = true then (match place (-1) (d.map D.str ++ [w].map D.str).length with | some k => ((d.map D.str ++ [w].map D.str)[k]?).map R.val | none => none) else none) = _
    rw [if_pos (by decide)]
    unfold place
    rw [if_neg (by decide), if_pos (by simp; omega)]
    have e : (-1 + ((d.map D.str ++ [w].map D.str).length : Int)).toNat = (d.map D.str).length := by simp; omega
    simp only [e]
    simp
  have hlen : opF .len [nD (d ++ [w])] = some (.val (.int ((d.length + 1 : Nat) : Int))) := by
    show some (R.val (.int (((d ++ [w]).map D.str).length : Int))) = _
    simp
  have hl1 : opF .eq [.int ((d.length + 1 : Nat) : Int), .int 1] = some (.val (.bool (decide (d = [])))) := by
    rw [o_eqi]; congr 4
    simp only [eq_iff_iff]
    rw [← List.length_eq_zero_iff]; omega
  have hl2 : opF .eq [.int ((d.length + 1 : Nat) : Int), .int 2] = some (.val (.bool (decide (d.length = 1)))) := by
    rw [o_eqi]; congr 4; simp only [eq_iff_iff]; omega
  have hk1 : opF .eq [.int (r.kd : Int), .int 1] = some (.val (.bool (decide (r.kd = 1)))) := by rw [o_eqi]; congr 4; simp only [eq_iff_iff]; omega
  have hk2 : opF .eq [.int (r.kd : Int), .int 2] = some (.val (.bool (decide (r.kd = 2)))) := by rw [o_eqi]; congr 4; simp only [eq_iff_iff]; omega
  have ih : d.length = 1 → opF .index [nD (d ++ [w]), .int 0] = some (.val (.str (d.headD []))) ∧ cf 16 [.list (tM r.c2), .str (d.headD [])] = some (.bool (mB r.c2 (d.headD []))) := by
    intro q
    match d, q with
    | [v], _ => exact ⟨rfl, hf v (by simp)⟩
  unfold hitR
  have hkd := hr.kd
  generalize D.int ((d.length + 1 : Nat) : Int) = LEN at *
  generalize D.int (r.kd : Int) = KD at *
  generalize nD (d ++ [w]) = ND at *
  generalize tM r.c1 = M1 at *
  generalize tM r.c2 = M2 at *
  generalize r.b = rb at *
  by_cases k0 : r.kd = 0
  · rw [decide_eq_false (by omega)] at hk1 hk2
    rw [if_pos k0]
    simp only [Bool.and_true]
    cases hb : mB r.c1 w <;> rw [hb] at hw
    · refine ⟨?w1, ?h1⟩
      case h1 => unfold rBody s_law_met; (repeat' (first | with_reducible (first | exact R_skip | exact R_brk | exact R_cont | apply R_seq | exact R_out_brk | exact R_out_cont | exact R_out_ret | refine R_next ?_ | apply R_ite | refine R_tt ?_ | refine R_ff ?_ | apply R_while | apply R_whileGo | exact R_wDone | apply R_wGo | refine R_wNext ?_ | refine R_wCont ?_ | exact R_wBrk | exact R_wRet | apply R_for | exact R_forNil | apply R_forCons | refine R_fNext ?_ | refine R_fCont ?_ | exact R_fBrk | exact R_fRet | apply R_assign | apply R_assign2 | apply R_appendVia | apply R_append | apply R_alias | apply R_ret | apply R_assignO | apply R_setItem | apply R_delItem | apply R_augItem | apply R_fz | apply R_aug) | (((try simp (config := {failIfUnchanged := false}) only [ev1_eq, evT_eq, evI_eq, one_some, theItems_some, truthR_some, evq_const, evq_var, evq_op, evq_nil, evq_cons, evq_star, evq_and, evq_or, evq_not, evq_ite, evq_call, evq_tup, evq_list, evq_comp, evq_comp2, evq_comp3, evq_mapF, evq_seqI, evq_rangeI, evq_enumI, evq_setI, fzAll, ownAt, Mine.R.ds, Mine.R.fz, Mine.D.truth, List.map_cons, List.map_nil, List.getElem?_cons_zero, List.getElem?_cons_succ, List.getElem?_nil, Option.map_some, Option.map_none, List.set_cons_zero, List.set_cons_succ, List.getElem?_set, List.length_set, Nat.reduceLT, eq_str, ne_str, notin_str, in_str1, replace1, List.cons.injEq, and_true, and_false, true_and, false_and, Nat.reduceEqDiff, decide_true, decide_false, reduceCtorEq, Bool.not_true, Bool.not_false, Nat.reduceAdd, List.isEmpty_cons, List.isEmpty_nil, Nat.reduceLeDiff, Nat.zero_le, Option.isSome_some, Option.isSome_none, noApp_eq, List.all_cons, List.all_nil, appOK_val, appOK_own, appOK_unset, appOK_app, Bool.and_true, Bool.true_and, reduceIte, List.mem_cons, List.not_mem_nil, or_false, false_or, or_true, true_or, itemsOf, Option.bind_some, compGo, turnD_tt, o_len, o_lens, o_sub, o_neg, o_addi, o_startswith, o_endswith, le_lim, lt_lim, List.length_cons, List.length_nil, Nat.zero_add, *]) <;> rfl)) | (show (_ : Nat) < lim; decide) | decide))
    · refine ⟨?w2, ?h2⟩
      case h2 => unfold rBody s_law_met; (repeat' (first | with_reducible (first | exact R_skip | exact R_brk | exact R_cont | apply R_seq | exact R_out_brk | exact R_out_cont | exact R_out_ret | refine R_next ?_ | apply R_ite | refine R_tt ?_ | refine R_ff ?_ | apply R_while | apply R_whileGo | exact R_wDone | apply R_wGo | refine R_wNext ?_ | refine R_wCont ?_ | exact R_wBrk | exact R_wRet | apply R_for | exact R_forNil | apply R_forCons | refine R_fNext ?_ | refine R_fCont ?_ | exact R_fBrk | exact R_fRet | apply R_assign | apply R_assign2 | apply R_appendVia | apply R_append | apply R_alias | apply R_ret | apply R_assignO | apply R_setItem | apply R_delItem | apply R_augItem | apply R_fz | apply R_aug) | (((try simp (config := {failIfUnchanged := false}) only [ev1_eq, evT_eq, evI_eq, one_some, theItems_some, truthR_some, evq_const, evq_var, evq_op, evq_nil, evq_cons, evq_star, evq_and, evq_or, evq_not, evq_ite, evq_call, evq_tup, evq_list, evq_comp, evq_comp2, evq_comp3, evq_mapF, evq_seqI, evq_rangeI, evq_enumI, evq_setI, fzAll, ownAt, Mine.R.ds, Mine.R.fz, Mine.D.truth, List.map_cons, List.map_nil, List.getElem?_cons_zero, List.getElem?_cons_succ, List.getElem?_nil, Option.map_some, Option.map_none, List.set_cons_zero, List.set_cons_succ, List.getElem?_set, List.length_set, Nat.reduceLT, eq_str, ne_str, notin_str, in_str1, replace1, List.cons.injEq, and_true, and_false, true_and, false_and, Nat.reduceEqDiff, decide_true, decide_false, reduceCtorEq, Bool.not_true, Bool.not_false, Nat.reduceAdd, List.isEmpty_cons, List.isEmpty_nil, Nat.reduceLeDiff, Nat.zero_le, Option.isSome_some, Option.isSome_none, noApp_eq, List.all_cons, List.all_nil, appOK_val, appOK_own, appOK_unset, appOK_app, Bool.and_true, Bool.true_and, reduceIte, List.mem_cons, List.not_mem_nil, or_false, false_or, or_true, true_or, itemsOf, Option.bind_some, compGo, turnD_tt, o_len, o_lens, o_sub, o_neg, o_addi, o_startswith, o_endswith, le_lim, lt_lim, List.length_cons, List.length_nil, Nat.zero_add, *]) <;> rfl)) | (show (_ : Nat) < lim; decide) | decide))
  · rw [if_neg k0]
    by_cases k1 : r.kd = 1
    · rw [decide_eq_true k1] at hk1
      rw [if_pos k1]
      generalize decide (d = []) = b1 at *
      cases hb : mB r.c1 w <;> rw [hb] at hw
      · refine ⟨?w3, ?h3⟩
        case h3 => unfold rBody s_law_met; (repeat' (first | with_reducible (first | exact R_skip | exact R_brk | exact R_cont | apply R_seq | exact R_out_brk | exact R_out_cont | exact R_out_ret | refine R_next ?_ | apply R_ite | refine R_tt ?_ | refine R_ff ?_ | apply R_while | apply R_whileGo | exact R_wDone | apply R_wGo | refine R_wNext ?_ | refine R_wCont ?_ | exact R_wBrk | exact R_wRet | apply R_for | exact R_forNil | apply R_forCons | refine R_fNext ?_ | refine R_fCont ?_ | exact R_fBrk | exact R_fRet | apply R_assign | apply R_assign2 | apply R_appendVia | apply R_append | apply R_alias | apply R_ret | apply R_assignO | apply R_setItem | apply R_delItem | apply R_augItem | apply R_fz | apply R_aug) | (((try simp (config := {failIfUnchanged := false}) only [ev1_eq, evT_eq, evI_eq, one_some, theItems_some, truthR_some, evq_const, evq_var, evq_op, evq_nil, evq_cons, evq_star, evq_and, evq_or, evq_not, evq_ite, evq_call, evq_tup, evq_list, evq_comp, evq_comp2, evq_comp3, evq_mapF, evq_seqI, evq_rangeI, evq_enumI, evq_setI, fzAll, ownAt, Mine.R.ds, Mine.R.fz, Mine.D.truth, List.map_cons, List.map_nil, List.getElem?_cons_zero, List.getElem?_cons_succ, List.getElem?_nil, Option.map_some, Option.map_none, List.set_cons_zero, List.set_cons_succ, List.getElem?_set, List.length_set, Nat.reduceLT, eq_str, ne_str, notin_str, in_str1, replace1, List.cons.injEq, and_true, and_false, true_and, false_and, Nat.reduceEqDiff, decide_true, decide_false, reduceCtorEq, Bool.not_true, Bool.not_false, Nat.reduceAdd, List.isEmpty_cons, List.isEmpty_nil, Nat.reduceLeDiff, Nat.zero_le, Option.isSome_some, Option.isSome_none, noApp_eq, List.all_cons, List.all_nil, appOK_val, appOK_own, appOK_unset, appOK_app, Bool.and_true, Bool.true_and, reduceIte, List.mem_cons, List.not_mem_nil, or_false, false_or, or_true, true_or, itemsOf, Option.bind_some, compGo, turnD_tt, o_len, o_lens, o_sub, o_neg, o_addi, o_startswith, o_endswith, le_lim, lt_lim, List.length_cons, List.length_nil, Nat.zero_add, *]) <;> rfl)) | (show (_ : Nat) < lim; decide) | decide))
      · cases b1
        · refine ⟨?w4, ?h4⟩
          case h4 => unfold rBody s_law_met; (repeat' (first | with_reducible (first | exact R_skip | exact R_brk | exact R_cont | apply R_seq | exact R_out_brk | exact R_out_cont | exact R_out_ret | refine R_next ?_ | apply R_ite | refine R_tt ?_ | refine R_ff ?_ | apply R_while | apply R_whileGo | exact R_wDone | apply R_wGo | refine R_wNext ?_ | refine R_wCont ?_ | exact R_wBrk | exact R_wRet | apply R_for | exact R_forNil | apply R_forCons | refine R_fNext ?_ | refine R_fCont ?_ | exact R_fBrk | exact R_fRet | apply R_assign | apply R_assign2 | apply R_appendVia | apply R_append | apply R_alias | apply R_ret | apply R_assignO | apply R_setItem | apply R_delItem | apply R_augItem | apply R_fz | apply R_aug) | (((try simp (config := {failIfUnchanged := false}) only [ev1_eq, evT_eq, evI_eq, one_some, theItems_some, truthR_some, evq_const, evq_var, evq_op, evq_nil, evq_cons, evq_star, evq_and, evq_or, evq_not, evq_ite, evq_call, evq_tup, evq_list, evq_comp, evq_comp2, evq_comp3, evq_mapF, evq_seqI, evq_rangeI, evq_enumI, evq_setI, fzAll, ownAt, Mine.R.ds, Mine.R.fz, Mine.D.truth, List.map_cons, List.map_nil, List.getElem?_cons_zero, List.getElem?_cons_succ, List.getElem?_nil, Option.map_some, Option.map_none, List.set_cons_zero, List.set_cons_succ, List.getElem?_set, List.length_set, Nat.reduceLT, eq_str, ne_str, notin_str, in_str1, replace1, List.cons.injEq, and_true, and_false, true_and, false_and, Nat.reduceEqDiff, decide_true, decide_false, reduceCtorEq, Bool.not_true, Bool.not_false, Nat.reduceAdd, List.isEmpty_cons, List.isEmpty_nil, Nat.reduceLeDiff, Nat.zero_le, Option.isSome_some, Option.isSome_none, noApp_eq, List.all_cons, List.all_nil, appOK_val, appOK_own, appOK_unset, appOK_app, Bool.and_true, Bool.true_and, reduceIte, List.mem_cons, List.not_mem_nil, or_false, false_or, or_true, true_or, itemsOf, Option.bind_some, compGo, turnD_tt, o_len, o_lens, o_sub, o_neg, o_addi, o_startswith, o_endswith, le_lim, lt_lim, List.length_cons, List.length_nil, Nat.zero_add, *]) <;> rfl)) | (show (_ : Nat) < lim; decide) | decide))
        · refine ⟨?w5, ?h5⟩
          case h5 => unfold rBody s_law_met; (repeat' (first | with_reducible (first | exact R_skip | exact R_brk | exact R_cont | apply R_seq | exact R_out_brk | exact R_out_cont | exact R_out_ret | refine R_next ?_ | apply R_ite | refine R_tt ?_ | refine R_ff ?_ | apply R_while | apply R_whileGo | exact R_wDone | apply R_wGo | refine R_wNext ?_ | refine R_wCont ?_ | exact R_wBrk | exact R_wRet | apply R_for | exact R_forNil | apply R_forCons | refine R_fNext ?_ | refine R_fCont ?_ | exact R_fBrk | exact R_fRet | apply R_assign | apply R_assign2 | apply R_appendVia | apply R_append | apply R_alias | apply R_ret | apply R_assignO | apply R_setItem | apply R_delItem | apply R_augItem | apply R_fz | apply R_aug) | (((try simp (config := {failIfUnchanged := false}) only [ev1_eq, evT_eq, evI_eq, one_some, theItems_some, truthR_some, evq_const, evq_var, evq_op, evq_nil, evq_cons, evq_star, evq_and, evq_or, evq_not, evq_ite, evq_call, evq_tup, evq_list, evq_comp, evq_comp2, evq_comp3, evq_mapF, evq_seqI, evq_rangeI, evq_enumI, evq_setI, fzAll, ownAt, Mine.R.ds, Mine.R.fz, Mine.D.truth, List.map_cons, List.map_nil, List.getElem?_cons_zero, List.getElem?_cons_succ, List.getElem?_nil, Option.map_some, Option.map_none, List.set_cons_zero, List.set_cons_succ, List.getElem?_set, List.length_set, Nat.reduceLT, eq_str, ne_str, notin_str, in_str1, replace1, List.cons.injEq, and_true, and_false, true_and, false_and, Nat.reduceEqDiff, decide_true, decide_false, reduceCtorEq, Bool.not_true, Bool.not_false, Nat.reduceAdd, List.isEmpty_cons, List.isEmpty_nil, Nat.reduceLeDiff, Nat.zero_le, Option.isSome_some, Option.isSome_none, noApp_eq, List.all_cons, List.all_nil, appOK_val, appOK_own, appOK_unset, appOK_app, Bool.and_true, Bool.true_and, reduceIte, List.mem_cons, List.not_mem_nil, or_false, false_or, or_true, true_or, itemsOf, Option.bind_some, compGo, turnD_tt, o_len, o_lens, o_sub, o_neg, o_addi, o_startswith, o_endswith, le_lim, lt_lim, List.length_cons, List.length_nil, Nat.zero_add, *]) <;> rfl)) | (show (_ : Nat) < lim; decide) | decide))
    · rw [decide_eq_false k1] at hk1
      rw [decide_eq_true (show r.kd = 2 by omega)] at hk2
      rw [if_neg k1]
      cases hb : mB r.c1 w <;> rw [hb] at hw
      · refine ⟨?w6, ?h6⟩
        case h6 => unfold rBody s_law_met; (repeat' (first | with_reducible (first | exact R_skip | exact R_brk | exact R_cont | apply R_seq | exact R_out_brk | exact R_out_cont | exact R_out_ret | refine R_next ?_ | apply R_ite | refine R_tt ?_ | refine R_ff ?_ | apply R_while | apply R_whileGo | exact R_wDone | apply R_wGo | refine R_wNext ?_ | refine R_wCont ?_ | exact R_wBrk | exact R_wRet | apply R_for | exact R_forNil | apply R_forCons | refine R_fNext ?_ | refine R_fCont ?_ | exact R_fBrk | exact R_fRet | apply R_assign | apply R_assign2 | apply R_appendVia | apply R_append | apply R_alias | apply R_ret | apply R_assignO | apply R_setItem | apply R_delItem | apply R_augItem | apply R_fz | apply R_aug) | (((try simp (config := {failIfUnchanged := false}) only [ev1_eq, evT_eq, evI_eq, one_some, theItems_some, truthR_some, evq_const, evq_var, evq_op, evq_nil, evq_cons, evq_star, evq_and, evq_or, evq_not, evq_ite, evq_call, evq_tup, evq_list, evq_comp, evq_comp2, evq_comp3, evq_mapF, evq_seqI, evq_rangeI, evq_enumI, evq_setI, fzAll, ownAt, Mine.R.ds, Mine.R.fz, Mine.D.truth, List.map_cons, List.map_nil, List.getElem?_cons_zero, List.getElem?_cons_succ, List.getElem?_nil, Option.map_some, Option.map_none, List.set_cons_zero, List.set_cons_succ, List.getElem?_set, List.length_set, Nat.reduceLT, eq_str, ne_str, notin_str, in_str1, replace1, List.cons.injEq, and_true, and_false, true_and, false_and, Nat.reduceEqDiff, decide_true, decide_false, reduceCtorEq, Bool.not_true, Bool.not_false, Nat.reduceAdd, List.isEmpty_cons, List.isEmpty_nil, Nat.reduceLeDiff, Nat.zero_le, Option.isSome_some, Option.isSome_none, noApp_eq, List.all_cons, List.all_nil, appOK_val, appOK_own, appOK_unset, appOK_app, Bool.and_true, Bool.true_and, reduceIte, List.mem_cons, List.not_mem_nil, or_false, false_or, or_true, true_or, itemsOf, Option.bind_some, compGo, turnD_tt, o_len, o_lens, o_sub, o_neg, o_addi, o_startswith, o_endswith, le_lim, lt_lim, List.length_cons, List.length_nil, Nat.zero_add, *]) <;> rfl)) | (show (_ : Nat) < lim; decide) | decide))
      · by_cases q : d.length = 1
        · rw [decide_eq_true q] at hl2 ⊢
          obtain ⟨i0, hc2⟩ := ih q
          generalize d.headD [] = v at *
          cases hb2 : mB r.c2 v <;> rw [hb2] at hc2
          · refine ⟨?w7, ?h7⟩
            case h7 => unfold rBody s_law_met; (repeat' (first | with_reducible (first | exact R_skip | exact R_brk | exact R_cont | apply R_seq | exact R_out_brk | exact R_out_cont | exact R_out_ret | refine R_next ?_ | apply R_ite | refine R_tt ?_ | refine R_ff ?_ | apply R_while | apply R_whileGo | exact R_wDone | apply R_wGo | refine R_wNext ?_ | refine R_wCont ?_ | exact R_wBrk | exact R_wRet | apply R_for | exact R_forNil | apply R_forCons | refine R_fNext ?_ | refine R_fCont ?_ | exact R_fBrk | exact R_fRet | apply R_assign | apply R_assign2 | apply R_appendVia | apply R_append | apply R_alias | apply R_ret | apply R_assignO | apply R_setItem | apply R_delItem | apply R_augItem | apply R_fz | apply R_aug) | (((try simp (config := {failIfUnchanged := false}) only [ev1_eq, evT_eq, evI_eq, one_some, theItems_some, truthR_some, evq_const, evq_var, evq_op, evq_nil, evq_cons, evq_star, evq_and, evq_or, evq_not, evq_ite, evq_call, evq_tup, evq_list, evq_comp, evq_comp2, evq_comp3, evq_mapF, evq_seqI, evq_rangeI, evq_enumI, evq_setI, fzAll, ownAt, Mine.R.ds, Mine.R.fz, Mine.D.truth, List.map_cons, List.map_nil, List.getElem?_cons_zero, List.getElem?_cons_succ, List.getElem?_nil, Option.map_some, Option.map_none, List.set_cons_zero, List.set_cons_succ, List.getElem?_set, List.length_set, Nat.reduceLT, eq_str, ne_str, notin_str, in_str1, replace1, List.cons.injEq, and_true, and_false, true_and, false_and, Nat.reduceEqDiff, decide_true, decide_false, reduceCtorEq, Bool.not_true, Bool.not_false, Nat.reduceAdd, List.isEmpty_cons, List.isEmpty_nil, Nat.reduceLeDiff, Nat.zero_le, Option.isSome_some, Option.isSome_none, noApp_eq, List.all_cons, List.all_nil, appOK_val, appOK_own, appOK_unset, appOK_app, Bool.and_true, Bool.true_and, reduceIte, List.mem_cons, List.not_mem_nil, or_false, false_or, or_true, true_or, itemsOf, Option.bind_some, compGo, turnD_tt, o_len, o_lens, o_sub, o_neg, o_addi, o_startswith, o_endswith, le_lim, lt_lim, List.length_cons, List.length_nil, Nat.zero_add, *]) <;> rfl)) | (show (_ : Nat) < lim; decide) | decide))
          · refine ⟨?w8, ?h8⟩
            case h8 => unfold rBody s_law_met; (repeat' (first | with_reducible (first | exact R_skip | exact R_brk | exact R_cont | apply R_seq | exact R_out_brk | exact R_out_cont | exact R_out_ret | refine R_next ?_ | apply R_ite | refine R_tt ?_ | refine R_ff ?_ | apply R_while | apply R_whileGo | exact R_wDone | apply R_wGo | refine R_wNext ?_ | refine R_wCont ?_ | exact R_wBrk | exact R_wRet | apply R_for | exact R_forNil | apply R_forCons | refine R_fNext ?_ | refine R_fCont ?_ | exact R_fBrk | exact R_fRet | apply R_assign | apply R_assign2 | apply R_appendVia | apply R_append | apply R_alias | apply R_ret | apply R_assignO | apply R_setItem | apply R_delItem | apply R_augItem | apply R_fz | apply R_aug) | (((try simp (config := {failIfUnchanged := false}) only [ev1_eq, evT_eq, evI_eq, one_some, theItems_some, truthR_some, evq_const, evq_var, evq_op, evq_nil, evq_cons, evq_star, evq_and, evq_or, evq_not, evq_ite, evq_call, evq_tup, evq_list, evq_comp, evq_comp2, evq_comp3, evq_mapF, evq_seqI, evq_rangeI, evq_enumI, evq_setI, fzAll, ownAt, Mine.R.ds, Mine.R.fz, Mine.D.truth, List.map_cons, List.map_nil, List.getElem?_cons_zero, List.getElem?_cons_succ, List.getElem?_nil, Option.map_some, Option.map_none, List.set_cons_zero, List.set_cons_succ, List.getElem?_set, List.length_set, Nat.reduceLT, eq_str, ne_str, notin_str, in_str1, replace1, List.cons.injEq, and_true, and_false, true_and, false_and, Nat.reduceEqDiff, decide_true, decide_false, reduceCtorEq, Bool.not_true, Bool.not_false, Nat.reduceAdd, List.isEmpty_cons, List.isEmpty_nil, Nat.reduceLeDiff, Nat.zero_le, Option.isSome_some, Option.isSome_none, noApp_eq, List.all_cons, List.all_nil, appOK_val, appOK_own, appOK_unset, appOK_app, Bool.and_true, Bool.true_and, reduceIte, List.mem_cons, List.not_mem_nil, or_false, false_or, or_true, true_or, itemsOf, Option.bind_some, compGo, turnD_tt, o_len, o_lens, o_sub, o_neg, o_addi, o_startswith, o_endswith, le_lim, lt_lim, List.length_cons, List.length_nil, Nat.zero_add, *]) <;> rfl)) | (show (_ : Nat) < lim; decide) | decide))
        · rw [decide_eq_false q] at hl2 ⊢
          refine ⟨?w9, ?h9⟩
          case h9 => unfold rBody s_law_met; (repeat' (first | with_reducible (first | exact R_skip | exact R_brk | exact R_cont | apply R_seq | exact R_out_brk | exact R_out_cont | exact R_out_ret | refine R_next ?_ | apply R_ite | refine R_tt ?_ | refine R_ff ?_ | apply R_while | apply R_whileGo | exact R_wDone | apply R_wGo | refine R_wNext ?_ | refine R_wCont ?_ | exact R_wBrk | exact R_wRet | apply R_for | exact R_forNil | apply R_forCons | refine R_fNext ?_ | refine R_fCont ?_ | exact R_fBrk | exact R_fRet | apply R_assign | apply R_assign2 | apply R_appendVia | apply R_append | apply R_alias | apply R_ret | apply R_assignO | apply R_setItem | apply R_delItem | apply R_augItem | apply R_fz | apply R_aug) | (((try simp (config := {failIfUnchanged := false}) only [ev1_eq, evT_eq, evI_eq, one_some, theItems_some, truthR_some, evq_const, evq_var, evq_op, evq_nil, evq_cons, evq_star, evq_and, evq_or, evq_not, evq_ite, evq_call, evq_tup, evq_list, evq_comp, evq_comp2, evq_comp3, evq_mapF, evq_seqI, evq_rangeI, evq_enumI, evq_setI, fzAll, ownAt, Mine.R.ds, Mine.R.fz, Mine.D.truth, List.map_cons, List.map_nil, List.getElem?_cons_zero, List.getElem?_cons_succ, List.getElem?_nil, Option.map_some, Option.map_none, List.set_cons_zero, List.set_cons_succ, List.getElem?_set, List.length_set, Nat.reduceLT, eq_str, ne_str, notin_str, in_str1, replace1, List.cons.injEq, and_true, and_false, true_and, false_and, Nat.reduceEqDiff, decide_true, decide_false, reduceCtorEq, Bool.not_true, Bool.not_false, Nat.reduceAdd, List.isEmpty_cons, List.isEmpty_nil, Nat.reduceLeDiff, Nat.zero_le, Option.isSome_some, Option.isSome_none, noApp_eq, List.all_cons, List.all_nil, appOK_val, appOK_own, appOK_unset, appOK_app, Bool.and_true, Bool.true_and, reduceIte, List.mem_cons, List.not_mem_nil, or_false, false_or, or_true, true_or, itemsOf, Option.bind_some, compGo, turnD_tt, o_len, o_lens, o_sub, o_neg, o_addi, o_startswith, o_endswith, le_lim, lt_lim, List.length_cons, List.length_nil, Nat.zero_add, *]) <;> rfl)) | (show (_ : Nat) < lim; decide) | decide))
theorem rule_loop {d : Names} {w : List Nat} (hd : d.length ≤ 1000) : ∀ {R : List Rule} (hR : ∀ r ∈ R, RuleOK r) (hw : ∀ r ∈ R, cf 16 [.list (tM r.c1), .str w] = some (.bool (mB r.c1 w))) (hf : ∀ r ∈ R, ∀ v ∈ d, cf 16 [.list (tM r.c2), .str v] = some (.bool (mB r.c2 v))) {o : Bool} {x6 x7 x8 x9 x10 x11 : Slot},
    ∃ y6 y7 y8 y9 y10 y11, forGo (putN [6, 7, 8, 9, 10]) (ex cf rBody) (R.map Rule.D) [x0, x1, x2, x3, .val (nD (d ++ [w])), .val (.bool o), x6, x7, x8, x9, x10, x11] =
      some ([x0, x1, x2, x3, .val (nD (d ++ [w])), .val (.bool (R.foldl (fun o r => if hitR r d w then r.b else o) o)), y6, y7, y8, y9, y10, y11], .next)
  | [], _, _, _, o, x6, x7, x8, x9, x10, x11 => ⟨x6, x7, x8, x9, x10, x11, rfl⟩
  | r :: R, hR, hw, hf, o, x6, x7, x8, x9, x10, x11 => by
    obtain ⟨h', e⟩ := rule_turn (cf := cf) (x0 := x0) (x1 := x1) (x2 := x2) (x3 := x3) (x10 := .val (.list [.list (tP r.c1), .list (tP r.c2)])) (x11 := x11) (o := o) (hR r List.mem_cons_self) hd (hw r List.mem_cons_self) (hf r List.mem_cons_self)
    obtain ⟨y6, y7, y8, y9, y10, y11, e2⟩ := rule_loop hd (R := R) (fun q hq => hR q (List.mem_cons_of_mem _ hq)) (fun q hq => hw q (List.mem_cons_of_mem _ hq)) (fun q hq => hf q (List.mem_cons_of_mem _ hq))
      (o := if hitR r d w then r.b else o) (x6 := .val (.bool r.b)) (x7 := .val (.int (r.kd : Int))) (x8 := .val (.list (tM r.c1))) (x9 := .val (.list (tM r.c2))) (x10 := .val (.list [.list (tP r.c1), .list (tP r.c2)])) (x11 := h')
    exact ⟨y6, y7, y8, y9, y10, y11, R_forCons (st := putN [6, 7, 8, 9, 10]) rfl e (R_fNext e2)⟩
end
end Mine
end P03bx
section P03cx
open PySem PySem.StrLaws PySem.Builtin PySem.Builtin.Str
namespace Mine
noncomputable def mBody : S := match s_law_met with
  | .seq _ (.seq (.forE _ _ b) _) => b
  | _ => .skip
theorem o_dropl {l : List D} (h : l.length ≤ 1000000) : opF .slice [.list l, .none, .int (-1)] = some (.own l.dropLast) := by
  have e : bound (.int (-1)) l.length l.length = some (clip (-1) l.length) := rfl
  show (match bound .none 0 l.length, bound (.int (-1)) l.length l.length with
    | some lo, some hi => some (R.own (cut l lo hi))
    | _, _ => none) = _
  rw [e]
  show some (R.own (cut l 0 (clip (-1) l.length))) = _
  have e2 : clip (-1) l.length = l.length - 1 := by
    unfold clip
    rw [if_pos (by decide)]
    omega
  rw [e2]
  unfold cut
  rw [List.drop_zero, Nat.sub_zero, List.dropLast_eq_take]
theorem o_copy {l : List D} : opF .slice [.list l, .none, .none] = some (.own l) := by
  show some (R.own (cut l 0 l.length)) = _
  unfold cut
  simp
section
variable {cf : Nat → List D → Option D} {x0 x1 x3 x5 x6 x7 x8 x9 x10 x11 : Slot}
theorem met_no {n a : Names} (hn : n.length ≤ 1000) (h : n.dropLast ≠ a) : ex cf mBody [x0, x1, .val (nD a), x3, .val (nD n), x5, x6, x7, x8, x9, x10, x11] = some ([x0, x1, .val (nD a), x3, .val (nD n), x5, x6, x7, x8, x9, x10, x11], .next) := by
  have h1 := o_dropl (l := n.map D.str) (by simp; omega)
  have h2 : opF .eq [.list (n.map D.str).dropLast, nD a] = some (.val (.bool false)) := by
    rw [← List.map_dropLast]
    show opF .eq [nD n.dropLast, nD a] = _
    rw [o_eq_nD, decide_eq_false h]
  have h1' : opF .slice [nD n, .none, .int (-1)] = some (.own (n.map D.str).dropLast) := h1
  clear h1
  generalize (n.map D.str).dropLast = L at *
  generalize nD n = N at *
  generalize nD a = A at *
  unfold mBody s_law_met
  (repeat' (first | with_reducible (first | exact R_skip | exact R_brk | exact R_cont | apply R_seq | exact R_out_brk | exact R_out_cont | exact R_out_ret | refine R_next ?_ | apply R_ite | refine R_tt ?_ | refine R_ff ?_ | apply R_while | apply R_whileGo | exact R_wDone | apply R_wGo | refine R_wNext ?_ | refine R_wCont ?_ | exact R_wBrk | exact R_wRet | apply R_for | exact R_forNil | apply R_forCons | refine R_fNext ?_ | refine R_fCont ?_ | exact R_fBrk | exact R_fRet | apply R_assign | apply R_assign2 | apply R_appendVia | apply R_append | apply R_alias | apply R_ret | apply R_assignO | apply R_setItem | apply R_delItem | apply R_augItem | apply R_fz | apply R_aug) | (((try simp (config := {failIfUnchanged := false}) only [ev1_eq, evT_eq, evI_eq, one_some, theItems_some, truthR_some, evq_const, evq_var, evq_op, evq_nil, evq_cons, evq_star, evq_and, evq_or, evq_not, evq_ite, evq_call, evq_tup, evq_list, evq_comp, evq_comp2, evq_comp3, evq_mapF, evq_seqI, evq_rangeI, evq_enumI, evq_setI, fzAll, ownAt, Mine.R.ds, Mine.R.fz, Mine.D.truth, List.map_cons, List.map_nil, List.getElem?_cons_zero, List.getElem?_cons_succ, List.getElem?_nil, Option.map_some, Option.map_none, List.set_cons_zero, List.set_cons_succ, List.getElem?_set, List.length_set, Nat.reduceLT, eq_str, ne_str, notin_str, in_str1, replace1, List.cons.injEq, and_true, and_false, true_and, false_and, Nat.reduceEqDiff, decide_true, decide_false, reduceCtorEq, Bool.not_true, Bool.not_false, Nat.reduceAdd, List.isEmpty_cons, List.isEmpty_nil, Nat.reduceLeDiff, Nat.zero_le, Option.isSome_some, Option.isSome_none, noApp_eq, List.all_cons, List.all_nil, appOK_val, appOK_own, appOK_unset, appOK_app, Bool.and_true, Bool.true_and, reduceIte, List.mem_cons, List.not_mem_nil, or_false, false_or, or_true, true_or, itemsOf, Option.bind_some, compGo, turnD_tt, o_len, o_lens, o_sub, o_neg, o_addi, o_startswith, o_endswith, le_lim, lt_lim, List.length_cons, List.length_nil, Nat.zero_add, *]) <;> rfl)) | (show (_ : Nat) < lim; decide) | decide))
theorem met_yes {R : List Rule} {tr : D} {d : Names} {w : List Nat} {acc sub : List D} (hR : ∀ r ∈ R, RuleOK r) (hd : d.length ≤ 100) (hw : ∀ r ∈ R, cf 16 [.list (tM r.c1), .str w] = some (.bool (mB r.c1 w))) (hf : ∀ r ∈ R, ∀ v ∈ d, cf 16 [.list (tM r.c2), .str v] = some (.bool (mB r.c2 v)))
    (hrec : cf 25 [.list (R.map Rule.D), tr, nD (d ++ [w])] = some (.list sub)) (hl : acc.length + 1 + sub.length ≤ lim) :
    ∃ y5 y6 y7 y8 y9 y10 y11, ex cf mBody [.val (.list (R.map Rule.D)), .val tr, .val (nD d), .own acc, .val (nD (d ++ [w])), x5, x6, x7, x8, x9, x10, x11] =
      some ([.val (.list (R.map Rule.D)), .val tr, .val (nD d), .own (acc ++ if outM R d w = true then [] else nD (d ++ [w]) :: sub), .val (nD (d ++ [w])), y5, y6, y7, y8, y9, y10, y11], .next) := by
  have h1 : opF .slice [nD (d ++ [w]), .none, .int (-1)] = some (.own (((d ++ [w]).map D.str).dropLast)) := o_dropl (by simp; omega)
  have h2 : opF .eq [.list (((d ++ [w]).map D.str).dropLast), nD d] = some (.val (.bool true)) := by
    rw [← List.map_dropLast]
    show opF .eq [nD (d ++ [w]).dropLast, nD d] = _
    rw [o_eq_nD, decide_eq_true (by simp)]
  obtain ⟨y6, y7, y8, y9, y10, y11, e⟩ := rule_loop (cf := cf) (x0 := .val (.list (R.map Rule.D))) (x1 := .val tr) (x2 := .val (nD d)) (x3 := .own acc) (w := w) (show d.length ≤ 1000 by omega) hR hw hf (o := false) (x6 := x6) (x7 := x7) (x8 := x8) (x9 := x9) (x10 := x10) (x11 := x11)
  have eo : List.foldl (fun o r => if hitR r d w = true then r.b else o) false R = outM R d w := rfl
  rw [eo] at e
  have hl1 : acc.length < lim := by omega
  have hl2 : (acc ++ [nD (d ++ [w])]).length + sub.length ≤ lim := by simp; omega
  generalize ((d ++ [w]).map D.str).dropLast = L at *
  generalize nD (d ++ [w]) = N at *
  generalize nD d = A at *
  generalize outM R d w = o at *
  generalize R.map Rule.D = RD at *
  unfold rBody s_law_met at e
  unfold mBody s_law_met
  simp only at e ⊢
  cases o with
  | true =>
    simp only [if_true, List.append_nil]
    refine ⟨_, _, _, _, _, _, _, R_seq (R_ite (t := true) ?c1 (R_tt (R_seq (R_assign (d := .bool false) rfl rfl) (R_next (R_seq (R_forN rfl e) (R_next (R_seq (R_ite (t := false) rfl (R_ff R_skip)) (R_next R_skip)))))))) (R_next R_skip)⟩
    case c1 => clear e; (((try simp (config := {failIfUnchanged := false}) only [ev1_eq, evT_eq, evI_eq, one_some, theItems_some, truthR_some, evq_const, evq_var, evq_op, evq_nil, evq_cons, evq_star, evq_and, evq_or, evq_not, evq_ite, evq_call, evq_tup, evq_list, evq_comp, evq_comp2, evq_comp3, evq_mapF, evq_seqI, evq_rangeI, evq_enumI, evq_setI, fzAll, ownAt, Mine.R.ds, Mine.R.fz, Mine.D.truth, List.map_cons, List.map_nil, List.getElem?_cons_zero, List.getElem?_cons_succ, List.getElem?_nil, Option.map_some, Option.map_none, List.set_cons_zero, List.set_cons_succ, List.getElem?_set, List.length_set, Nat.reduceLT, eq_str, ne_str, notin_str, in_str1, replace1, List.cons.injEq, and_true, and_false, true_and, false_and, Nat.reduceEqDiff, decide_true, decide_false, reduceCtorEq, Bool.not_true, Bool.not_false, Nat.reduceAdd, List.isEmpty_cons, List.isEmpty_nil, Nat.reduceLeDiff, Nat.zero_le, Option.isSome_some, Option.isSome_none, noApp_eq, List.all_cons, List.all_nil, appOK_val, appOK_own, appOK_unset, appOK_app, Bool.and_true, Bool.true_and, reduceIte, List.mem_cons, List.not_mem_nil, or_false, false_or, or_true, true_or, itemsOf, Option.bind_some, compGo, turnD_tt, o_len, o_lens, o_sub, o_neg, o_addi, o_startswith, o_endswith, le_lim, lt_lim, List.length_cons, List.length_nil, Nat.zero_add, *]) <;> rfl))
  | false =>
    simp only [Bool.false_eq_true, if_false]
    have e3 : acc ++ N :: sub = acc ++ [N] ++ sub := by simp
    rw [e3]
    refine ⟨_, _, _, _, _, _, _, R_seq (R_ite (t := true) ?c1 (R_tt (R_seq (R_assign (d := .bool false) rfl rfl) (R_next (R_seq (R_forN rfl e) (R_next (R_seq (R_ite (t := true) rfl (R_tt (R_seq (R_append (d := N) (l := acc) rfl rfl hl1 rfl) (R_next (R_seq (R_extend (l := acc ++ [N]) (m := sub) ?c2 rfl hl2 rfl) (R_next R_skip)))))) (R_next R_skip)))))))) (R_next R_skip)⟩
    case c1 => clear e; (((try simp (config := {failIfUnchanged := false}) only [ev1_eq, evT_eq, evI_eq, one_some, theItems_some, truthR_some, evq_const, evq_var, evq_op, evq_nil, evq_cons, evq_star, evq_and, evq_or, evq_not, evq_ite, evq_call, evq_tup, evq_list, evq_comp, evq_comp2, evq_comp3, evq_mapF, evq_seqI, evq_rangeI, evq_enumI, evq_setI, fzAll, ownAt, Mine.R.ds, Mine.R.fz, Mine.D.truth, List.map_cons, List.map_nil, List.getElem?_cons_zero, List.getElem?_cons_succ, List.getElem?_nil, Option.map_some, Option.map_none, List.set_cons_zero, List.set_cons_succ, List.getElem?_set, List.length_set, Nat.reduceLT, eq_str, ne_str, notin_str, in_str1, replace1, List.cons.injEq, and_true, and_false, true_and, false_and, Nat.reduceEqDiff, decide_true, decide_false, reduceCtorEq, Bool.not_true, Bool.not_false, Nat.reduceAdd, List.isEmpty_cons, List.isEmpty_nil, Nat.reduceLeDiff, Nat.zero_le, Option.isSome_some, Option.isSome_none, noApp_eq, List.all_cons, List.all_nil, appOK_val, appOK_own, appOK_unset, appOK_app, Bool.and_true, Bool.true_and, reduceIte, List.mem_cons, List.not_mem_nil, or_false, false_or, or_true, true_or, itemsOf, Option.bind_some, compGo, turnD_tt, o_len, o_lens, o_sub, o_neg, o_addi, o_startswith, o_endswith, le_lim, lt_lim, List.length_cons, List.length_nil, Nat.zero_add, *]) <;> rfl))
    case c2 => clear e; (((try simp (config := {failIfUnchanged := false}) only [ev1_eq, evT_eq, evI_eq, one_some, theItems_some, truthR_some, evq_const, evq_var, evq_op, evq_nil, evq_cons, evq_star, evq_and, evq_or, evq_not, evq_ite, evq_call, evq_tup, evq_list, evq_comp, evq_comp2, evq_comp3, evq_mapF, evq_seqI, evq_rangeI, evq_enumI, evq_setI, fzAll, ownAt, Mine.R.ds, Mine.R.fz, Mine.D.truth, List.map_cons, List.map_nil, List.getElem?_cons_zero, List.getElem?_cons_succ, List.getElem?_nil, Option.map_some, Option.map_none, List.set_cons_zero, List.set_cons_succ, List.getElem?_set, List.length_set, Nat.reduceLT, eq_str, ne_str, notin_str, in_str1, replace1, List.cons.injEq, and_true, and_false, true_and, false_and, Nat.reduceEqDiff, decide_true, decide_false, reduceCtorEq, Bool.not_true, Bool.not_false, Nat.reduceAdd, List.isEmpty_cons, List.isEmpty_nil, Nat.reduceLeDiff, Nat.zero_le, Option.isSome_some, Option.isSome_none, noApp_eq, List.all_cons, List.all_nil, appOK_val, appOK_own, appOK_unset, appOK_app, Bool.and_true, Bool.true_and, reduceIte, List.mem_cons, List.not_mem_nil, or_false, false_or, or_true, true_or, itemsOf, Option.bind_some, compGo, turnD_tt, o_len, o_lens, o_sub, o_neg, o_addi, o_startswith, o_endswith, le_lim, lt_lim, List.length_cons, List.length_nil, Nat.zero_add, *]) <;> rfl))
end
theorem tD_app {a b : List Names} : tD (a ++ b) = tD a ++ tD b := by unfold tD; rw [List.map_append]
noncomputable def metG (R : List Rule) (t : List Names) (f : Nat) (a : Names) (n : Names) : List Names := if n.dropLast = a then (if outM R n.dropLast (n.getLastD []) = true then [] else n :: metP R t f n) else []
theorem metP_succ {R : List Rule} {t : List Names} {f : Nat} {a : Names} : metP R t (f + 1) a = t.flatMap (metG R t f a) := rfl
noncomputable def mN : Nat → Nat
  | 0 => 0
  | f + 1 => 18 * (1 + mN f)
theorem metP_len {R : List Rule} {t : List Names} (hk : t.length ≤ 18) : ∀ {f : Nat} {a : Names}, (metP R t f a).length ≤ mN f
  | 0, a => by simp [metP]
  | f + 1, a => by
    rw [metP_succ]
    have : ∀ (l : List Names), (l.flatMap (metG R t f a)).length ≤ l.length * (1 + mN f) := by
      intro l
      induction l with
      | nil => simp
      | cons n l ih =>
        rw [List.flatMap_cons, List.length_append, List.length_cons, Nat.add_mul, Nat.one_mul]
        have h1 : (metG R t f a n).length ≤ 1 + mN f := by
          unfold metG
          have := metP_len (R := R) (t := t) hk (f := f) (a := n)
          split
          · split
            · simp
            · simp; omega
          · simp
        omega
    have h2 := this t
    have h3 : t.length * (1 + mN f) ≤ 18 * (1 + mN f) := Nat.mul_le_mul_right _ hk
    unfold mN
    omega
theorem mN_le {f : Nat} (h : f ≤ 4) : mN f ≤ 111150 := by
  match f, h with
  | 0, _ => decide
  | 1, _ => decide
  | 2, _ => decide
  | 3, _ => decide
  | 4, _ => decide
  | f + 5, h => omega
set_option genInjectivity false in
structure TreeOK (t : List Names) : Prop where
  ne : ∀ n ∈ t, n ≠ []
  ok : ∀ n ∈ t, NamesOK n
  pre : ∀ d w, d ++ [w] ∈ t → d = [] ∨ d ∈ t
theorem met_ok {R : List Rule} (hR : ∀ r ∈ R, RuleOK r) {t : List Names} (ht : TreeOK t) (hl : t.length ≤ 18) : ∀ (f m : Nat) {a : Names}, f ≤ 3 → 3 ≤ a.length + f → a.length ≤ 3 →
    callF fns03 (m + f + 7) 25 [.list (R.map Rule.D), .list (tD t), nD a] = some (.list (tD (metP R t (f + 1) a))) := by
  intro f
  induction f with
  | zero =>
    intro m a hf h3 ha
    have hno : ∀ n ∈ t, n.dropLast ≠ a := by
      intro n hn e
      have := (ht.ok n hn).len
      have h0 := ht.ne n hn
      have : n.length ≠ 0 := fun q => h0 (List.length_eq_zero_iff.mp q)
      rw [← e] at h3
      simp at h3
      omega
    have hz : metP R t 1 a = [] := by
      rw [metP_succ, List.flatMap_eq_nil_iff]
      intro n hn
      unfold metG
      rw [if_neg (hno n hn)]
    rw [hz]
    have key : ∀ (l : List Names), (∀ n ∈ l, n ∈ t) → ∀ x4, ∃ y4, forGo (put1 4) (ex (callF fns03 (m + 6)) mBody) (tD l) [.val (.list (R.map Rule.D)), .val (.list (tD t)), .val (nD a), .own [], x4, .unset, .unset, .unset, .unset, .unset, .unset, .unset] =
        some ([.val (.list (R.map Rule.D)), .val (.list (tD t)), .val (nD a), .own [], y4, .unset, .unset, .unset, .unset, .unset, .unset, .unset], .next) := by
      intro l
      induction l with
      | nil => intro _ x4; exact ⟨x4, rfl⟩
      | cons n l ih =>
        intro hlt x4
        obtain ⟨y4, e⟩ := ih (fun q hq => hlt q (List.mem_cons_of_mem _ hq)) (.val (nD n))
        have hn := hlt n List.mem_cons_self
        exact ⟨y4, R_forCons (st := put1 4) rfl (met_no (by have := (ht.ok n hn).len; omega) (hno n hn)) (R_fNext e)⟩
    obtain ⟨y4, e⟩ := key t (fun _ h => h) .unset
    refine C_call (fn := fn_law_met) (n := m + 6) rfl (ρ := [.val (.list (R.map Rule.D)), .val (.list (tD t)), .val (nD a), .unset, .unset, .unset, .unset, .unset, .unset, .unset, .unset, .unset]) rfl ?_
    show ∃ ρ', ex (callF fns03 (m + 6)) s_law_met _ = _
    unfold mBody s_law_met at e
    unfold s_law_met
    simp only at e ⊢
    exact ⟨_, R_seq (R_assignO (l := []) rfl rfl rfl) (R_next (R_seq (R_for rfl e) (R_next (R_seq (R_seq (R_fz rfl rfl) (R_next (R_ret rfl))) R_out_ret))))⟩
  | succ f ih =>
    intro m a hf h3 ha
    have hb : ∀ n, (metP R t (f + 1) n).length ≤ 111150 := fun n => Nat.le_trans (metP_len hl) (mN_le (by omega))
    have key : ∀ (l : List Names), (∀ n ∈ l, n ∈ t) → ∀ (acc : List Names) x4 x5 x6 x7 x8 x9 x10 x11, acc.length + (l.flatMap (metG R t (f + 1) a)).length ≤ 111150 →
        ∃ y4 y5 y6 y7 y8 y9 y10 y11, forGo (put1 4) (ex (callF fns03 (m + (f + 1) + 6)) mBody) (tD l) [.val (.list (R.map Rule.D)), .val (.list (tD t)), .val (nD a), .own (tD acc), x4, x5, x6, x7, x8, x9, x10, x11] =
        some ([.val (.list (R.map Rule.D)), .val (.list (tD t)), .val (nD a), .own (tD (acc ++ l.flatMap (metG R t (f + 1) a))), y4, y5, y6, y7, y8, y9, y10, y11], .next) := by
      intro l
      induction l with
      | nil => intro _ acc x4 x5 x6 x7 x8 x9 x10 x11 _; exact ⟨x4, x5, x6, x7, x8, x9, x10, x11, by simp; rfl⟩
      | cons n l ihl =>
        intro hlt acc x4 x5 x6 x7 x8 x9 x10 x11 hlim
        have hn := hlt n List.mem_cons_self
        have hlt' : ∀ q ∈ l, q ∈ t := fun q hq => hlt q (List.mem_cons_of_mem _ hq)
        rw [List.flatMap_cons] at hlim ⊢
        rw [List.length_append] at hlim
        rw [← List.append_assoc]
        have hlim2 : (acc ++ metG R t (f + 1) a n).length + (l.flatMap (metG R t (f + 1) a)).length ≤ 111150 := by rw [List.length_append]; omega
        have hno := ht.ok _ hn
        by_cases hda : n.dropLast = a
        · rcases List.eq_nil_or_concat n with q | ⟨d, w, q⟩
          · exact absurd q (ht.ne n hn)
          rw [List.concat_eq_append] at q
          subst q
          have hd : d = a := by simpa using hda
          subst hd
          have hG : tD (metG R t (f + 1) d (d ++ [w])) = if outM R d w = true then [] else nD (d ++ [w]) :: tD (metP R t (f + 1) (d ++ [w])) := by
            unfold metG
            rw [if_pos (by simp)]
            have e1 : (d ++ [w]).dropLast = d := by simp
            have e2 : (d ++ [w]).getLastD [] = w := by simp
            rw [e1, e2]
            split <;> rfl
          have hrec := ih m (a := d ++ [w]) (by omega) (by simp; omega) hno.len
          have hbl := hb (d ++ [w])
          obtain ⟨y5, y6, y7, y8, y9, y10, y11, e⟩ := met_yes (cf := callF fns03 (m + (f + 1) + 6)) (x5 := x5) (x6 := x6) (x7 := x7) (x8 := x8) (x9 := x9) (x10 := x10) (x11 := x11) (tr := .list (tD t)) (acc := tD acc) (sub := tD (metP R t (f + 1) (d ++ [w]))) hR (by have := hno.pre.len; omega)
            (fun r hr => means13 (m + f + 2) (hR r hr).c1 hno.last) (fun r hr v hv => means13 (m + f + 2) (hR r hr).c2 (hno.pre.ok v hv)) hrec (by unfold tD lim; simp; omega)
          rw [← hG, ← tD_app] at e
          obtain ⟨z4, z5, z6, z7, z8, z9, z10, z11, e2⟩ := ihl hlt' (acc ++ metG R t (f + 1) d (d ++ [w])) (.val (nD (d ++ [w]))) y5 y6 y7 y8 y9 y10 y11 hlim2
          exact ⟨z4, z5, z6, z7, z8, z9, z10, z11, R_forCons (st := put1 4) rfl e (R_fNext e2)⟩
        · have hG : metG R t (f + 1) a n = [] := by unfold metG; rw [if_neg hda]
          rw [hG, List.append_nil] at hlim2 ⊢
          obtain ⟨z4, z5, z6, z7, z8, z9, z10, z11, e2⟩ := ihl hlt' acc (.val (nD n)) x5 x6 x7 x8 x9 x10 x11 hlim2
          exact ⟨z4, z5, z6, z7, z8, z9, z10, z11, R_forCons (st := put1 4) rfl (met_no (by have := hno.len; omega) hda) (R_fNext e2)⟩
    have htot : ([] : List Names).length + (t.flatMap (metG R t (f + 1) a)).length ≤ 111150 := by
      rw [← metP_succ, List.length_nil, Nat.zero_add]
      exact Nat.le_trans (metP_len hl) (mN_le (by omega))
    obtain ⟨y4, y5, y6, y7, y8, y9, y10, y11, e⟩ := key t (fun _ h => h) [] .unset .unset .unset .unset .unset .unset .unset .unset htot
    rw [List.nil_append, ← metP_succ] at e
    refine C_call (fn := fn_law_met) (n := m + (f + 1) + 6) rfl (ρ := [.val (.list (R.map Rule.D)), .val (.list (tD t)), .val (nD a), .unset, .unset, .unset, .unset, .unset, .unset, .unset, .unset, .unset]) rfl ?_
    show ∃ ρ', ex (callF fns03 (m + (f + 1) + 6)) s_law_met _ = _
    unfold mBody s_law_met at e
    unfold s_law_met
    simp only at e ⊢
    exact ⟨_, R_seq (R_assignO (l := []) rfl rfl rfl) (R_next (R_seq (R_for rfl e) (R_next (R_seq (R_seq (R_fz rfl rfl) (R_next (R_ret rfl))) R_out_ret))))⟩
noncomputable def okGo (R : List Rule) (t : List Names) (a : Names) : Names → Prop
  | [] => True
  | w :: ws => (a ++ [w] ∈ t ∧ outM R a w = false) ∧ okGo R t (a ++ [w]) ws
theorem okGo_snoc {R : List Rule} {t : List Names} {w : List Nat} : ∀ {ws a : Names}, okGo R t a (ws ++ [w]) ↔ okGo R t a ws ∧ (a ++ ws ++ [w] ∈ t ∧ outM R (a ++ ws) w = false)
  | [], a => by simp [okGo]
  | v :: ws, a => by
    show ((a ++ [v] ∈ t ∧ outM R a v = false) ∧ okGo R t (a ++ [v]) (ws ++ [w])) ↔ ((a ++ [v] ∈ t ∧ outM R a v = false) ∧ okGo R t (a ++ [v]) ws) ∧ _
    rw [okGo_snoc]
    simp [and_assoc]
theorem mem_met {R : List Rule} {t : List Names} (ht : TreeOK t) : ∀ {f : Nat} {a n : Names}, n ∈ metP R t f a ↔ ∃ w ws, n = a ++ w :: ws ∧ okGo R t a (w :: ws) ∧ ws.length + 1 ≤ f
  | 0, a, n => by
    simp [metP]
  | f + 1, a, n => by
    rw [metP_succ, List.mem_flatMap]
    constructor
    · rintro ⟨n', hn', h⟩
      unfold metG at h
      split at h
      · rename_i hd
        split at h
        · cases h
        · rename_i ho
          rcases List.eq_nil_or_concat n' with q | ⟨d, w, q⟩
          · exact absurd q (ht.ne n' hn')
          rw [List.concat_eq_append] at q
          subst q
          have e1 : d = a := by simpa using hd
          subst e1
          have ho' : outM R d w = false := by simpa using ho
          rcases List.mem_cons.mp h with rfl | h
          · exact ⟨w, [], rfl, ⟨⟨hn', ho'⟩, trivial⟩, by simp⟩
          · obtain ⟨v, vs, e, hk, hl⟩ := (mem_met ht).mp h
            exact ⟨w, v :: vs, by rw [e]; simp, ⟨⟨hn', ho'⟩, hk⟩, by simp; omega⟩
      · cases h
    · rintro ⟨w, ws, rfl, ⟨⟨h1, h2⟩, h3⟩, hl⟩
      refine ⟨a ++ [w], h1, ?_⟩
      unfold metG
      have e1 : (a ++ [w]).dropLast = a := by simp
      have e2 : (a ++ [w]).getLastD [] = w := by simp
      rw [e1, e2, if_pos rfl, if_neg (by rw [h2]; simp)]
      cases ws with
      | nil => exact List.mem_cons_self
      | cons v vs =>
        refine List.mem_cons_of_mem _ ((mem_met ht).mpr ⟨v, vs, by simp, h3, by simp at hl; omega⟩)
theorem okGo_iff {R : List Rule} {t : List Names} (ht : TreeOK t) : ∀ (k : Nat) {n : Names}, n.length = k → n ∈ t → (okGo R t [] n ↔ outAll R n = false)
  | 0, n, hk, hn => absurd (List.length_eq_zero_iff.mp hk) (ht.ne n hn)
  | k + 1, n, hk, hn => by
    rcases List.eq_nil_or_concat n with q | ⟨d, w, q⟩
    · exact absurd q (ht.ne n hn)
    rw [List.concat_eq_append] at q
    subst q
    rw [okGo_snoc, outAll_snoc, Bool.or_eq_false_iff]
    have hd : okGo R t [] d ↔ outAll R d = false := by
      rcases ht.pre d w hn with rfl | hd
      · exact ⟨fun _ => rfl, fun _ => trivial⟩
      · exact okGo_iff ht k (by simpa using hk) hd
    rw [hd]
    simp only [List.nil_append]
    exact ⟨fun ⟨a, _, b⟩ => ⟨a, b⟩, fun ⟨a, b⟩ => ⟨a, hn, b⟩⟩
theorem met_iff {R : List Rule} {t : List Names} (ht : TreeOK t) {n : Names} (hn : n ∈ t) : decide (n ∈ metP R t 4 []) = !outAll R n := by
  have h : n ∈ metP R t 4 [] ↔ outAll R n = false := by
    rw [mem_met ht, ← okGo_iff ht n.length rfl hn]
    constructor
    · rintro ⟨w, ws, rfl, h, _⟩; exact h
    · intro h
      cases n with
      | nil => exact absurd rfl (ht.ne [] hn)
      | cons w ws => exact ⟨w, ws, rfl, h, by have := (ht.ok _ hn).len; simp at this; omega⟩
  cases q : outAll R n with
  | false => rw [q] at h; exact decide_eq_true (h.mpr rfl)
  | true => rw [q] at h; exact decide_eq_false fun e => nomatch h.mp e
end Mine
end P03cx
section P03dx
open PySem PySem.StrLaws PySem.Builtin PySem.Builtin.Str
namespace Mine
noncomputable def tB : S := match s_law with
  | .seq _ (.seq _ (.seq (.forE _ _ (.seq _ (.seq _ (.seq (.forE _ _ b) _)))) _)) => b
  | _ => .skip
noncomputable def tO : S := match s_law with
  | .seq _ (.seq _ (.seq (.forE _ _ b) _)) => b
  | _ => .skip
noncomputable def addT (t : List Names) (n : Names) : List Names := if n ∈ t then t else t ++ [n]
section
variable {cf : Nat → List D → Option D} {x0 x1 x2 x3 x7 x8 x9 x10 x11 x12 x13 : Slot}
theorem t_turn {t : List Names} {n : Names} {l : Nat} (hl : t.length < lim) (hn : n.length < lim) :
    ex cf tB [x0, x1, x2, x3, .own (tD t), .val (.int (l : Int)), .own (n.map .str), x7, x8, x9, x10, x11, x12, x13] =
      some ([x0, x1, x2, x3, .own (tD (addT t (n ++ [words6.getD (l % 6) []]))), .val (.int ((l / 6 : Nat) : Int)), .own ((n ++ [words6.getD (l % 6) []]).map .str), x7, x8, x9, x10, x11, x12, x13], .next) := by
  have hk : l % 6 < 6 := Nat.mod_lt _ (by decide)
  have h1 : opF .mod [.int (l : Int), .int 6] = some (.val (.int ((l % 6 : Nat) : Int))) := o_mod (k := 6) (by decide)
  have h2 : opF .fdiv [.int (l : Int), .int 6] = some (.val (.int ((l / 6 : Nat) : Int))) := o_div (k := 6) (by decide)
  have h3 : opF .index [.tup [.str [97], .str [98], .str [46, 97], .str [97, 98], .str [98, 97, 98], .str [98, 46, 98]], .int ((l % 6 : Nat) : Int)] = some (.val (.str (words6.getD (l % 6) []))) := by
    refine o_tupidx ?_ (by omega)
    have : ([.str [97], .str [98], .str [46, 97], .str [97, 98], .str [98, 97, 98], .str [98, 46, 98]] : List D) = words6.map D.str := rfl
    rw [this, List.getElem?_map, List.getD_eq_getElem?_getD, List.getElem?_eq_getElem (show l % 6 < words6.length from hk)]
    rfl
  have e : n.map D.str ++ [.str (words6.getD (l % 6) [])] = (n ++ [words6.getD (l % 6) []]).map D.str := by simp
  generalize words6.getD (l % 6) [] = w at *
  have h4 : opF .notin [.list ((n ++ [w]).map D.str), .list (tD t)] = some (.val (.bool (!decide (n ++ [w] ∈ t)))) := o_notin_tD
  have h5 : opF .slice [.list ((n ++ [w]).map D.str), .none, .none] = some (.own ((n ++ [w]).map D.str)) := o_copy
  have hl1 : (tD t).length < lim := by unfold tD; simpa using hl
  have hl2 : (n.map D.str).length < lim := by simpa using hn
  unfold addT
  by_cases hin : n ++ [w] ∈ t
  · rw [if_pos hin]
    rw [decide_eq_true hin] at h4
    have h6 := e
    generalize (n ++ [w]).map D.str = N2 at *
    generalize n.map D.str = N1 at *
    generalize D.int (l : Int) = L at *
    generalize D.int ((l % 6 : Nat) : Int) = M6 at *
    generalize D.int ((l / 6 : Nat) : Int) = L2 at *
    subst h6
    unfold tB s_law
    refine R_seq (R_append (d := .str w) (l := N1) ?a1 rfl hl2 rfl) (R_next (R_seq (R_assign (d := L2) ?a2 rfl) (R_next (R_seq (R_ite (t := false) ?a3 (R_ff R_skip)) (R_next R_skip)))))
    case a1 => (((try simp (config := {failIfUnchanged := false}) only [ev1_eq, evT_eq, evI_eq, one_some, theItems_some, truthR_some, evq_const, evq_var, evq_op, evq_nil, evq_cons, evq_star, evq_and, evq_or, evq_not, evq_ite, evq_call, evq_tup, evq_list, evq_comp, evq_comp2, evq_comp3, evq_mapF, evq_seqI, evq_rangeI, evq_enumI, evq_setI, fzAll, ownAt, Mine.R.ds, Mine.R.fz, Mine.D.truth, List.map_cons, List.map_nil, List.getElem?_cons_zero, List.getElem?_cons_succ, List.getElem?_nil, Option.map_some, Option.map_none, List.set_cons_zero, List.set_cons_succ, List.getElem?_set, List.length_set, Nat.reduceLT, eq_str, ne_str, notin_str, in_str1, replace1, List.cons.injEq, and_true, and_false, true_and, false_and, Nat.reduceEqDiff, decide_true, decide_false, reduceCtorEq, Bool.not_true, Bool.not_false, Nat.reduceAdd, List.isEmpty_cons, List.isEmpty_nil, Nat.reduceLeDiff, Nat.zero_le, Option.isSome_some, Option.isSome_none, noApp_eq, List.all_cons, List.all_nil, appOK_val, appOK_own, appOK_unset, appOK_app, Bool.and_true, Bool.true_and, reduceIte, List.mem_cons, List.not_mem_nil, or_false, false_or, or_true, true_or, itemsOf, Option.bind_some, compGo, turnD_tt, o_len, o_lens, o_sub, o_neg, o_addi, o_startswith, o_endswith, le_lim, lt_lim, List.length_cons, List.length_nil, Nat.zero_add, *]) <;> rfl))
    case a2 => (((try simp (config := {failIfUnchanged := false}) only [ev1_eq, evT_eq, evI_eq, one_some, theItems_some, truthR_some, evq_const, evq_var, evq_op, evq_nil, evq_cons, evq_star, evq_and, evq_or, evq_not, evq_ite, evq_call, evq_tup, evq_list, evq_comp, evq_comp2, evq_comp3, evq_mapF, evq_seqI, evq_rangeI, evq_enumI, evq_setI, fzAll, ownAt, Mine.R.ds, Mine.R.fz, Mine.D.truth, List.map_cons, List.map_nil, List.getElem?_cons_zero, List.getElem?_cons_succ, List.getElem?_nil, Option.map_some, Option.map_none, List.set_cons_zero, List.set_cons_succ, List.getElem?_set, List.length_set, Nat.reduceLT, eq_str, ne_str, notin_str, in_str1, replace1, List.cons.injEq, and_true, and_false, true_and, false_and, Nat.reduceEqDiff, decide_true, decide_false, reduceCtorEq, Bool.not_true, Bool.not_false, Nat.reduceAdd, List.isEmpty_cons, List.isEmpty_nil, Nat.reduceLeDiff, Nat.zero_le, Option.isSome_some, Option.isSome_none, noApp_eq, List.all_cons, List.all_nil, appOK_val, appOK_own, appOK_unset, appOK_app, Bool.and_true, Bool.true_and, reduceIte, List.mem_cons, List.not_mem_nil, or_false, false_or, or_true, true_or, itemsOf, Option.bind_some, compGo, turnD_tt, o_len, o_lens, o_sub, o_neg, o_addi, o_startswith, o_endswith, le_lim, lt_lim, List.length_cons, List.length_nil, Nat.zero_add, *]) <;> rfl))
    case a3 => (((try simp (config := {failIfUnchanged := false}) only [ev1_eq, evT_eq, evI_eq, one_some, theItems_some, truthR_some, evq_const, evq_var, evq_op, evq_nil, evq_cons, evq_star, evq_and, evq_or, evq_not, evq_ite, evq_call, evq_tup, evq_list, evq_comp, evq_comp2, evq_comp3, evq_mapF, evq_seqI, evq_rangeI, evq_enumI, evq_setI, fzAll, ownAt, Mine.R.ds, Mine.R.fz, Mine.D.truth, List.map_cons, List.map_nil, List.getElem?_cons_zero, List.getElem?_cons_succ, List.getElem?_nil, Option.map_some, Option.map_none, List.set_cons_zero, List.set_cons_succ, List.getElem?_set, List.length_set, Nat.reduceLT, eq_str, ne_str, notin_str, in_str1, replace1, List.cons.injEq, and_true, and_false, true_and, false_and, Nat.reduceEqDiff, decide_true, decide_false, reduceCtorEq, Bool.not_true, Bool.not_false, Nat.reduceAdd, List.isEmpty_cons, List.isEmpty_nil, Nat.reduceLeDiff, Nat.zero_le, Option.isSome_some, Option.isSome_none, noApp_eq, List.all_cons, List.all_nil, appOK_val, appOK_own, appOK_unset, appOK_app, Bool.and_true, Bool.true_and, reduceIte, List.mem_cons, List.not_mem_nil, or_false, false_or, or_true, true_or, itemsOf, Option.bind_some, compGo, turnD_tt, o_len, o_lens, o_sub, o_neg, o_addi, o_startswith, o_endswith, le_lim, lt_lim, List.length_cons, List.length_nil, Nat.zero_add, *]) <;> rfl))
  · rw [if_neg hin]
    rw [decide_eq_false hin] at h4
    have h6 := e
    have h7 : tD (t ++ [n ++ [w]]) = tD t ++ [.list ((n ++ [w]).map D.str)] := by unfold tD nD; simp
    rw [h7]
    generalize (n ++ [w]).map D.str = N2 at *
    generalize n.map D.str = N1 at *
    generalize D.int (l : Int) = L at *
    generalize D.int ((l % 6 : Nat) : Int) = M6 at *
    generalize D.int ((l / 6 : Nat) : Int) = L2 at *
    subst h6
    unfold tB s_law
    refine R_seq (R_append (d := .str w) (l := N1) ?b1 rfl hl2 rfl) (R_next (R_seq (R_assign (d := L2) ?b2 rfl) (R_next (R_seq (R_ite (t := true) ?b3 (R_tt (R_seq (R_append (d := .list (N1 ++ [.str w])) (l := tD t) ?b4 rfl hl1 rfl) (R_next R_skip)))) (R_next R_skip)))))
    case b1 => (((try simp (config := {failIfUnchanged := false}) only [ev1_eq, evT_eq, evI_eq, one_some, theItems_some, truthR_some, evq_const, evq_var, evq_op, evq_nil, evq_cons, evq_star, evq_and, evq_or, evq_not, evq_ite, evq_call, evq_tup, evq_list, evq_comp, evq_comp2, evq_comp3, evq_mapF, evq_seqI, evq_rangeI, evq_enumI, evq_setI, fzAll, ownAt, Mine.R.ds, Mine.R.fz, Mine.D.truth, List.map_cons, List.map_nil, List.getElem?_cons_zero, List.getElem?_cons_succ, List.getElem?_nil, Option.map_some, Option.map_none, List.set_cons_zero, List.set_cons_succ, List.getElem?_set, List.length_set, Nat.reduceLT, eq_str, ne_str, notin_str, in_str1, replace1, List.cons.injEq, and_true, and_false, true_and, false_and, Nat.reduceEqDiff, decide_true, decide_false, reduceCtorEq, Bool.not_true, Bool.not_false, Nat.reduceAdd, List.isEmpty_cons, List.isEmpty_nil, Nat.reduceLeDiff, Nat.zero_le, Option.isSome_some, Option.isSome_none, noApp_eq, List.all_cons, List.all_nil, appOK_val, appOK_own, appOK_unset, appOK_app, Bool.and_true, Bool.true_and, reduceIte, List.mem_cons, List.not_mem_nil, or_false, false_or, or_true, true_or, itemsOf, Option.bind_some, compGo, turnD_tt, o_len, o_lens, o_sub, o_neg, o_addi, o_startswith, o_endswith, le_lim, lt_lim, List.length_cons, List.length_nil, Nat.zero_add, *]) <;> rfl))
    case b2 => (((try simp (config := {failIfUnchanged := false}) only [ev1_eq, evT_eq, evI_eq, one_some, theItems_some, truthR_some, evq_const, evq_var, evq_op, evq_nil, evq_cons, evq_star, evq_and, evq_or, evq_not, evq_ite, evq_call, evq_tup, evq_list, evq_comp, evq_comp2, evq_comp3, evq_mapF, evq_seqI, evq_rangeI, evq_enumI, evq_setI, fzAll, ownAt, Mine.R.ds, Mine.R.fz, Mine.D.truth, List.map_cons, List.map_nil, List.getElem?_cons_zero, List.getElem?_cons_succ, List.getElem?_nil, Option.map_some, Option.map_none, List.set_cons_zero, List.set_cons_succ, List.getElem?_set, List.length_set, Nat.reduceLT, eq_str, ne_str, notin_str, in_str1, replace1, List.cons.injEq, and_true, and_false, true_and, false_and, Nat.reduceEqDiff, decide_true, decide_false, reduceCtorEq, Bool.not_true, Bool.not_false, Nat.reduceAdd, List.isEmpty_cons, List.isEmpty_nil, Nat.reduceLeDiff, Nat.zero_le, Option.isSome_some, Option.isSome_none, noApp_eq, List.all_cons, List.all_nil, appOK_val, appOK_own, appOK_unset, appOK_app, Bool.and_true, Bool.true_and, reduceIte, List.mem_cons, List.not_mem_nil, or_false, false_or, or_true, true_or, itemsOf, Option.bind_some, compGo, turnD_tt, o_len, o_lens, o_sub, o_neg, o_addi, o_startswith, o_endswith, le_lim, lt_lim, List.length_cons, List.length_nil, Nat.zero_add, *]) <;> rfl))
    case b3 => (((try simp (config := {failIfUnchanged := false}) only [ev1_eq, evT_eq, evI_eq, one_some, theItems_some, truthR_some, evq_const, evq_var, evq_op, evq_nil, evq_cons, evq_star, evq_and, evq_or, evq_not, evq_ite, evq_call, evq_tup, evq_list, evq_comp, evq_comp2, evq_comp3, evq_mapF, evq_seqI, evq_rangeI, evq_enumI, evq_setI, fzAll, ownAt, Mine.R.ds, Mine.R.fz, Mine.D.truth, List.map_cons, List.map_nil, List.getElem?_cons_zero, List.getElem?_cons_succ, List.getElem?_nil, Option.map_some, Option.map_none, List.set_cons_zero, List.set_cons_succ, List.getElem?_set, List.length_set, Nat.reduceLT, eq_str, ne_str, notin_str, in_str1, replace1, List.cons.injEq, and_true, and_false, true_and, false_and, Nat.reduceEqDiff, decide_true, decide_false, reduceCtorEq, Bool.not_true, Bool.not_false, Nat.reduceAdd, List.isEmpty_cons, List.isEmpty_nil, Nat.reduceLeDiff, Nat.zero_le, Option.isSome_some, Option.isSome_none, noApp_eq, List.all_cons, List.all_nil, appOK_val, appOK_own, appOK_unset, appOK_app, Bool.and_true, Bool.true_and, reduceIte, List.mem_cons, List.not_mem_nil, or_false, false_or, or_true, true_or, itemsOf, Option.bind_some, compGo, turnD_tt, o_len, o_lens, o_sub, o_neg, o_addi, o_startswith, o_endswith, le_lim, lt_lim, List.length_cons, List.length_nil, Nat.zero_add, *]) <;> rfl))
    case b4 => (((try simp (config := {failIfUnchanged := false}) only [ev1_eq, evT_eq, evI_eq, one_some, theItems_some, truthR_some, evq_const, evq_var, evq_op, evq_nil, evq_cons, evq_star, evq_and, evq_or, evq_not, evq_ite, evq_call, evq_tup, evq_list, evq_comp, evq_comp2, evq_comp3, evq_mapF, evq_seqI, evq_rangeI, evq_enumI, evq_setI, fzAll, ownAt, Mine.R.ds, Mine.R.fz, Mine.D.truth, List.map_cons, List.map_nil, List.getElem?_cons_zero, List.getElem?_cons_succ, List.getElem?_nil, Option.map_some, Option.map_none, List.set_cons_zero, List.set_cons_succ, List.getElem?_set, List.length_set, Nat.reduceLT, eq_str, ne_str, notin_str, in_str1, replace1, List.cons.injEq, and_true, and_false, true_and, false_and, Nat.reduceEqDiff, decide_true, decide_false, reduceCtorEq, Bool.not_true, Bool.not_false, Nat.reduceAdd, List.isEmpty_cons, List.isEmpty_nil, Nat.reduceLeDiff, Nat.zero_le, Option.isSome_some, Option.isSome_none, noApp_eq, List.all_cons, List.all_nil, appOK_val, appOK_own, appOK_unset, appOK_app, Bool.and_true, Bool.true_and, reduceIte, List.mem_cons, List.not_mem_nil, or_false, false_or, or_true, true_or, itemsOf, Option.bind_some, compGo, turnD_tt, o_len, o_lens, o_sub, o_neg, o_addi, o_startswith, o_endswith, le_lim, lt_lim, List.length_cons, List.length_nil, Nat.zero_add, *]) <;> rfl))
end
end Mine
end P03dx
section P03ex
open PySem PySem.StrLaws PySem.Builtin PySem.Builtin.Str
namespace Mine
set_option genInjectivity false in
structure TI (t : List Names) (n : Names) : Prop where
  tr : TreeOK t
  at_ : n = [] ∨ n ∈ t
theorem word_getD {k : Nat} (h : k < 6) : words6.getD k [] ∈ words6 := by
  rw [List.getD_eq_getElem?_getD, List.getElem?_eq_getElem (show k < words6.length from h)]
  exact List.getElem_mem _
theorem TI.add {t : List Names} {n : Names} {w : List Nat} (h : TI t n) (hw : w ∈ words6) (hn : n.length < 3) : TI (addT t (n ++ [w])) (n ++ [w]) := by
  have hno : NamesOK (n ++ [w]) := by
    refine ⟨?_, by simp; omega⟩
    intro v hv
    rcases List.mem_append.mp hv with hv | hv
    · rcases h.at_ with e | e
      · rw [e] at hv; cases hv
      · exact (h.tr.ok n e).ok v hv
    · rw [List.mem_singleton.mp hv]; exact hw
  unfold addT
  split
  · rename_i hin; exact ⟨h.tr, .inr hin⟩
  · refine ⟨⟨?_, ?_, ?_⟩, .inr (by simp)⟩
    · intro m hm
      rcases List.mem_append.mp hm with hm | hm
      · exact h.tr.ne m hm
      · rw [List.mem_singleton.mp hm]; simp
    · intro m hm
      rcases List.mem_append.mp hm with hm | hm
      · exact h.tr.ok m hm
      · rw [List.mem_singleton.mp hm]; exact hno
    · intro d v hv
      rcases List.mem_append.mp hv with hv | hv
      · exact (h.tr.pre d v hv).imp id fun q => List.mem_append_left _ q
      · have e := List.mem_singleton.mp hv
        obtain ⟨e1, _⟩ := List.append_inj' e rfl
        subst e1
        exact h.at_.imp id fun q => List.mem_append_left _ q
theorem addT_len {t : List Names} {n : Names} : (addT t n).length ≤ t.length + 1 := by
  unfold addT
  split <;> simp
section
variable {cf : Nat → List D → Option D} {x0 x1 x2 x3 x7 x8 x9 x10 x11 x12 x13 : Slot}
theorem t_loop : ∀ (items : List D) {t : List Names} {n : Names} {l : Nat} {x7 : Slot}, TI t n → n.length + items.length ≤ 3 → t.length + items.length ≤ 1000 →
    ∃ y7 t' n' l', forGo (put1 7) (ex cf tB) items [x0, x1, x2, x3, .own (tD t), .val (.int ((l : Nat) : Int)), .own (n.map .str), x7, x8, x9, x10, x11, x12, x13] =
      some ([x0, x1, x2, x3, .own (tD t'), .val (.int ((l' : Nat) : Int)), .own (n'.map .str), y7, x8, x9, x10, x11, x12, x13], .next) ∧ TI t' n' ∧ t'.length ≤ t.length + items.length ∧ (∀ i, appOK i x7 = true → appOK i y7 = true)
  | [], t, n, l, x7, h, _, _ => ⟨x7, t, n, l, rfl, h, Nat.le_refl _, fun _ h => h⟩
  | d :: items, t, n, l, x7, h, h1, h2 => by
    rw [List.length_cons] at h1 h2
    have hadd := h.add (w := words6.getD (l % 6) []) (word_getD (Nat.mod_lt _ (by decide))) (by omega)
    have hlen := addT_len (t := t) (n := n ++ [words6.getD (l % 6) []])
    obtain ⟨y7, t', n', l', e, hT, hl, ha⟩ := t_loop items (x7 := .val d) (l := l / 6) hadd (by simp; omega) (by omega)
    refine ⟨y7, t', n', l', R_forCons (st := put1 7) rfl (t_turn (x7 := .val d) (by unfold lim; omega) (by unfold lim; omega)) (R_fNext e), hT, by rw [List.length_cons]; omega, fun i _ => ha i rfl⟩
end
end Mine
end P03ex
section P03fx
open PySem PySem.StrLaws PySem.Builtin PySem.Builtin.Str
namespace Mine
noncomputable def S03 (ns : List Int) (k : Nat) : Nat := (pick ns (some (k : Int)) none (some 11)).sum.natAbs
noncomputable def sD (s : Nat → Nat) : List D := (List.range 11).map fun k => .int (s k : Int)
theorem sD_at {s : Nat → Nat} {k : Nat} (h : k < 11) : opF .index [.list (sD s), .int (k : Int)] = some (.val (.int (s k : Int))) := by
  refine o_listidx ?_ (by omega)
  unfold sD
  rw [List.getElem?_map, List.getElem?_range h]; rfl
noncomputable def offT : List Nat := [0, 7, 44, 83, 122, 190]
noncomputable def offR : List Nat := [25, 42, 143, 20, 31]
theorem offT_at {k : Nat} (h : k < 6) : opF .index [.tup [.int 0, .int 7, .int 44, .int 83, .int 122, .int 190], .int (k : Int)] = some (.val (.int (offT.getD k 0 : Int))) := by
  refine o_tupidx ?_ (by omega)
  have : ([.int 0, .int 7, .int 44, .int 83, .int 122, .int 190] : List D) = offT.map fun (n : Nat) => D.int (n : Int) := rfl
  rw [this, List.getElem?_map, List.getD_eq_getElem?_getD, List.getElem?_eq_getElem (show k < offT.length from h)]
  rfl
theorem offR_at {k : Nat} (h : k < 5) : opF .index [.tup [.int 25, .int 42, .int 143, .int 20, .int 31], .int (k : Int)] = some (.val (.int (offR.getD k 0 : Int))) := by
  refine o_tupidx ?_ (by omega)
  have : ([.int 25, .int 42, .int 143, .int 20, .int 31] : List D) = offR.map fun (n : Nat) => D.int (n : Int) := rfl
  rw [this, List.getElem?_map, List.getD_eq_getElem?_getD, List.getElem?_eq_getElem (show k < offR.length from h)]
  rfl
theorem o_addn {a b : Nat} : opF .add [.int (a : Int), .int (b : Int)] = some (.val (.int ((a + b : Nat) : Int))) := by
  show some (R.val (.int ((a : Int) + (b : Int)))) = _
  congr 3
theorem o_gtn {a b : Nat} : opF .gt [.int (a : Int), .int (b : Int)] = some (.val (.bool (decide (b < a)))) := by
  show some (R.val (.bool (decide ((b : Int) < (a : Int))))) = _
  congr 4
  simp only [eq_iff_iff]
  omega
noncomputable def cnt (l : Nat) : Nat := if 215 < l then 1 + l / 216 % 3 else 2
theorem cnt_le (l : Nat) : cnt l ≤ 3 := by
  unfold cnt
  split
  · have := Nat.mod_lt (l / 216) (show 3 > 0 by decide); omega
  · omega
section
variable {cf : Nat → List D → Option D} {x0 x1 x5 x7 x8 x9 x10 x11 x12 x13 : Slot}
theorem to_turn {s : Nat → Nat} {k : Nat} (hk : k < 6) {t : List Names} {x6 : Slot} (ht : TreeOK t) (hl : t.length ≤ 18) (hj : [x0, x1, x5, x7, x8, x9, x10, x11, x12, x13].all (appOK 6) = true) (h6 : appOK 6 x6 = true) :
    ∃ y5 y6 y7 t', ex cf tO [x0, x1, .val (.int (k : Int)), .val (.list (sD s)), .own (tD t), x5, x6, x7, x8, x9, x10, x11, x12, x13] =
      some ([x0, x1, .val (.int (k : Int)), .val (.list (sD s)), .own (tD t'), .val y5, .own y6, y7, x8, x9, x10, x11, x12, x13], .next) ∧ TreeOK t' ∧ t'.length ≤ t.length + 3 ∧ (∀ i, appOK i x7 = true → appOK i y7 = true) := by
  simp only [List.all_cons, List.all_nil, Bool.and_true, Bool.and_eq_true] at hj
  obtain ⟨g0, g1, g5, g7, g8, g9, g10, g11, g12, g13⟩ := hj
  have hi := sD_at (s := s) (show k < 11 by omega)
  have ho := offT_at hk
  have ha := o_addn (a := s k) (b := offT.getD k 0)
  generalize hL : s k + offT.getD k 0 = l at ha
  have hc := cnt_le l
  obtain ⟨y7, t', n', l', e, hT, hlen, ha7⟩ := t_loop (cf := cf) (x0 := x0) (x1 := x1) (x2 := .val (.int (k : Int))) (x3 := .val (.list (sD s))) (x8 := x8) (x9 := x9) (x10 := x10) (x11 := x11) (x12 := x12) (x13 := x13) ((List.range' 0 (cnt l)).map fun (k : Nat) => .int (k : Int)) (t := t) (n := []) (l := l) (x7 := x7) ⟨ht, .inl rfl⟩ (by simp; omega) (by simp; omega)
  have hr := range1_eq (n := cnt l) (by omega)
  have hg := o_gtn (a := l) (b := 215)
  have h216 := o_div (n := l) (k := 216) (by decide)
  have h3 := o_mod (n := l / 216) (k := 3) (by decide)
  have h1 := o_addn (a := 1) (b := l / 216 % 3)
  have hcnt : cnt l = if 215 < l then 1 + l / 216 % 3 else 2 := rfl
  refine ⟨.int (l' : Int), n'.map D.str, y7, t', ?run, hT.tr, by simpa using Nat.le_trans hlen (by simp; omega), ?ap⟩
  case ap => exact ha7
  case run =>
    unfold tB s_law at e
    unfold tO s_law
    simp only at e ⊢
    have hit : evI cf (.rangeI (.cons (.ite (.op .gt (.cons (.var 5) (.cons (.const (.int 215)) .nil))) (.op .add (.cons (.const (.int 1)) (.cons (.op .mod (.cons (.op .fdiv (.cons (.var 5) (.cons (.const (.int 216)) .nil))) (.cons (.const (.int 3)) .nil))) .nil))) (.const (.int 2))) .nil))
        [x0, x1, .val (.int (k : Int)), .val (.list (sD s)), .own (tD t), .val (.int (l : Int)), .own [], x7, x8, x9, x10, x11, x12, x13] = some ((List.range' 0 (cnt l)).map fun (k : Nat) => .int (k : Int)) := by
      clear e hi ho ha ha7
      generalize (List.range' 0 (cnt l)).map (fun (k : Nat) => D.int (k : Int)) = L at *
      generalize D.list (sD s) = Q at *
      generalize D.int (k : Int) = K at *
      by_cases h : 215 < l
      · rw [if_pos h] at hcnt
        rw [hcnt] at hr
        rw [decide_eq_true h] at hg
        have hr' : opRange [.int ((1 + l / 216 % 3 : Nat) : Int)] = some L := hr
        have c1 : (((1 : Nat) : Int)) = 1 := rfl
        have c2 : (((215 : Nat) : Int)) = 215 := rfl
        have c3 : (((216 : Nat) : Int)) = 216 := rfl
        have c4 : (((3 : Nat) : Int)) = 3 := rfl
        rw [c1] at h1
        rw [c2] at hg
        rw [c3] at h216
        rw [c4] at h3
        clear hr c1 c2 c3 c4 hcnt
        generalize D.int (l : Int) = LL at *
        generalize D.int ((l / 216 : Nat) : Int) = L1 at *
        generalize D.int ((l / 216 % 3 : Nat) : Int) = L2 at *
        generalize D.int ((1 + l / 216 % 3 : Nat) : Int) = L3 at *
        (((try simp (config := {failIfUnchanged := false}) only [ev1_eq, evT_eq, evI_eq, one_some, theItems_some, truthR_some, evq_const, evq_var, evq_op, evq_nil, evq_cons, evq_star, evq_and, evq_or, evq_not, evq_ite, evq_call, evq_tup, evq_list, evq_comp, evq_comp2, evq_comp3, evq_mapF, evq_seqI, evq_rangeI, evq_enumI, evq_setI, fzAll, ownAt, Mine.R.ds, Mine.R.fz, Mine.D.truth, List.map_cons, List.map_nil, List.getElem?_cons_zero, List.getElem?_cons_succ, List.getElem?_nil, Option.map_some, Option.map_none, List.set_cons_zero, List.set_cons_succ, List.getElem?_set, List.length_set, Nat.reduceLT, eq_str, ne_str, notin_str, in_str1, replace1, List.cons.injEq, and_true, and_false, true_and, false_and, Nat.reduceEqDiff, decide_true, decide_false, reduceCtorEq, Bool.not_true, Bool.not_false, Nat.reduceAdd, List.isEmpty_cons, List.isEmpty_nil, Nat.reduceLeDiff, Nat.zero_le, Option.isSome_some, Option.isSome_none, noApp_eq, List.all_cons, List.all_nil, appOK_val, appOK_own, appOK_unset, appOK_app, Bool.and_true, Bool.true_and, reduceIte, List.mem_cons, List.not_mem_nil, or_false, false_or, or_true, true_or, itemsOf, Option.bind_some, compGo, turnD_tt, o_len, o_lens, o_sub, o_neg, o_addi, o_startswith, o_endswith, le_lim, lt_lim, List.length_cons, List.length_nil, Nat.zero_add, *]) <;> rfl))
      · rw [if_neg h] at hcnt
        rw [hcnt] at hr
        rw [decide_eq_false h] at hg
        have hr' : opRange [.int 2] = some L := hr
        have c2 : (((215 : Nat) : Int)) = 215 := rfl
        rw [c2] at hg
        clear hr c2 hcnt h1 h3 h216
        generalize D.int (l : Int) = LL at *
        (((try simp (config := {failIfUnchanged := false}) only [ev1_eq, evT_eq, evI_eq, one_some, theItems_some, truthR_some, evq_const, evq_var, evq_op, evq_nil, evq_cons, evq_star, evq_and, evq_or, evq_not, evq_ite, evq_call, evq_tup, evq_list, evq_comp, evq_comp2, evq_comp3, evq_mapF, evq_seqI, evq_rangeI, evq_enumI, evq_setI, fzAll, ownAt, Mine.R.ds, Mine.R.fz, Mine.D.truth, List.map_cons, List.map_nil, List.getElem?_cons_zero, List.getElem?_cons_succ, List.getElem?_nil, Option.map_some, Option.map_none, List.set_cons_zero, List.set_cons_succ, List.getElem?_set, List.length_set, Nat.reduceLT, eq_str, ne_str, notin_str, in_str1, replace1, List.cons.injEq, and_true, and_false, true_and, false_and, Nat.reduceEqDiff, decide_true, decide_false, reduceCtorEq, Bool.not_true, Bool.not_false, Nat.reduceAdd, List.isEmpty_cons, List.isEmpty_nil, Nat.reduceLeDiff, Nat.zero_le, Option.isSome_some, Option.isSome_none, noApp_eq, List.all_cons, List.all_nil, appOK_val, appOK_own, appOK_unset, appOK_app, Bool.and_true, Bool.true_and, reduceIte, List.mem_cons, List.not_mem_nil, or_false, false_or, or_true, true_or, itemsOf, Option.bind_some, compGo, turnD_tt, o_len, o_lens, o_sub, o_neg, o_addi, o_startswith, o_endswith, le_lim, lt_lim, List.length_cons, List.length_nil, Nat.zero_add, *]) <;> rfl))
    refine R_seq (R_assign (d := .int (l : Int)) ?a1 rfl) (R_next (R_seq (R_assignO (l := []) ?a2 rfl rfl) (R_next (R_seq (R_for hit e) (R_next R_skip)))))
    case a1 =>
      clear e hit hr hg h216 h3 h1
      generalize D.list (sD s) = Q at *
      generalize D.int (k : Int) = K at *
      generalize D.int (s k : Int) = S1 at *
      generalize D.int (offT.getD k 0 : Int) = S2 at *
      generalize D.int (l : Int) = S3 at *
      (((try simp (config := {failIfUnchanged := false}) only [ev1_eq, evT_eq, evI_eq, one_some, theItems_some, truthR_some, evq_const, evq_var, evq_op, evq_nil, evq_cons, evq_star, evq_and, evq_or, evq_not, evq_ite, evq_call, evq_tup, evq_list, evq_comp, evq_comp2, evq_comp3, evq_mapF, evq_seqI, evq_rangeI, evq_enumI, evq_setI, fzAll, ownAt, Mine.R.ds, Mine.R.fz, Mine.D.truth, List.map_cons, List.map_nil, List.getElem?_cons_zero, List.getElem?_cons_succ, List.getElem?_nil, Option.map_some, Option.map_none, List.set_cons_zero, List.set_cons_succ, List.getElem?_set, List.length_set, Nat.reduceLT, eq_str, ne_str, notin_str, in_str1, replace1, List.cons.injEq, and_true, and_false, true_and, false_and, Nat.reduceEqDiff, decide_true, decide_false, reduceCtorEq, Bool.not_true, Bool.not_false, Nat.reduceAdd, List.isEmpty_cons, List.isEmpty_nil, Nat.reduceLeDiff, Nat.zero_le, Option.isSome_some, Option.isSome_none, noApp_eq, List.all_cons, List.all_nil, appOK_val, appOK_own, appOK_unset, appOK_app, Bool.and_true, Bool.true_and, reduceIte, List.mem_cons, List.not_mem_nil, or_false, false_or, or_true, true_or, itemsOf, Option.bind_some, compGo, turnD_tt, o_len, o_lens, o_sub, o_neg, o_addi, o_startswith, o_endswith, le_lim, lt_lim, List.length_cons, List.length_nil, Nat.zero_add, *]) <;> rfl))
    case a2 =>
      simp only [List.set_cons_zero, List.set_cons_succ, noApp_eq, List.all_cons, List.all_nil, Bool.and_true, appOK_val, appOK_own, g0, g1, g7, h6, g8, g9, g10, g11, g12, g13, Bool.true_and]
end
end Mine
end P03fx
section P03gx
open PySem PySem.StrLaws PySem.Builtin PySem.Builtin.Str
namespace Mine
noncomputable def rO : S := match s_law with
  | .seq _ (.seq _ (.seq _ (.seq _ (.seq (.forE _ _ b) _)))) => b
  | _ => .skip
noncomputable def rule03 (l : Nat) : Rule := ⟨decide (l % 2 = 1), l / 2 % 3, l / 6 % 13, l / 78 % 13⟩
theorem rule03_ok (l : Nat) : RuleOK (rule03 l) := ⟨Nat.mod_lt _ (by decide), Nat.mod_lt _ (by decide), Nat.mod_lt _ (by decide)⟩
section
variable {x0 x4 x5 x6 x7 x9 x10 x11 x12 x13 : Slot}
theorem rO_turn (m : Nat) {s : Nat → Nat} {k : Nat} (hk : k < 5) {acc : List D} (hl : acc.length < lim) : ∃ l y5 y9 y10 y11, ex (callF fns03 (m + 2)) rO [x0, .val (.tok 0), .val (.int (k : Int)), .val (.list (sD s)), x4, x5, x6, x7, .own acc, x9, x10, x11, x12, x13] =
    some ([x0, .val (.tok 0), .val (.int (k : Int)), .val (.list (sD s)), x4, .val y5, x6, x7, .own (acc ++ [(rule03 l).D]), .val y9, .val y10, .val y11, x12, x13], .next) := by
  have h6k := o_addn (a := 6) (b := k)
  have hi := sD_at (s := s) (k := 6 + k) (by omega)
  have ho := offR_at hk
  have ha := o_addn (a := s (6 + k)) (b := offR.getD k 0)
  generalize hL : s (6 + k) + offR.getD k 0 = l at ha
  have d6 := o_div (n := l) (k := 6) (by decide)
  have d78 := o_div (n := l) (k := 78) (by decide)
  have d2 := o_div (n := l) (k := 2) (by decide)
  have m2 := o_mod (n := l) (k := 2) (by decide)
  have m3 := o_mod (n := l / 2) (k := 3) (by decide)
  have hb : opF .eq [.int ((l % 2 : Nat) : Int), .int 1] = some (.val (.bool (decide (l % 2 = 1)))) := by rw [o_eqi]; congr 4; simp only [eq_iff_iff]; omega
  have c1 := dressed13 (m + 1) (l / 6)
  have c2 := dressed13 (m + 1) (l / 78)
  have t1 := trans13 m (k := l / 6 % 13) (Nat.mod_lt _ (by decide))
  have t2 := trans13 m (k := l / 78 % 13) (Nat.mod_lt _ (by decide))
  have i0 : ∀ {a b : D}, opF .index [.tup [a, b], .int 0] = some (.val a) := rfl
  have i1 : ∀ {a b : D}, opF .index [.tup [a, b], .int 1] = some (.val b) := rfl
  have e6 : (((6 : Nat) : Int)) = 6 := rfl
  have e78 : (((78 : Nat) : Int)) = 78 := rfl
  have e2 : (((2 : Nat) : Int)) = 2 := rfl
  have e3 : (((3 : Nat) : Int)) = 3 := rfl
  rw [e6] at h6k d6
  rw [e78] at d78
  rw [e2] at d2 m2
  rw [e3] at m3
  clear e6 e78 e2 e3
  refine ⟨l, .int (l : Int), .tup [.str (tT (l / 6 % 13)), .list (tM (l / 6 % 13))], .tup [.str (tT (l / 78 % 13)), .list (tM (l / 78 % 13))], .list [.list (tP (l / 6 % 13)), .list (tP (l / 78 % 13))], ?run⟩
  case run =>
    have hD : (rule03 l).D = .tup [.bool (decide (l % 2 = 1)), .int ((l / 2 % 3 : Nat) : Int), .list (tM (l / 6 % 13)), .list (tM (l / 78 % 13)), .list [.list (tP (l / 6 % 13)), .list (tP (l / 78 % 13))]] := rfl
    rw [hD]
    generalize hcf : callF fns03 (m + 2) = cf at *
    have c1' : cf 17 [.int ((l / 6 : Nat) : Int)] = some (.tup [.str (tT (l / 6 % 13)), .list (tM (l / 6 % 13))]) := c1
    have c2' : cf 17 [.int ((l / 78 : Nat) : Int)] = some (.tup [.str (tT (l / 78 % 13)), .list (tM (l / 78 % 13))]) := c2
    clear c1 c2 hcf
    generalize tT (l / 6 % 13) = T1 at *
    generalize tT (l / 78 % 13) = T2 at *
    generalize tM (l / 6 % 13) = M1 at *
    generalize tM (l / 78 % 13) = M2 at *
    generalize tP (l / 6 % 13) = P1 at *
    generalize tP (l / 78 % 13) = P2 at *
    generalize D.list (sD s) = Q at *
    generalize D.int (k : Int) = K at *
    generalize D.int ((6 + k : Nat) : Int) = K6 at *
    generalize D.int (s (6 + k) : Int) = S1 at *
    generalize D.int (offR.getD k 0 : Int) = S2 at *
    generalize D.int (l : Int) = L at *
    generalize D.int ((l / 6 : Nat) : Int) = L6 at *
    generalize D.int ((l / 78 : Nat) : Int) = L78 at *
    generalize D.int ((l / 2 : Nat) : Int) = L2 at *
    generalize D.int ((l % 2 : Nat) : Int) = LM at *
    generalize D.int ((l / 2 % 3 : Nat) : Int) = L23 at *
    generalize decide (l % 2 = 1) = B at *
    clear hL
    unfold rO s_law
    refine R_seq (R_assign (d := L) ?a1 rfl) (R_next (R_seq (R_assign (d := .tup [.str T1, .list M1]) ?a2 rfl) (R_next (R_seq (R_assign (d := .tup [.str T2, .list M2]) ?a3 rfl) (R_next (R_seq (R_assign (d := .list [.list P1, .list P2]) ?a4 rfl) (R_next (R_seq (R_append (d := .tup [.bool B, L23, .list M1, .list M2, .list [.list P1, .list P2]]) (l := acc) ?a5 rfl hl rfl) (R_next R_skip)))))))))
    case a1 => (((try simp (config := {failIfUnchanged := false}) only [ev1_eq, evT_eq, evI_eq, one_some, theItems_some, truthR_some, evq_const, evq_var, evq_op, evq_nil, evq_cons, evq_star, evq_and, evq_or, evq_not, evq_ite, evq_call, evq_tup, evq_list, evq_comp, evq_comp2, evq_comp3, evq_mapF, evq_seqI, evq_rangeI, evq_enumI, evq_setI, fzAll, ownAt, Mine.R.ds, Mine.R.fz, Mine.D.truth, List.map_cons, List.map_nil, List.getElem?_cons_zero, List.getElem?_cons_succ, List.getElem?_nil, Option.map_some, Option.map_none, List.set_cons_zero, List.set_cons_succ, List.getElem?_set, List.length_set, Nat.reduceLT, eq_str, ne_str, notin_str, in_str1, replace1, List.cons.injEq, and_true, and_false, true_and, false_and, Nat.reduceEqDiff, decide_true, decide_false, reduceCtorEq, Bool.not_true, Bool.not_false, Nat.reduceAdd, List.isEmpty_cons, List.isEmpty_nil, Nat.reduceLeDiff, Nat.zero_le, Option.isSome_some, Option.isSome_none, noApp_eq, List.all_cons, List.all_nil, appOK_val, appOK_own, appOK_unset, appOK_app, Bool.and_true, Bool.true_and, reduceIte, List.mem_cons, List.not_mem_nil, or_false, false_or, or_true, true_or, itemsOf, Option.bind_some, compGo, turnD_tt, o_len, o_lens, o_sub, o_neg, o_addi, o_startswith, o_endswith, le_lim, lt_lim, List.length_cons, List.length_nil, Nat.zero_add, *]) <;> rfl))
    case a2 => (((try simp (config := {failIfUnchanged := false}) only [ev1_eq, evT_eq, evI_eq, one_some, theItems_some, truthR_some, evq_const, evq_var, evq_op, evq_nil, evq_cons, evq_star, evq_and, evq_or, evq_not, evq_ite, evq_call, evq_tup, evq_list, evq_comp, evq_comp2, evq_comp3, evq_mapF, evq_seqI, evq_rangeI, evq_enumI, evq_setI, fzAll, ownAt, Mine.R.ds, Mine.R.fz, Mine.D.truth, List.map_cons, List.map_nil, List.getElem?_cons_zero, List.getElem?_cons_succ, List.getElem?_nil, Option.map_some, Option.map_none, List.set_cons_zero, List.set_cons_succ, List.getElem?_set, List.length_set, Nat.reduceLT, eq_str, ne_str, notin_str, in_str1, replace1, List.cons.injEq, and_true, and_false, true_and, false_and, Nat.reduceEqDiff, decide_true, decide_false, reduceCtorEq, Bool.not_true, Bool.not_false, Nat.reduceAdd, List.isEmpty_cons, List.isEmpty_nil, Nat.reduceLeDiff, Nat.zero_le, Option.isSome_some, Option.isSome_none, noApp_eq, List.all_cons, List.all_nil, appOK_val, appOK_own, appOK_unset, appOK_app, Bool.and_true, Bool.true_and, reduceIte, List.mem_cons, List.not_mem_nil, or_false, false_or, or_true, true_or, itemsOf, Option.bind_some, compGo, turnD_tt, o_len, o_lens, o_sub, o_neg, o_addi, o_startswith, o_endswith, le_lim, lt_lim, List.length_cons, List.length_nil, Nat.zero_add, *]) <;> rfl))
    case a3 => (((try simp (config := {failIfUnchanged := false}) only [ev1_eq, evT_eq, evI_eq, one_some, theItems_some, truthR_some, evq_const, evq_var, evq_op, evq_nil, evq_cons, evq_star, evq_and, evq_or, evq_not, evq_ite, evq_call, evq_tup, evq_list, evq_comp, evq_comp2, evq_comp3, evq_mapF, evq_seqI, evq_rangeI, evq_enumI, evq_setI, fzAll, ownAt, Mine.R.ds, Mine.R.fz, Mine.D.truth, List.map_cons, List.map_nil, List.getElem?_cons_zero, List.getElem?_cons_succ, List.getElem?_nil, Option.map_some, Option.map_none, List.set_cons_zero, List.set_cons_succ, List.getElem?_set, List.length_set, Nat.reduceLT, eq_str, ne_str, notin_str, in_str1, replace1, List.cons.injEq, and_true, and_false, true_and, false_and, Nat.reduceEqDiff, decide_true, decide_false, reduceCtorEq, Bool.not_true, Bool.not_false, Nat.reduceAdd, List.isEmpty_cons, List.isEmpty_nil, Nat.reduceLeDiff, Nat.zero_le, Option.isSome_some, Option.isSome_none, noApp_eq, List.all_cons, List.all_nil, appOK_val, appOK_own, appOK_unset, appOK_app, Bool.and_true, Bool.true_and, reduceIte, List.mem_cons, List.not_mem_nil, or_false, false_or, or_true, true_or, itemsOf, Option.bind_some, compGo, turnD_tt, o_len, o_lens, o_sub, o_neg, o_addi, o_startswith, o_endswith, le_lim, lt_lim, List.length_cons, List.length_nil, Nat.zero_add, *]) <;> rfl))
    case a4 => (((try simp (config := {failIfUnchanged := false}) only [ev1_eq, evT_eq, evI_eq, one_some, theItems_some, truthR_some, evq_const, evq_var, evq_op, evq_nil, evq_cons, evq_star, evq_and, evq_or, evq_not, evq_ite, evq_call, evq_tup, evq_list, evq_comp, evq_comp2, evq_comp3, evq_mapF, evq_seqI, evq_rangeI, evq_enumI, evq_setI, fzAll, ownAt, Mine.R.ds, Mine.R.fz, Mine.D.truth, List.map_cons, List.map_nil, List.getElem?_cons_zero, List.getElem?_cons_succ, List.getElem?_nil, Option.map_some, Option.map_none, List.set_cons_zero, List.set_cons_succ, List.getElem?_set, List.length_set, Nat.reduceLT, eq_str, ne_str, notin_str, in_str1, replace1, List.cons.injEq, and_true, and_false, true_and, false_and, Nat.reduceEqDiff, decide_true, decide_false, reduceCtorEq, Bool.not_true, Bool.not_false, Nat.reduceAdd, List.isEmpty_cons, List.isEmpty_nil, Nat.reduceLeDiff, Nat.zero_le, Option.isSome_some, Option.isSome_none, noApp_eq, List.all_cons, List.all_nil, appOK_val, appOK_own, appOK_unset, appOK_app, Bool.and_true, Bool.true_and, reduceIte, List.mem_cons, List.not_mem_nil, or_false, false_or, or_true, true_or, itemsOf, Option.bind_some, compGo, turnD_tt, o_len, o_lens, o_sub, o_neg, o_addi, o_startswith, o_endswith, le_lim, lt_lim, List.length_cons, List.length_nil, Nat.zero_add, *]) <;> rfl))
    case a5 => (((try simp (config := {failIfUnchanged := false}) only [ev1_eq, evT_eq, evI_eq, one_some, theItems_some, truthR_some, evq_const, evq_var, evq_op, evq_nil, evq_cons, evq_star, evq_and, evq_or, evq_not, evq_ite, evq_call, evq_tup, evq_list, evq_comp, evq_comp2, evq_comp3, evq_mapF, evq_seqI, evq_rangeI, evq_enumI, evq_setI, fzAll, ownAt, Mine.R.ds, Mine.R.fz, Mine.D.truth, List.map_cons, List.map_nil, List.getElem?_cons_zero, List.getElem?_cons_succ, List.getElem?_nil, Option.map_some, Option.map_none, List.set_cons_zero, List.set_cons_succ, List.getElem?_set, List.length_set, Nat.reduceLT, eq_str, ne_str, notin_str, in_str1, replace1, List.cons.injEq, and_true, and_false, true_and, false_and, Nat.reduceEqDiff, decide_true, decide_false, reduceCtorEq, Bool.not_true, Bool.not_false, Nat.reduceAdd, List.isEmpty_cons, List.isEmpty_nil, Nat.reduceLeDiff, Nat.zero_le, Option.isSome_some, Option.isSome_none, noApp_eq, List.all_cons, List.all_nil, appOK_val, appOK_own, appOK_unset, appOK_app, Bool.and_true, Bool.true_and, reduceIte, List.mem_cons, List.not_mem_nil, or_false, false_or, or_true, true_or, itemsOf, Option.bind_some, compGo, turnD_tt, o_len, o_lens, o_sub, o_neg, o_addi, o_startswith, o_endswith, le_lim, lt_lim, List.length_cons, List.length_nil, Nat.zero_add, *]) <;> rfl))
end
end Mine
end P03gx
section P03hx
open PySem PySem.StrLaws PySem.Builtin PySem.Builtin.Str
namespace Mine
noncomputable def lO : S := match s_law with
  | .seq _ (.seq _ (.seq _ (.seq _ (.seq _ (.seq _ (.seq (.seq _ (.forE _ _ b)) _)))))) => b
  | _ => .skip
noncomputable def lE : X := match s_law with
  | .seq (.assign _ (.comp _ _ _ e)) _ => e
  | _ => .nil
section
variable {x0 x2 x3 x4 x5 x6 x7 x9 x10 x11 x13 : Slot}
theorem sum_turn {cf : Nat → List D → Option D} {ρs : List Slot} {sc ms : List D} {K s a : D} (h1 : opF .slice3 [.list sc, K, .none, .int 11] = some (.own ms)) (h2 : opF .sum [.list ms] = some (.val s)) (h3 : opF .abs [s] = some (.val a)) (g0 : ρs[0]? = some (.val (.list sc))) (g13 : ρs[13]? = some (.val K)) :
    turnD (ev cf (.const (.bool true)) ρs) (ev cf lE ρs) = some (some a) := by
  unfold lE s_law
  (((try simp (config := {failIfUnchanged := false}) only [ev1_eq, evT_eq, evI_eq, one_some, theItems_some, truthR_some, evq_const, evq_var, evq_op, evq_nil, evq_cons, evq_star, evq_and, evq_or, evq_not, evq_ite, evq_call, evq_tup, evq_list, evq_comp, evq_comp2, evq_comp3, evq_mapF, evq_seqI, evq_rangeI, evq_enumI, evq_setI, fzAll, ownAt, Mine.R.ds, Mine.R.fz, Mine.D.truth, List.map_cons, List.map_nil, List.getElem?_cons_zero, List.getElem?_cons_succ, List.getElem?_nil, Option.map_some, Option.map_none, List.set_cons_zero, List.set_cons_succ, List.getElem?_set, List.length_set, Nat.reduceLT, eq_str, ne_str, notin_str, in_str1, replace1, List.cons.injEq, and_true, and_false, true_and, false_and, Nat.reduceEqDiff, decide_true, decide_false, reduceCtorEq, Bool.not_true, Bool.not_false, Nat.reduceAdd, List.isEmpty_cons, List.isEmpty_nil, Nat.reduceLeDiff, Nat.zero_le, Option.isSome_some, Option.isSome_none, noApp_eq, List.all_cons, List.all_nil, appOK_val, appOK_own, appOK_unset, appOK_app, Bool.and_true, Bool.true_and, reduceIte, List.mem_cons, List.not_mem_nil, or_false, false_or, or_true, true_or, itemsOf, Option.bind_some, compGo, turnD_tt, o_len, o_lens, o_sub, o_neg, o_addi, o_startswith, o_endswith, le_lim, lt_lim, List.length_cons, List.length_nil, Nat.zero_add, *]) <;> rfl))
theorem lO_turn {R : List Rule} (hR : ∀ r ∈ R, RuleOK r) {t : List Names} (ht : TreeOK t) {n : Names} (hn : n ∈ t) :
    ex (callF fns03 40) lO [x0, .val (.tok 0), x2, x3, x4, x5, .val (nD n), x7, .val (.list (R.map Rule.D)), x9, x10, x11, .val (.list (tD (metP R t 4 []))), x13] =
      some ([x0, .val (.tok 0), x2, x3, x4, x5, .val (nD n), x7, .val (.list (R.map Rule.D)), x9, x10, x11, .val (.list (tD (metP R t 4 []))), x13], .next) := by
  have hno := ht.ok n hn
  have h0 := ht.ne n hn
  have hj : callF fns03 40 4 (n.map .str) = some (.str (txt n)) := by
    cases n with
    | nil => exact absurd rfl h0
    | cons w bs =>
      have hb : lenS bs ≤ 12 := by
        have h3 := hno.len
        simp at h3
        have : ∀ l : List (List Nat), (∀ b ∈ l, b.length ≤ 3) → lenS l ≤ 4 * l.length := by
          intro l
          induction l with
          | nil => intro _; simp [lenS]
          | cons b l ih =>
            intro h
            have h1 := h b List.mem_cons_self
            have h2 := ih fun b hb => h b (List.mem_cons_of_mem _ hb)
            unfold lenS at h2 ⊢
            rw [List.map_cons, List.sum_cons, List.length_cons]
            omega
        have := this bs fun b hb => word_len (hno.ok b (List.mem_cons_of_mem _ hb))
        omega
      have hw := word_len (hno.ok w List.mem_cons_self)
      have h3 := hno.len
      simp at h3
      exact join_txt (fns := fns03) rfl rfl rfl 38 (hno.names w List.mem_cons_self) (fun v hv => hno.names v (List.mem_cons_of_mem _ hv)) (by unfold lim; omega) (by unfold lim; omega)
  have ho : callF fns03 40 24 [.list (R.map Rule.D), .str (txt n), .tok 0] = some (.bool (outAll R n)) := by
    rcases List.eq_nil_or_concat n with q | ⟨d, w, q⟩
    · exact absurd q h0
    rw [List.concat_eq_append] at q
    subst q
    have hl := hno.pre.len
    have := out_ok hR d.length (35 - d.length) rfl hno
    rwa [show 35 - d.length + d.length + 5 = 40 by omega] at this
  have hin : opF .notin [nD n, .list (tD (metP R t 4 []))] = some (.val (.bool (outAll R n))) := by
    rw [o_notin_tD, met_iff ht hn, Bool.not_not]
  have hne : opF .ne [.bool (outAll R n), .bool (outAll R n)] = some (.val (.bool false)) := by cases outAll R n <;> rfl
  have hfz := fzAll_vals
  unfold nD at *
  generalize n.map D.str = N at *
  generalize outAll R n = b at *
  generalize txt n = tx at *
  generalize R.map Rule.D = RD at *
  generalize tD (metP R t 4 []) = MT at *
  generalize callF fns03 40 = cf at *
  clear hno h0 hn ht hR
  unfold lO s_law
  refine R_seq (R_seq (R_fz_no rfl) (R_next (R_seq (R_fz_no rfl) (R_next (R_ite (t := false) ?c (R_ff R_skip)))))) (R_next R_skip)
  case c => (((try simp (config := {failIfUnchanged := false}) only [ev1_eq, evT_eq, evI_eq, one_some, theItems_some, truthR_some, evq_const, evq_var, evq_op, evq_nil, evq_cons, evq_star, evq_and, evq_or, evq_not, evq_ite, evq_call, evq_tup, evq_list, evq_comp, evq_comp2, evq_comp3, evq_mapF, evq_seqI, evq_rangeI, evq_enumI, evq_setI, fzAll, ownAt, Mine.R.ds, Mine.R.fz, Mine.D.truth, List.map_cons, List.map_nil, List.getElem?_cons_zero, List.getElem?_cons_succ, List.getElem?_nil, Option.map_some, Option.map_none, List.set_cons_zero, List.set_cons_succ, List.getElem?_set, List.length_set, Nat.reduceLT, eq_str, ne_str, notin_str, in_str1, replace1, List.cons.injEq, and_true, and_false, true_and, false_and, Nat.reduceEqDiff, decide_true, decide_false, reduceCtorEq, Bool.not_true, Bool.not_false, Nat.reduceAdd, List.isEmpty_cons, List.isEmpty_nil, Nat.reduceLeDiff, Nat.zero_le, Option.isSome_some, Option.isSome_none, noApp_eq, List.all_cons, List.all_nil, appOK_val, appOK_own, appOK_unset, appOK_app, Bool.and_true, Bool.true_and, reduceIte, List.mem_cons, List.not_mem_nil, or_false, false_or, or_true, true_or, itemsOf, Option.bind_some, compGo, turnD_tt, o_len, o_lens, o_sub, o_neg, o_addi, o_startswith, o_endswith, le_lim, lt_lim, List.length_cons, List.length_nil, Nat.zero_add, *]) <;> rfl))
end
theorem m12_ev {cf : Nat → List D → Option D} {x0 x1 x2 x3 x5 x6 x7 x9 x10 x11 x12 x13 : Slot} {RD TT : List D} {m : D} (h : cf 25 [.list RD, .list TT, .list []] = some m) :
    ev1 cf (.call 25 (.cons (.var 8) (.cons (.var 4) (.cons (.list .nil) .nil)))) [x0, x1, x2, x3, .val (.list TT), x5, x6, x7, .val (.list RD), x9, x10, x11, x12, x13] = some m := by
  (((try simp (config := {failIfUnchanged := false}) only [ev1_eq, evT_eq, evI_eq, one_some, theItems_some, truthR_some, evq_const, evq_var, evq_op, evq_nil, evq_cons, evq_star, evq_and, evq_or, evq_not, evq_ite, evq_call, evq_tup, evq_list, evq_comp, evq_comp2, evq_comp3, evq_mapF, evq_seqI, evq_rangeI, evq_enumI, evq_setI, fzAll, ownAt, Mine.R.ds, Mine.R.fz, Mine.D.truth, List.map_cons, List.map_nil, List.getElem?_cons_zero, List.getElem?_cons_succ, List.getElem?_nil, Option.map_some, Option.map_none, List.set_cons_zero, List.set_cons_succ, List.getElem?_set, List.length_set, Nat.reduceLT, eq_str, ne_str, notin_str, in_str1, replace1, List.cons.injEq, and_true, and_false, true_and, false_and, Nat.reduceEqDiff, decide_true, decide_false, reduceCtorEq, Bool.not_true, Bool.not_false, Nat.reduceAdd, List.isEmpty_cons, List.isEmpty_nil, Nat.reduceLeDiff, Nat.zero_le, Option.isSome_some, Option.isSome_none, noApp_eq, List.all_cons, List.all_nil, appOK_val, appOK_own, appOK_unset, appOK_app, Bool.and_true, Bool.true_and, reduceIte, List.mem_cons, List.not_mem_nil, or_false, false_or, or_true, true_or, itemsOf, Option.bind_some, compGo, turnD_tt, o_len, o_lens, o_sub, o_neg, o_addi, o_startswith, o_endswith, le_lim, lt_lim, List.length_cons, List.length_nil, Nat.zero_add, *]) <;> rfl))
theorem range6_ev {cf : Nat → List D → Option D} {n : Nat} {i : Int} {ρ : List Slot} {l : List D} (h : opRange [.int i] = some l) : evI cf (.rangeI (.cons (.const (.int i)) .nil)) ρ = some l := by
  rw [evI_eq]
  simp only [ev, Option.map_some, List.map_cons, List.map_nil, R.ds, h]
  rfl
theorem law03_main (ns : List Int) : ∃ ρ', ex (callF fns03 40) s_law [.val (.list (ns.map .int)), .val (.tok 0), .unset, .unset, .unset, .unset, .unset, .unset, .unset, .unset, .unset, .unset, .unset, .unset] = some (ρ', .ret (.bool true)) := by
  have hc : ev (callF fns03 40) (.comp 13 (.rangeI (.cons (.const (.int 11)) .nil)) (.const (.bool true)) lE) [.val (.list (ns.map .int)), .val (.tok 0), .unset, .unset, .unset, .unset, .unset, .unset, .unset, .unset, .unset, .unset, .unset, .unset] = some [.own (sD (S03 ns))] := by
    refine comp_run (items := (List.range 11).map fun (k : Nat) => .int (k : Int)) rfl ?_
    refine compGo_map fun k hk => ?_
    have hk6 : k < 11 := List.mem_range.mp hk
    exact sum_turn (o_slice3 (n := 11) (by omega) (by omega) (by omega)) o_sumi o_absi rfl rfl
  generalize S03 ns = s at hc
  have hc1 : ∀ {x : X} {ρ : List Slot} {l : List D}, ev (callF fns03 40) x ρ = some [.own l] → ev1 (callF fns03 40) x ρ = some (.list l) := fun h => by rw [ev1_eq, h]; rfl
  refine Exists.elim (for_range (cf := callF fns03 40) (i := 2) (b := tO) (a := 0) (m := 6) (ρ := [.val (.list (ns.map .int)), .val (.tok 0), .unset, .val (.list (sD s)), .own (tD []), .unset, .unset, .unset, .unset, .unset, .unset, .unset, .unset, .unset]) (I := fun k ρ => ∃ y2 y5 y6 y7 t, TreeOK t ∧ t.length ≤ 3 * k ∧ (∀ i, appOK i y2 = true) ∧ (∀ i, appOK i y5 = true) ∧ (∀ i, appOK i y6 = true) ∧ (∀ i, appOK i y7 = true) ∧
    ρ = [.val (.list (ns.map .int)), .val (.tok 0), y2, .val (.list (sD s)), .own (tD t), y5, y6, y7, .unset, .unset, .unset, .unset, .unset, .unset]) ⟨.unset, .unset, .unset, .unset, [], ⟨fun _ h => (nomatch h), fun _ h => (nomatch h), fun _ _ h => (nomatch h)⟩, by simp, fun _ => rfl, fun _ => rfl, fun _ => rfl, fun _ => rfl, rfl⟩ ?hs) ?hm
  case hs =>
    rintro k ρ _ hk ⟨y2, y5, y6, y7, t, ht, hl, a2, a5, a6, a7, rfl⟩
    obtain ⟨z5, z6, z7, t', e, ht', hl', ha⟩ := to_turn (cf := callF fns03 40) (x0 := .val (.list (ns.map .int))) (x1 := .val (.tok 0)) (x5 := y5) (x7 := y7) (x8 := .unset) (x9 := .unset) (x10 := .unset) (x11 := .unset) (x12 := .unset) (x13 := .unset) (s := s) (k := k) (by omega) (x6 := y6) ht (by omega)
      (by simp only [List.all_cons, List.all_nil, Bool.and_true, appOK_val, appOK_unset, a5, a7, Bool.true_and]) (a6 6)
    exact ⟨_, .next, e, .inl rfl, _, _, _, _, t', ht', by omega, fun _ => rfl, fun _ => rfl, fun _ => rfl, fun i => ha i (a7 i), rfl⟩
  case hm =>
  rintro ρ1 ⟨f1, y2, y5, y6, y7, t, ht, hl, a2, a5, a6, a7, rfl⟩
  refine Exists.elim (for_range (cf := callF fns03 40) (i := 2) (b := rO) (a := 0) (m := 5) (ρ := [.val (.list (ns.map .int)), .val (.tok 0), y2, .val (.list (sD s)), .own (tD t), y5, y6, y7, .own (([] : List Rule).map Rule.D), .unset, .unset, .unset, .unset, .unset]) (I := fun k ρ => ∃ y2 y5 y9 y10 y11 R, (∀ r ∈ R, RuleOK r) ∧ R.length ≤ k ∧
    ρ = [.val (.list (ns.map .int)), .val (.tok 0), y2, .val (.list (sD s)), .own (tD t), y5, y6, y7, .own (R.map Rule.D), y9, y10, y11, .unset, .unset]) ⟨y2, y5, .unset, .unset, .unset, [], fun _ h => (nomatch h), by simp, rfl⟩ ?hs) ?hm
  case hs =>
    rintro k ρ _ hk ⟨y2, y5, y9, y10, y11, R, hR, hRl, rfl⟩
    obtain ⟨l, z5, z9, z10, z11, e⟩ := rO_turn 38 (x0 := .val (.list (ns.map .int))) (x4 := .own (tD t)) (x5 := y5) (x6 := y6) (x7 := y7) (x9 := y9) (x10 := y10) (x11 := y11) (x12 := .unset) (x13 := .unset) (s := s) (k := k) (by omega) (acc := R.map Rule.D) (by unfold lim; simp; omega)
    refine ⟨_, .next, e, .inl rfl, _, _, _, _, _, R ++ [rule03 l], ?_, by simp; omega, by rw [List.map_append]; rfl⟩
    intro r hr
    rcases List.mem_append.mp hr with hr | hr
    · exact hR r hr
    · rw [List.mem_singleton.mp hr]; exact rule03_ok l
  case hm =>
  rintro ρ2 ⟨f2, y2', y5', y9, y10, y11, R, hR, hRl, rfl⟩
  have hm := met_ok hR ht (by omega) 3 30 (a := []) (by omega) (by simp) (by simp)
  have hm' : callF fns03 40 25 [.list (R.map Rule.D), .list (tD t), .list []] = some (.list (tD (metP R t 4 []))) := hm
  have f3 : ∃ ρ3, forGo (put1 6) (ex (callF fns03 40) lO) (tD t) [.val (.list (ns.map .int)), .val (.tok 0), y2', .val (.list (sD s)), .val (.list (tD t)), y5', y6, y7, .val (.list (R.map Rule.D)), y9, y10, y11, .val (.list (tD (metP R t 4 []))), .unset] = some (ρ3, .next) := by
    have key : ∀ (l : List Names), (∀ n ∈ l, n ∈ t) → ∀ x6, ∃ ρ3, forGo (put1 6) (ex (callF fns03 40) lO) (tD l) [.val (.list (ns.map .int)), .val (.tok 0), y2', .val (.list (sD s)), .val (.list (tD t)), y5', x6, y7, .val (.list (R.map Rule.D)), y9, y10, y11, .val (.list (tD (metP R t 4 []))), .unset] = some (ρ3, .next) := by
      intro l
      induction l with
      | nil => intro _ x6; exact ⟨_, rfl⟩
      | cons n l ih =>
        intro h x6
        obtain ⟨ρ3, e⟩ := ih (fun q hq => h q (List.mem_cons_of_mem _ hq)) (.val (nD n))
        exact ⟨ρ3, R_forCons (st := put1 6) rfl (lO_turn hR ht (h n List.mem_cons_self)) (R_fNext e)⟩
    exact key t (fun _ h => h) y6
  obtain ⟨ρ3, f3⟩ := f3
  unfold tO s_law at f1
  unfold rO s_law at f2
  unfold lO s_law at f3
  unfold lE s_law at hc
  unfold s_law
  simp only at f1 f2 f3 hc ⊢
  have hn8 : noApp 8 [.val (.list (ns.map .int)), .val (.tok 0), y2, .val (.list (sD s)), .own (tD t), y5, y6, y7, .unset, .unset, .unset, .unset, .unset, .unset] = true := by
    simp only [noApp_eq, List.all_cons, List.all_nil, Bool.and_true, appOK_val, appOK_own, appOK_unset, a2, a5, a6, a7, Bool.true_and]
  refine ⟨ρ3, R_seq (R_assign (hc1 hc) rfl) (R_next ?_)⟩
  refine R_seq (R_assignO (l := []) rfl rfl rfl) (R_next ?_)
  refine R_seq (R_for (range6_ev (n := 6) (range1_eq (n := 6) (by omega))) f1) (R_next ?_)
  refine R_seq (R_assignO (l := []) hn8 rfl rfl) (R_next ?_)
  refine R_seq (R_for (range6_ev (n := 5) (range1_eq (n := 5) (by omega))) f2) (R_next ?_)
  refine R_seq (R_seq (R_fz rfl rfl) (R_next (R_seq (R_fz rfl rfl) (R_next (R_assign (m12_ev hm') rfl))))) (R_next ?_)
  refine R_seq (R_seq (R_fz_no rfl) (R_next (R_for rfl f3))) (R_next ?_)
  exact R_seq (R_ret rfl) R_out_ret
end Mine
end P03hx
open PySem PySem.Calls PyProof.Rows PySem.Builtin.Str PySem.W PySem.W.X PySem.W.ZRun
namespace Mine
theorem lookup_memN {β : Type} {x : Nat} {b : β} : ∀ {l : List (Nat × β)}, l.lookup x = some b → (x, b) ∈ l
  | [], e => by cases e
  | (y, c) :: r, e => by
    rw [List.lookup_cons] at e
    cases hx : x == y with
    | true =>
      rw [hx] at e
      cases e
      rw [beq_iff_eq.mp hx]
      exact List.mem_cons_self
    | false =>
      rw [hx] at e
      exact List.mem_cons_of_mem _ (lookup_memN e)
noncomputable def rho03 (ns : List Int) : List Slot := [.val (.list (ns.map .int))] ++ List.replicate 13 .unset
theorem body_law_dressed : fn_law_dressed.body = s_law_dressed := by delta fn_law_dressed; exact Eq.refl _
theorem rho03_plain (ns : List Int) : PlainRho (rho03 ns) := by
  intro j
  match j with
  | 0 => exact .inr ⟨ns, rfl⟩
  | j + 1 =>
    left
    unfold slotAt rho03
    rw [List.getD_eq_getElem?_getD, List.singleton_append, List.getElem?_cons_succ, List.getElem?_replicate]
    split <;> rfl
theorem law03_true (ns : List Int) : ∃ ρ', ex (callF fns03 40) s_law ((rho03 ns).set 1 (.val (.tok 0))) = some (ρ', .ret (.bool true)) :=
  law03_main ns
end Mine
set_option maxHeartbeats 0 in
theorem PySem.Challenge.cw_dn0069_03_holds : PySem.Challenge.rw_dn0069_03.Holds := by
  w_on; refine holds_law Mine.said03 fun said => ?_
  refine holds_openX (q := Mine.view03) (loose := [PySem.Str.ofString "_twin_re_1", PySem.Str.ofString "_special_chars_map"]) (Xt := fun s => xlAt Mine.view03 [] s && recOk (RowW.records PySem.Challenge.rw_dn0069_03.row.toRowW) s) (XP := XL Mine.view03 []) (Yf := obsZ Mine.zas) (Ya := valZ Mine.zk 221 739) (N := 5194) ?hl (fun s e => xl_of s (Bool.and_eq_true_iff.mp e).1) XL.keeps (by rfl) (by rfl) (by rfl) (fun s e => recFacts_of (Bool.and_eq_true_iff.mp e).2) (by rfl) (by first | assumption | decide +kernel) (by decide +kernel) ⟨rfl, rfl, rfl, rfl, rfl, by decide +kernel⟩ ?hw ?hc
  case hl => exact Mine.hleft
  case hw => w_witness2
  k_fill
  intro w s₀ s₁ mg mb G y fa o pm cd doc dV kV ho hd hcd hD hmg hg args vals as hL0 hpre hlay hrd hwl hlo
  have Zf := z_facts Mine.zkeys y
  have KX := InK.keeps w s₀.heap s₁.heap Zf.2.1 hL0.keeps
  have ZN := Zf.2.2.1
  refine Ground.open G ?_
  intro T0 B D TE TW
  wrow_args hpre hlay hrd hwl hlo
  obtain ⟨hat, hsz⟩ := script_at hL0
  rw [ZN] at hat hsz
  subst hat
  have hfa := Value.ref.inj (Option.some.inj (hmg.symm.trans (mg_of (v := .ref 220) KX T0.g rfl)))
  subst hfa
  refine enter_call ?_
  have hT : TabsAt [(61, 57)] s₁.heap := List.forall_mem_cons.mpr ⟨⟨codeHd_of_K KX (by kernel_rfl), KX 57 _ rfl⟩, fun _ h => nomatch h⟩
  have X := Mine.ghost_filter (c := 61) (P := 57) KX
  rename IntsAre _ _ => hI
  rename Heap.IsList _ _ _ => hIL
  rename List Int => ns
  have hlen := hI.length
  have hobj := script_obj hL0 hIL
  have hcx : ∀ T, Mine.Inj T → Mine.CxOk (Mine.mkCx PySem.Challenge.rw_dn0069_03.row.prog w s₁.heap 61 57 Mine.qs03 mg mb Mine.fa03 T) := fun T1 h1 => Mine.cxOk_of hT X T0 (by decide +kernel) rfl (by rfl) h1
  have hN : ∀ T, Mine.GN (Mine.mkCx PySem.Challenge.rw_dn0069_03.row.prog w s₁.heap 61 57 Mine.qs03 mg mb Mine.fa03 T) Mine.fs03 Mine.bs03 := fun T => Mine.gn_of (List.forall_mem_cons.mpr ⟨mg_of KX T0.g rfl, List.forall_mem_cons.mpr ⟨mg_of KX T0.g rfl, List.forall_mem_cons.mpr ⟨mg_of KX T0.g rfl, List.forall_mem_cons.mpr ⟨mg_of KX T0.g rfl, List.forall_mem_cons.mpr ⟨mg_of KX T0.g rfl, List.forall_mem_cons.mpr ⟨mg_of KX T0.g rfl, List.forall_mem_cons.mpr ⟨mg_of KX T0.g rfl, List.forall_mem_cons.mpr ⟨mg_of KX T0.g rfl, List.forall_mem_cons.mpr ⟨mg_of KX T0.g rfl, List.forall_mem_cons.mpr ⟨mg_of KX T0.g rfl, List.forall_mem_cons.mpr ⟨mg_of KX T0.g rfl, List.forall_mem_cons.mpr ⟨mg_of KX T0.g rfl, List.forall_mem_cons.mpr ⟨mg_of KX T0.g rfl, List.forall_mem_cons.mpr ⟨mg_of KX T0.g rfl, List.forall_mem_cons.mpr ⟨mg_of KX T0.g rfl, fun _ h => nomatch h⟩⟩⟩⟩⟩⟩⟩⟩⟩⟩⟩⟩⟩⟩⟩) (List.forall_mem_cons.mpr ⟨mg_none_of KX T0.g rfl, List.forall_mem_cons.mpr ⟨mg_none_of KX T0.g rfl, List.forall_mem_cons.mpr ⟨mg_none_of KX T0.g rfl, List.forall_mem_cons.mpr ⟨mg_none_of KX T0.g rfl, List.forall_mem_cons.mpr ⟨mg_none_of KX T0.g rfl, List.forall_mem_cons.mpr ⟨mg_none_of KX T0.g rfl, List.forall_mem_cons.mpr ⟨mg_none_of KX T0.g rfl, List.forall_mem_cons.mpr ⟨mg_none_of KX T0.g rfl, List.forall_mem_cons.mpr ⟨mg_none_of KX T0.g rfl, List.forall_mem_cons.mpr ⟨mg_none_of KX T0.g rfl, List.forall_mem_cons.mpr ⟨mg_none_of KX T0.g rfl, List.forall_mem_cons.mpr ⟨mg_none_of KX T0.g rfl, List.forall_mem_cons.mpr ⟨mg_none_of KX T0.g rfl, List.forall_mem_cons.mpr ⟨mg_none_of KX T0.g rfl, List.forall_mem_cons.mpr ⟨mg_none_of KX T0.g rfl, List.forall_mem_cons.mpr ⟨mg_none_of KX T0.g rfl, fun _ h => nomatch h⟩⟩⟩⟩⟩⟩⟩⟩⟩⟩⟩⟩⟩⟩⟩⟩)
  have hsp : mg (PySem.Str.ofString "_special_chars_map") = some (.ref 45) := mg_of KX T0.g rfl
  have htw : mg (PySem.Str.ofString "_twin_re_1") = some (.ref 43) := mg_of KX T0.g rfl
  have hTG : ∀ T, ∃ TG : Mine.TabG (Mine.mkCx PySem.Challenge.rw_dn0069_03.row.prog w s₁.heap 61 57 Mine.qs03 mg mb Mine.fa03 T), TG.d = 45 := fun T => Mine.tabG_of X (Nat.ne_of_beq_eq_false rfl) rfl rfl (by decide +kernel) (by decide +kernel)
  have hPG : ∀ T, ∃ PG : Mine.PatG (Mine.mkCx PySem.Challenge.rw_dn0069_03.row.prog w s₁.heap 61 57 Mine.qs03 mg mb Mine.fa03 T), PG.P = 43 := fun T => ⟨{ P := 43, C := 42, codes := _, nP := Nat.ne_of_beq_eq_false rfl, nC := Nat.ne_of_beq_eq_false rfl, at0 := ⟨⟨_, _, _, _, _, 0, X 43 _ rfl, rfl⟩, ⟨_, X 42 _ rfl⟩, by decide +kernel⟩ }, rfl⟩
  have hfn : ∀ T, ∀ i fn, Mine.fns03 i = some fn → ∃ ε fd body ps, Mine.FnIs (Mine.mkCx PySem.Challenge.rw_dn0069_03.row.prog w s₁.heap 61 57 Mine.qs03 mg mb Mine.fa03 T) ε i fn fd body ps ∧ Mine.SoundSs (Mine.mkCx PySem.Challenge.rw_dn0069_03.row.prog w s₁.heap 61 57 Mine.qs03 mg mb Mine.fa03 T) ε body fn.body := by
    intro T
    obtain ⟨TG, hTGd⟩ := hTG T
    obtain ⟨PG, hPGP⟩ := hPG T
    have hdr : Mine.SoundSs (Mine.mkCx PySem.Challenge.rw_dn0069_03.row.prog w s₁.heap 61 57 Mine.qs03 mg mb Mine.fa03 T) Mine.sc_law_dressed (Mine.nthBody PySem.Challenge.pw_dn0069_03 28) Mine.fn_law_dressed.body := by
      rw [Mine.body_law_dressed]; exact @Mine.snd_law_dressed _ (hN T)
    have it10 : ∃ ε fd body ps, Mine.FnIs (Mine.mkCx PySem.Challenge.rw_dn0069_03.row.prog w s₁.heap 61 57 Mine.qs03 mg mb Mine.fa03 T) ε 17 Mine.fn_law_dressed fd body ps ∧ Mine.SoundSs (Mine.mkCx PySem.Challenge.rw_dn0069_03.row.prog w s₁.heap 61 57 Mine.qs03 mg mb Mine.fa03 T) ε body Mine.fn_law_dressed.body := by
      refine ⟨_, _, _, _, Mine.FnIs.ofK (cx := (Mine.mkCx PySem.Challenge.rw_dn0069_03.row.prog w s₁.heap 61 57 Mine.qs03 mg mb Mine.fa03 T)) (ε := Mine.sc_law_dressed) (i := 17) (a := 194) (fn := Mine.fn_law_dressed) (body := (Mine.nthBody PySem.Challenge.pw_dn0069_03 28)) (ps := [PySem.Str.ofString "code"]) X rfl (Nat.ne_of_beq_eq_false rfl) rfl (by rfl) (Nat.ne_of_beq_eq_false rfl) (fun c q e => nomatch e) (Mine.bindOK_plain rfl (Mine.len1 fun _ => rfl)) rfl rfl rfl rfl rfl, ?_⟩
      with_reducible exact hdr
    have all : ∀ p ∈ ([(0, Mine.fn_escape), (1, Mine.fn_translate), (2, Mine.fn_fspath), (3, Mine.fn_get_sep), (4, Mine.fn_join), (5, Mine.fn_split), (6, Mine.fn_dirname), (14, Mine.fn_law_one), (15, Mine.fn_law_takes), (16, Mine.fn_law_means), (17, Mine.fn_law_dressed), (23, Mine.fn_law_hits), (24, Mine.fn_law_out), (25, Mine.fn_law_met)] : List (Nat × Mine.Fn)), ∃ ε fd body ps, Mine.FnIs (Mine.mkCx PySem.Challenge.rw_dn0069_03.row.prog w s₁.heap 61 57 Mine.qs03 mg mb Mine.fa03 T) ε p.1 p.2 fd body ps ∧ Mine.SoundSs (Mine.mkCx PySem.Challenge.rw_dn0069_03.row.prog w s₁.heap 61 57 Mine.qs03 mg mb Mine.fa03 T) ε body p.2.body :=
      List.forall_mem_cons.mpr ⟨⟨_, _, _, _, Mine.FnIs.ofK (cx := (Mine.mkCx PySem.Challenge.rw_dn0069_03.row.prog w s₁.heap 61 57 Mine.qs03 mg mb Mine.fa03 T)) (ε := Mine.sc_escape) (i := 0) (a := 55) (fn := Mine.fn_escape) (body := (Mine.nthBody PySem.Challenge.pw_dn0069_03 5)) (ps := [PySem.Str.ofString "pattern"]) X rfl (Nat.ne_of_beq_eq_false rfl) rfl (by rfl) (Nat.ne_of_beq_eq_false rfl) (fun c q e => nomatch e) (Mine.bindOK_plain rfl (Mine.len1 fun _ => rfl)) rfl rfl rfl rfl rfl, Mine.snd_escape (hN T) TG (hTGd ▸ hsp)⟩,
      List.forall_mem_cons.mpr ⟨⟨_, _, _, _, Mine.FnIs.ofK (cx := (Mine.mkCx PySem.Challenge.rw_dn0069_03.row.prog w s₁.heap 61 57 Mine.qs03 mg mb Mine.fa03 T)) (ε := Mine.sc_translate 61) (i := 1) (a := 62) (fn := Mine.fn_translate) (body := (Mine.nthBody PySem.Challenge.pw_dn0069_03 7)) (ps := [PySem.Str.ofString "pat", PySem.Str.ofString "STAR", PySem.Str.ofString "QUESTION_MARK"]) X rfl (Nat.ne_of_beq_eq_false rfl) rfl (by rfl) (Nat.ne_of_beq_eq_false rfl) (fun c q e => by cases e; exact ⟨rfl, rfl⟩) (Mine.bindOK_plain rfl (Mine.len3 fun _ _ _ => rfl)) rfl rfl rfl rfl rfl, Mine.snd_translate (hN T) (Mine.lamG_of hT T0 (List.pairwise_singleton _ _)) PG (hPGP ▸ htw) rfl⟩,
      List.forall_mem_cons.mpr ⟨⟨_, _, _, _, Mine.FnIs.ofK (cx := (Mine.mkCx PySem.Challenge.rw_dn0069_03.row.prog w s₁.heap 61 57 Mine.qs03 mg mb Mine.fa03 T)) (ε := Mine.sc_fspath) (i := 2) (a := 135) (fn := Mine.fn_fspath) (body := (Mine.nthBody PySem.Challenge.pw_dn0069_03 16)) (ps := [PySem.Str.ofString "path"]) X rfl (Nat.ne_of_beq_eq_false rfl) rfl (by rfl) (Nat.ne_of_beq_eq_false rfl) (fun c q e => nomatch e) (Mine.bindOK_plain rfl (Mine.len1 fun _ => rfl)) rfl rfl rfl rfl rfl, Mine.snd_fspath (hN T)⟩,
      List.forall_mem_cons.mpr ⟨⟨_, _, _, _, Mine.FnIs.ofK (cx := (Mine.mkCx PySem.Challenge.rw_dn0069_03.row.prog w s₁.heap 61 57 Mine.qs03 mg mb Mine.fa03 T)) (ε := Mine.sc_get_sep) (i := 3) (a := 149) (fn := Mine.fn_get_sep) (body := (Mine.nthBody PySem.Challenge.pw_dn0069_03 20)) (ps := [PySem.Str.ofString "path"]) X rfl (Nat.ne_of_beq_eq_false rfl) rfl (by rfl) (Nat.ne_of_beq_eq_false rfl) (fun c q e => nomatch e) (Mine.bindOK_plain rfl (Mine.len1 fun _ => rfl)) rfl rfl rfl rfl rfl, Mine.snd_get_sep (hN T)⟩,
      List.forall_mem_cons.mpr ⟨⟨_, _, _, _, Mine.FnIs.ofK (cx := (Mine.mkCx PySem.Challenge.rw_dn0069_03.row.prog w s₁.heap 61 57 Mine.qs03 mg mb Mine.fa03 T)) (ε := Mine.sc_join) (i := 4) (a := 156) (fn := Mine.fn_join) (body := (Mine.nthBody PySem.Challenge.pw_dn0069_03 21)) (ps := [PySem.Str.ofString "a", PySem.Str.ofString "p"]) X rfl (Nat.ne_of_beq_eq_false rfl) rfl (by rfl) (Nat.ne_of_beq_eq_false rfl) (fun c q e => nomatch e) (Mine.bindOK_va rfl rfl fun v r => by cases r <;> kernel_rfl) rfl rfl rfl rfl rfl, Mine.snd_join (hN T)⟩,
      List.forall_mem_cons.mpr ⟨⟨_, _, _, _, Mine.FnIs.ofK (cx := (Mine.mkCx PySem.Challenge.rw_dn0069_03.row.prog w s₁.heap 61 57 Mine.qs03 mg mb Mine.fa03 T)) (ε := Mine.sc_split) (i := 5) (a := 163) (fn := Mine.fn_split) (body := (Mine.nthBody PySem.Challenge.pw_dn0069_03 22)) (ps := [PySem.Str.ofString "p"]) X rfl (Nat.ne_of_beq_eq_false rfl) rfl (by rfl) (Nat.ne_of_beq_eq_false rfl) (fun c q e => nomatch e) (Mine.bindOK_plain rfl (Mine.len1 fun _ => rfl)) rfl rfl rfl rfl rfl, Mine.snd_split (hN T)⟩,
      List.forall_mem_cons.mpr ⟨⟨_, _, _, _, Mine.FnIs.ofK (cx := (Mine.mkCx PySem.Challenge.rw_dn0069_03.row.prog w s₁.heap 61 57 Mine.qs03 mg mb Mine.fa03 T)) (ε := Mine.sc_dirname) (i := 6) (a := 170) (fn := Mine.fn_dirname) (body := (Mine.nthBody PySem.Challenge.pw_dn0069_03 23)) (ps := [PySem.Str.ofString "p"]) X rfl (Nat.ne_of_beq_eq_false rfl) rfl (by rfl) (Nat.ne_of_beq_eq_false rfl) (fun c q e => nomatch e) (Mine.bindOK_plain rfl (Mine.len1 fun _ => rfl)) rfl rfl rfl rfl rfl, Mine.snd_dirname (hN T)⟩,
      List.forall_mem_cons.mpr ⟨⟨_, _, _, _, Mine.FnIs.ofK (cx := (Mine.mkCx PySem.Challenge.rw_dn0069_03.row.prog w s₁.heap 61 57 Mine.qs03 mg mb Mine.fa03 T)) (ε := Mine.sc_law_one) (i := 14) (a := 177) (fn := Mine.fn_law_one) (body := (Mine.nthBody PySem.Challenge.pw_dn0069_03 25)) (ps := [PySem.Str.ofString "part", PySem.Str.ofString "sign"]) X rfl (Nat.ne_of_beq_eq_false rfl) rfl (by rfl) (Nat.ne_of_beq_eq_false rfl) (fun c q e => nomatch e) (Mine.bindOK_plain rfl (Mine.len2 fun _ _ => rfl)) rfl rfl rfl rfl rfl, Mine.snd_law_one (hN T)⟩,
      List.forall_mem_cons.mpr ⟨⟨_, _, _, _, Mine.FnIs.ofK (cx := (Mine.mkCx PySem.Challenge.rw_dn0069_03.row.prog w s₁.heap 61 57 Mine.qs03 mg mb Mine.fa03 T)) (ε := Mine.sc_law_takes) (i := 15) (a := 182) (fn := Mine.fn_law_takes) (body := (Mine.nthBody PySem.Challenge.pw_dn0069_03 26)) (ps := [PySem.Str.ofString "parts", PySem.Str.ofString "star", PySem.Str.ofString "name"]) X rfl (Nat.ne_of_beq_eq_false rfl) rfl (by rfl) (Nat.ne_of_beq_eq_false rfl) (fun c q e => nomatch e) (Mine.bindOK_plain rfl (Mine.len3 fun _ _ _ => rfl)) rfl rfl rfl rfl rfl, Mine.snd_law_takes (hN T)⟩,
      List.forall_mem_cons.mpr ⟨⟨_, _, _, _, Mine.FnIs.ofK (cx := (Mine.mkCx PySem.Challenge.rw_dn0069_03.row.prog w s₁.heap 61 57 Mine.qs03 mg mb Mine.fa03 T)) (ε := Mine.sc_law_means) (i := 16) (a := 187) (fn := Mine.fn_law_means) (body := (Mine.nthBody PySem.Challenge.pw_dn0069_03 27)) (ps := [PySem.Str.ofString "items", PySem.Str.ofString "name"]) X rfl (Nat.ne_of_beq_eq_false rfl) rfl (by rfl) (Nat.ne_of_beq_eq_false rfl) (fun c q e => nomatch e) (Mine.bindOK_plain rfl (Mine.len2 fun _ _ => rfl)) rfl rfl rfl rfl rfl, Mine.snd_law_means (hN T)⟩,
      List.forall_mem_cons.mpr ⟨by with_reducible exact it10,
      List.forall_mem_cons.mpr ⟨⟨_, _, _, _, Mine.FnIs.ofK (cx := (Mine.mkCx PySem.Challenge.rw_dn0069_03.row.prog w s₁.heap 61 57 Mine.qs03 mg mb Mine.fa03 T)) (ε := Mine.sc_law_hits) (i := 23) (a := 201) (fn := Mine.fn_law_hits) (body := (Mine.nthBody PySem.Challenge.pw_dn0069_03 29)) (ps := [PySem.Str.ofString "rule", PySem.Str.ofString "path", PySem.Str.ofString "star"]) X rfl (Nat.ne_of_beq_eq_false rfl) rfl (by rfl) (Nat.ne_of_beq_eq_false rfl) (fun c q e => nomatch e) (Mine.bindOK_plain rfl (Mine.len3 fun _ _ _ => rfl)) rfl rfl rfl rfl rfl, Mine.snd_law_hits (hN T)⟩,
      List.forall_mem_cons.mpr ⟨⟨_, _, _, _, Mine.FnIs.ofK (cx := (Mine.mkCx PySem.Challenge.rw_dn0069_03.row.prog w s₁.heap 61 57 Mine.qs03 mg mb Mine.fa03 T)) (ε := Mine.sc_law_out) (i := 24) (a := 208) (fn := Mine.fn_law_out) (body := (Mine.nthBody PySem.Challenge.pw_dn0069_03 30)) (ps := [PySem.Str.ofString "rules", PySem.Str.ofString "path", PySem.Str.ofString "star"]) X rfl (Nat.ne_of_beq_eq_false rfl) rfl (by rfl) (Nat.ne_of_beq_eq_false rfl) (fun c q e => nomatch e) (Mine.bindOK_plain rfl (Mine.len3 fun _ _ _ => rfl)) rfl rfl rfl rfl rfl, Mine.snd_law_out (hN T)⟩,
      List.forall_mem_cons.mpr ⟨⟨_, _, _, _, Mine.FnIs.ofK (cx := (Mine.mkCx PySem.Challenge.rw_dn0069_03.row.prog w s₁.heap 61 57 Mine.qs03 mg mb Mine.fa03 T)) (ε := Mine.sc_law_met) (i := 25) (a := 215) (fn := Mine.fn_law_met) (body := (Mine.nthBody PySem.Challenge.pw_dn0069_03 31)) (ps := [PySem.Str.ofString "rules", PySem.Str.ofString "tree", PySem.Str.ofString "above"]) X rfl (Nat.ne_of_beq_eq_false rfl) rfl (by rfl) (Nat.ne_of_beq_eq_false rfl) (fun c q e => nomatch e) (Mine.bindOK_plain rfl (Mine.len3 fun _ _ _ => rfl)) rfl rfl rfl rfl rfl, Mine.snd_law_met (hN T)⟩,
      fun _ h => nomatch h⟩⟩⟩⟩⟩⟩⟩⟩⟩⟩⟩⟩⟩⟩
    exact fun i fn h => all (i, fn) (Mine.lookup_memN h)
  obtain ⟨ρ', he⟩ := Mine.law03_true ns
  have hX : ∀ T, Mine.FnIs (Mine.mkCx PySem.Challenge.rw_dn0069_03.row.prog w s₁.heap 61 57 Mine.qs03 mg mb Mine.fa03 T) Mine.sc_law 35 Mine.fn_law _ (Mine.nthBody PySem.Challenge.pw_dn0069_03 32) [PySem.Str.ofString "script"] := fun T => Mine.FnIs.ofK (cx := (Mine.mkCx PySem.Challenge.rw_dn0069_03.row.prog w s₁.heap 61 57 Mine.qs03 mg mb Mine.fa03 T)) (ε := Mine.sc_law) (i := 35) (a := 220) (fn := Mine.fn_law) (body := (Mine.nthBody PySem.Challenge.pw_dn0069_03 32)) (ps := [PySem.Str.ofString "script"]) X rfl (Nat.ne_of_beq_eq_false rfl) rfl (by rfl) (Nat.ne_of_beq_eq_false rfl) (fun c q e => nomatch e) (Mine.bindOK_plain rfl (Mine.len1 fun _ => rfl)) rfl rfl rfl rfl rfl
  refine Mine.law_run1 (cx := (Mine.mkCx PySem.Challenge.rw_dn0069_03.row.prog w s₁.heap 61 57 Mine.qs03 mg mb Mine.fa03 fun k => k)) (i := 35) (i1 := 1) (n := 40) hcx hX (fun T hi => Mine.calls_ok (hcx T hi) (hfn T) 40) (fun T => Mine.soundS_assignO (x := PySem.Str.ofString "star") rfl (by decide) (Mine.sound_list (.cons (Mine.sound_const rfl) rfl .nil)) (fun _ _ _ => rfl)) (fun T hi => Mine.snd_law (hN T)) (ns := ns) (ρ := Mine.rho03 ns) rfl (Mine.rho03_plain ns) rfl (Nat.le_of_ble_eq_true rfl) he (s := s₁) (F := fun a => ∃ o, (ghostOf s₁.heap [(61, 57)]).get? a = some o) ⟨rfl, by decide, by decide, ⟨_, rfl⟩⟩ (Mine.wd_of hT rfl hg) ?_ (fun T F' s' wd os => Mine.goodWG_of hT (fun _ => rfl) (by wrow_post) wd os)
  exact .list ⟨_, ghost_ne hobj (by simp)⟩ hobj (by rw [hlen]; unfold Mine.lim; omega) (Mine.ints_rep hI)
